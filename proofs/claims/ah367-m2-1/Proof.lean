import JvmDerived
import JvmDerived.Pilot.@@N@@Statement
import JvmDerived.Pilot.@@N@@Code
set_option linter.unusedVariables false
set_option linter.unusedSimpArgs false
namespace Jvm.RoadKit
open Sem ClassFile Op Lib Jvm.Stand Jvm.Free Jvm.LawKit
section Own
variable {p : Program} {l : Launch} {e : Env} {R : Room} {s : State} {m : MethodId} {args : Array Value} {below : List Frame} {meth : Method} {c : Code} {T T' : State} {locs : List Loc} {cells slots : Nat} {g g' : JFrame} {Φ : State → Prop}
/-- from this frame the run comes to a state with Φ -/
def own_G (p : Program) (e : Env) (below : List Frame) (Φ : State → Prop) (T : State) (g : JFrame) : Prop := ∃ t, Steps p.tables e below (T.setTop g) t ∧ Φ t
/-- what the end of a method with the answer Q is -/
def own_E (s : State) (below : List Frame) (Q : Option Value → Heap → List Loc → Prop) (k n : Nat) (t : State) : Prop := ∃ o, t.status = .running ∧ Ended t below o ∧ ∃ v L, o = .returned v ∧ Q v t.heap L ∧ FrameEnd s o t L k n
def own_Al (_ : Stand p l e R s m args below meth c T locs cells slots) (T' : State) : Prop := Stand p l e R s m args below meth c T' locs cells slots
theorem own_go (h : ∀ t, Steps p.tables e below (T'.setTop g') t → Steps p.tables e below (T.setTop g) t) (k : own_G p e below Φ T' g') : own_G p e below Φ T g := by
  obtain ⟨t, a, b⟩ := k
  exact ⟨t, h t a, b⟩
theorem own_on (h : Steps p.tables e below (T.setTop g) (T'.setTop g')) (k : own_G p e below Φ T' g') : own_G p e below Φ T g := by
  obtain ⟨t, a, b⟩ := k
  exact ⟨t, h.trans a, b⟩
theorem own_ret (X : Stand p l e R s m args below meth c T locs cells slots) {Q : Option Value → Heap → List Loc → Prop} {k n : Nat} {v : Option Value} (hv : meth.sig.returnType = none → v = none) (hlocks : meth.locks = false)
    (hst : ∀ fs, (∀ (f : JFrame) (acts : List Action), f.method = m → f.locked = none → f.entered = [] → (doReturn e (T.setTop f) acts v).1 = T.setFrames fs) → Steps p.tables e below (T.setTop g) (T.setFrames fs))
    (hq : Q v T.heap locs) (hc : cells ≤ k) (hn : slots ≤ n) : own_G p e below (own_E s below Q k n) T g := by
  obtain ⟨fs, hr, hrun, hended, hW, hsame⟩ := X.leave hv hlocks
  exact ⟨_, hst fs hr, _, hrun, hended, _, _, rfl, hq, ⟨_, rfl⟩, hW, hsame.mono hc hn⟩
def own_EW (s : State) (below : List Frame) (Q : Option Value → Heap → List Loc → Prop) (k n : Nat) (t : State) : Prop := ∃ o, t.status = .running ∧ Ended t below o ∧ ∃ v L, o = .returned v ∧ Q v t.heap L ∧ ReturnedEndW s o t L k n
theorem own_retW {vm₁ : Vm} (X : Stand p l e R (s.setVm vm₁) m args below meth c T locs cells slots) {q : Nat} (hS : s.Since vm₁ q) (hq' : q ≤ T.heap.size) {Q : Option Value → Heap → List Loc → Prop} {k n : Nat} {v : Option Value} (hv : meth.sig.returnType = none → v = none) (hlocks : meth.locks = false)
    (hst : ∀ fs, (∀ (f : JFrame) (acts : List Action), f.method = m → f.locked = none → f.entered = [] → (doReturn e (T.setTop f) acts v).1 = T.setFrames fs) → Steps p.tables e below (T.setTop g) (T.setFrames fs))
    (hq : Q v T.heap locs) (hc : cells ≤ k) (hn : slots ≤ n) : own_G p e below (own_EW s below Q k n) T g := by
  obtain ⟨fs, hr, hrun, hended, h1, h2, h3, h4⟩ := X.leaveW hS hq' hv hlocks
  exact ⟨_, hst fs hr, _, hrun, hended, _, _, rfl, hq, h1, h2, h3, h4.mono hc hn⟩
theorem own_lrem_eq (x y : Int64) : x - (x / y) * y = x % y := by
  apply Int64.toInt_inj.mp
  have r := rng64 (x % y)
  have hm : (x % y).toInt = x.toInt - y.toInt * x.toInt.tdiv y.toInt := by rw [Int64.toInt_mod, Int.tmod_def]
  have hs : (x - x / y * y).toInt = (x.toInt - y.toInt * x.toInt.tdiv y.toInt).bmod (2 ^ 64) := by
    rw [Int64.toInt_sub, Int64.toInt_mul, Int64.toInt_div, Int.bmod_mul_bmod, Int.sub_bmod_bmod, Int.mul_comm]
  rw [hs, ← hm]
  exact Int.bmod_eq_of_le (by omega) (by omega)
theorem own_lremM {target : State} (X : Stand p l e R s m args below meth c T locs cells slots) (hx : p.tables.exec = Jvm.exec) (hg : g.method = m) {x y : Int64} {rest : List Value} (hd : decode c.code g.pc = .ok (.lrem, 1)) (hs : g.stack = .long y :: .long x :: rest) (hy : y ≠ 0)
    (hr : Steps p.tables e below (T.setTop { g with pc := g.pc + 1, stack := .long (x % y) :: rest }) target) : Steps p.tables e below (T.setTop g) target :=
  XS.lrem X.here hx hg hd hs hy (by rw [own_lrem_eq]; exact hr)
theorem own_nar {v : Value} {t : FieldType} (h : v.isRef = true) : narrow t v = v := by
  rcases ref_cases h with rfl | ⟨a, rfl⟩ <;> cases t <;> rfl
end Own
end Jvm.RoadKit
namespace Jvm.Pilot.@@N@@
open Jvm Jvm.ClassFile Sem Op Lib Jvm.Free Jvm.Stand Jvm.LawKit Jvm.RoadKit Bundle Jvm.Pilot.@@N@@.Jvm.D

def own_max (a b : Int32) : Int32 := if a < b then b else a
/-- the ints of a list as an array's values -/
def own_vs (L : List Int32) : List Value := L.map Value.int
theorem own_vs_at (L : List Int32) (k : Nat) : (own_vs L).getD k (.int (0 : Int32)) = .int (L.getD k 0) := by
  simp only [own_vs, List.getD_eq_getElem?_getD, List.getElem?_map]
  cases L[k]? <;> rfl
theorem own_vs_set (L : List Int32) (k : Nat) (x : Int32) : (own_vs L).set k (.int x) = own_vs (L.set k x) := by
  simp [own_vs, List.map_set]
theorem own_vs_len (L : List Int32) : (own_vs L).length = L.length := by simp [own_vs]
def own_zeros (z : Int32) : List Int32 := List.replicate z.toNatClampNeg 0
theorem own_pad (z : Int32) : ∀ i, (own_vs (own_zeros z)).getD i (.int (0 : Int32)) = ([] : List Value).getD i (.int (0 : Int32)) := fun i => by
  rw [own_vs_at, own_zeros]
  simp only [List.getD_eq_getElem?_getD, List.getElem?_replicate, List.getElem?_nil, Option.getD_none]
  split <;> rfl
theorem own_clamp {j z : Int32} (h : ¬ j < 0 ∧ j < z) : j.toNatClampNeg < z.toNatClampNeg := by
  have h1 := h.1
  have h2 := h.2
  rw [Int32.lt_iff_toInt_lt] at h1 h2
  rw [show (0 : Int32).toInt = 0 from rfl] at h1
  rw [Int32.toNatClampNeg, Int32.toNatClampNeg]
  omega
theorem own_mask (p : Int32) : 0 ≤ (p &&& (2147483647 : Int32)).toInt := by
  have h := mt (Jvm.Free.XT.and_neg32 p (2147483647 : Int32)).mp (fun q => absurd q.2 (by decide))
  rw [Jvm.Free.XT.negI32] at h
  omega
theorem own_mod (p q : Int32) (hq : 0 < q.toInt) : 0 ≤ ((p &&& (2147483647 : Int32)) % q).toInt ∧ ((p &&& (2147483647 : Int32)) % q).toInt < q.toInt := by
  rw [Int32.toInt_mod]
  exact ⟨Int.tmod_nonneg _ (own_mask p), Int.tmod_lt_of_pos _ hq⟩
theorem own_i {x : Int32} (y : Int32) (h : x.toInt = y.toInt) : x = y := Int32.toInt_inj.mp h
theorem own_r2 {p c : Int32} (h : (p &&& (2147483647 : Int32)) % (2 : Int32) = c) : c = 0 ∨ c = 1 := by
  have hm := own_mod p 2 (by decide)
  rw [h, show (2 : Int32).toInt = 2 by decide] at hm
  have q : c.toInt = 0 ∨ c.toInt = 1 := by omega
  exact q.imp (own_i 0) (own_i 1)
theorem own_r3 {p c : Int32} (h : (p &&& (2147483647 : Int32)) % (3 : Int32) = c) : c = 0 ∨ c = 1 ∨ c = 2 := by
  have hm := own_mod p 3 (by decide)
  rw [h, show (3 : Int32).toInt = 3 by decide] at hm
  have q : c.toInt = 0 ∨ c.toInt = 1 ∨ c.toInt = 2 := by omega
  exact q.imp (own_i 0) (Or.imp (own_i 1) (own_i 2))
theorem own_r4 {p c : Int32} (h : (p &&& (2147483647 : Int32)) % (4 : Int32) = c) : c = 0 ∨ c = 1 ∨ c = 2 ∨ c = 3 := by
  have hm := own_mod p 4 (by decide)
  rw [h, show (4 : Int32).toInt = 4 by decide] at hm
  have q : c.toInt = 0 ∨ c.toInt = 1 ∨ c.toInt = 2 ∨ c.toInt = 3 := by omega
  exact q.imp (own_i 0) (Or.imp (own_i 1) (Or.imp (own_i 2) (own_i 3)))
theorem own_r5 {p c : Int32} (h : (p &&& (2147483647 : Int32)) % (5 : Int32) = c) : c = 0 ∨ c = 1 ∨ c = 2 ∨ c = 3 ∨ c = 4 := by
  have hm := own_mod p 5 (by decide)
  rw [h, show (5 : Int32).toInt = 5 by decide] at hm
  have q : c.toInt = 0 ∨ c.toInt = 1 ∨ c.toInt = 2 ∨ c.toInt = 3 ∨ c.toInt = 4 := by omega
  exact q.imp (own_i 0) (Or.imp (own_i 1) (Or.imp (own_i 2) (Or.imp (own_i 3) (own_i 4))))
theorem own_r6 {p c : Int32} (h : (p &&& (2147483647 : Int32)) % (6 : Int32) = c) : c = 0 ∨ c = 1 ∨ c = 2 ∨ c = 3 ∨ c = 4 ∨ c = 5 := by
  have hm := own_mod p 6 (by decide)
  rw [h, show (6 : Int32).toInt = 6 by decide] at hm
  have q : c.toInt = 0 ∨ c.toInt = 1 ∨ c.toInt = 2 ∨ c.toInt = 3 ∨ c.toInt = 4 ∨ c.toInt = 5 := by omega
  exact q.imp (own_i 0) (Or.imp (own_i 1) (Or.imp (own_i 2) (Or.imp (own_i 3) (Or.imp (own_i 4) (own_i 5)))))

def own_put (L : List Int32) (j x : Int32) : List Int32 := L.set j.toNatClampNeg x
theorem own_put_len (L : List Int32) (j x : Int32) : (own_put L j x).length = L.length := by simp [own_put]
theorem own_zeros_len (z : Int32) : (own_zeros z).length = z.toNatClampNeg := by simp [own_zeros]
def own_first (w0 w1 w2 w3 w4 n c : Int32) : Int32 := if (0 : Int32) < n ∧ w0 = c then 0 else if (1 : Int32) < n ∧ w1 = c then 1 else if (2 : Int32) < n ∧ w2 = c then 2 else if (3 : Int32) < n ∧ w3 = c then 3 else if (4 : Int32) < n ∧ w4 = c then 4 else -1
/-- what the law's numbers v1, m1, .., v4, m4 can be -/
def own_list : List (Int32 × Int32 × Int32 × Int32 × Int32 × Int32 × Int32 × Int32) :=
  [0, 1].flatMap fun c1 => (List.range ((own_max 0 c1).toNatClampNeg + 2)).flatMap fun c2 => (List.range ((own_max (own_max 0 c1) (Int32.ofNat c2)).toNatClampNeg + 2)).flatMap fun c3 =>
    (List.range ((own_max (own_max (own_max 0 c1) (Int32.ofNat c2)) (Int32.ofNat c3)).toNatClampNeg + 2)).map fun c4 =>
    (c1, own_max 0 c1, Int32.ofNat c2, own_max (own_max 0 c1) (Int32.ofNat c2), Int32.ofNat c3, own_max (own_max (own_max 0 c1) (Int32.ofNat c2)) (Int32.ofNat c3), Int32.ofNat c4, own_max (own_max (own_max (own_max 0 c1) (Int32.ofNat c2)) (Int32.ofNat c3)) (Int32.ofNat c4))
theorem own_use {P : Int32 × Int32 × Int32 × Int32 × Int32 × Int32 × Int32 × Int32 → Prop} (h : ∀ t ∈ own_list, P t) {c1 m1 c2 m2 c3 m3 c4 m4 : Int32} (hm : (c1, m1, c2, m2, c3, m3, c4, m4) ∈ own_list) : P (c1, m1, c2, m2, c3, m3, c4, m4) := h _ hm
theorem own_two {p1 p2 c1 m1 c2 m2 : Int32} (h1 : (p1 &&& (2147483647 : Int32)) % (2 : Int32) = c1) (hm1 : own_max (0 : Int32) c1 = m1) (h2 : (p2 &&& (2147483647 : Int32)) % (m1 + (2 : Int32)) = c2) (hm2 : own_max m1 c2 = m2) :
    (c1 = 0 ∧ m1 = 0 ∧ c2 = 0 ∧ m2 = 0) ∨ (c1 = 0 ∧ m1 = 0 ∧ c2 = 1 ∧ m2 = 1) ∨ (c1 = 1 ∧ m1 = 1 ∧ c2 = 0 ∧ m2 = 1) ∨ (c1 = 1 ∧ m1 = 1 ∧ c2 = 1 ∧ m2 = 1) ∨ (c1 = 1 ∧ m1 = 1 ∧ c2 = 2 ∧ m2 = 2) := by
  rcases own_r2 h1 with rfl | rfl <;> subst hm1
  · rcases own_r2 h2 with rfl | rfl <;> subst hm2 <;> decide
  · rcases own_r3 h2 with rfl | rfl | rfl <;> subst hm2 <;> decide
theorem own_nz1 {p1 c1 m1 : Int32} (h1 : (p1 &&& (2147483647 : Int32)) % (2 : Int32) = c1) (hm1 : own_max (0 : Int32) c1 = m1) : m1 + (2 : Int32) ≠ 0 := by
  rcases own_r2 h1 with rfl | rfl <;> subst hm1 <;> decide
theorem own_nz2 {p1 p2 c1 m1 c2 m2 : Int32} (h1 : (p1 &&& (2147483647 : Int32)) % (2 : Int32) = c1) (hm1 : own_max (0 : Int32) c1 = m1) (h2 : (p2 &&& (2147483647 : Int32)) % (m1 + (2 : Int32)) = c2) (hm2 : own_max m1 c2 = m2) : m2 + (2 : Int32) ≠ 0 := by
  rcases own_two h1 hm1 h2 hm2 with ⟨-, -, -, rfl⟩ | ⟨-, -, -, rfl⟩ | ⟨-, -, -, rfl⟩ | ⟨-, -, -, rfl⟩ | ⟨-, -, -, rfl⟩ <;> decide
/-- one number more: up to the greatest so far and one -/
theorem own_nxt {p m c m' : Int32} (hm : m = 0 ∨ m = 1 ∨ m = 2) (h : (p &&& (2147483647 : Int32)) % (m + (2 : Int32)) = c) (h' : own_max m c = m') :
    (m = 0 ∧ c = 0 ∧ m' = 0) ∨ (m = 0 ∧ c = 1 ∧ m' = 1) ∨ (m = 1 ∧ c = 0 ∧ m' = 1) ∨ (m = 1 ∧ c = 1 ∧ m' = 1) ∨ (m = 1 ∧ c = 2 ∧ m' = 2) ∨ (m = 2 ∧ c = 0 ∧ m' = 2) ∨ (m = 2 ∧ c = 1 ∧ m' = 2) ∨ (m = 2 ∧ c = 2 ∧ m' = 2) ∨ (m = 2 ∧ c = 3 ∧ m' = 3) := by
  rcases hm with rfl | rfl | rfl
  · rcases own_r2 h with rfl | rfl <;> subst h' <;> decide
  · rcases own_r3 h with rfl | rfl | rfl <;> subst h' <;> decide
  · rcases own_r4 h with rfl | rfl | rfl | rfl <;> subst h' <;> decide
theorem own_nz3 {p1 p2 p3 c1 m1 c2 m2 c3 m3 : Int32} (h1 : (p1 &&& (2147483647 : Int32)) % (2 : Int32) = c1) (hm1 : own_max (0 : Int32) c1 = m1) (h2 : (p2 &&& (2147483647 : Int32)) % (m1 + (2 : Int32)) = c2) (hm2 : own_max m1 c2 = m2) (h3 : (p3 &&& (2147483647 : Int32)) % (m2 + (2 : Int32)) = c3) (hm3 : own_max m2 c3 = m3) : m3 + (2 : Int32) ≠ 0 := by
  have q : m2 = 0 ∨ m2 = 1 ∨ m2 = 2 := by
    rcases own_two h1 hm1 h2 hm2 with ⟨-, -, -, rfl⟩ | ⟨-, -, -, rfl⟩ | ⟨-, -, -, rfl⟩ | ⟨-, -, -, rfl⟩ | ⟨-, -, -, rfl⟩ <;> decide
  rcases own_nxt q h3 hm3 with ⟨-, -, rfl⟩ | ⟨-, -, rfl⟩ | ⟨-, -, rfl⟩ | ⟨-, -, rfl⟩ | ⟨-, -, rfl⟩ | ⟨-, -, rfl⟩ | ⟨-, -, rfl⟩ | ⟨-, -, rfl⟩ | ⟨-, -, rfl⟩ <;> decide
theorem own_last {p m c m' : Int32} (hm : m = 0 ∨ m = 1 ∨ m = 2 ∨ m = 3) (h : (p &&& (2147483647 : Int32)) % (m + (2 : Int32)) = c) (h' : own_max m c = m') :
    (c, m') ∈ (List.range (m.toNatClampNeg + 2)).map fun c => (Int32.ofNat c, own_max m (Int32.ofNat c)) := by
  rcases hm with rfl | rfl | rfl | rfl
  · rcases own_r2 h with rfl | rfl <;> subst h' <;> decide +kernel
  · rcases own_r3 h with rfl | rfl | rfl <;> subst h' <;> decide +kernel
  · rcases own_r4 h with rfl | rfl | rfl | rfl <;> subst h' <;> decide +kernel
  · rcases own_r5 h with rfl | rfl | rfl | rfl | rfl <;> subst h' <;> decide +kernel
theorem own_all {p1 p2 p3 p4 c1 m1 c2 m2 c3 m3 c4 m4 : Int32} (h1 : (p1 &&& (2147483647 : Int32)) % (2 : Int32) = c1) (hm1 : own_max (0 : Int32) c1 = m1) (h2 : (p2 &&& (2147483647 : Int32)) % (m1 + (2 : Int32)) = c2) (hm2 : own_max m1 c2 = m2)
    (h3 : (p3 &&& (2147483647 : Int32)) % (m2 + (2 : Int32)) = c3) (hm3 : own_max m2 c3 = m3) (h4 : (p4 &&& (2147483647 : Int32)) % (m3 + (2 : Int32)) = c4) (hm4 : own_max m3 c4 = m4) : (c1, m1, c2, m2, c3, m3, c4, m4) ∈ own_list := by
  have q : m2 = 0 ∨ m2 = 1 ∨ m2 = 2 := by
    rcases own_two h1 hm1 h2 hm2 with ⟨-, -, -, rfl⟩ | ⟨-, -, -, rfl⟩ | ⟨-, -, -, rfl⟩ | ⟨-, -, -, rfl⟩ | ⟨-, -, -, rfl⟩ <;> decide
  have q3 : m3 = 0 ∨ m3 = 1 ∨ m3 = 2 ∨ m3 = 3 := by
    rcases own_nxt q h3 hm3 with ⟨-, -, rfl⟩ | ⟨-, -, rfl⟩ | ⟨-, -, rfl⟩ | ⟨-, -, rfl⟩ | ⟨-, -, rfl⟩ | ⟨-, -, rfl⟩ | ⟨-, -, rfl⟩ | ⟨-, -, rfl⟩ | ⟨-, -, rfl⟩ <;> decide
  have e3 := own_last (q.imp id (Or.imp id Or.inl)) h3 hm3
  have e4 := own_last q3 h4 hm4
  clear h3 h4 hm3 hm4 q q3
  simp only [own_list, List.mem_flatMap, List.mem_map, Prod.mk.injEq] at e3 e4 ⊢
  obtain ⟨a3, ha3, rfl, rfl⟩ := e3
  obtain ⟨a4, ha4, rfl, rfl⟩ := e4
  rcases own_two h1 hm1 h2 hm2 with ⟨rfl, rfl, rfl, rfl⟩ | ⟨rfl, rfl, rfl, rfl⟩ | ⟨rfl, rfl, rfl, rfl⟩ | ⟨rfl, rfl, rfl, rfl⟩ | ⟨rfl, rfl, rfl, rfl⟩
  · exact ⟨0, by decide, 0, by decide, a3, ha3, a4, ha4, rfl, rfl, rfl, rfl, rfl, rfl, rfl, rfl⟩
  · exact ⟨0, by decide, 1, by decide, a3, ha3, a4, ha4, rfl, rfl, rfl, rfl, rfl, rfl, rfl, rfl⟩
  · exact ⟨1, by decide, 0, by decide, a3, ha3, a4, ha4, rfl, rfl, rfl, rfl, rfl, rfl, rfl, rfl⟩
  · exact ⟨1, by decide, 1, by decide, a3, ha3, a4, ha4, rfl, rfl, rfl, rfl, rfl, rfl, rfl, rfl⟩
  · exact ⟨1, by decide, 2, by decide, a3, ha3, a4, ha4, rfl, rfl, rfl, rfl, rfl, rfl, rfl, rfl⟩

theorem d1_0 : decode jdk_29_method_65_code 0 = .ok (.iload_n 0, 1) := by decide +kernel
theorem d1_1 : decode jdk_29_method_65_code 1 = .ok (.iload_n 1, 1) := by decide +kernel
theorem d1_2 : decode jdk_29_method_65_code 2 = .ok (.if_icmp .lt 7, 3) := by decide +kernel
theorem d1_9 : decode jdk_29_method_65_code 9 = .ok (.iload_n 1, 1) := by decide +kernel
theorem d1_10 : decode jdk_29_method_65_code 10 = .ok (.ireturn, 1) := by decide +kernel
theorem d1_5 : decode jdk_29_method_65_code 5 = .ok (.iload_n 0, 1) := by decide +kernel
theorem d1_6 : decode jdk_29_method_65_code 6 = .ok (.goto 4, 3) := by decide +kernel
theorem ef_rmM (m : MethodId) (p1 : Int32) (p2 : Int32) : entryFrame m #[(.int p1), (.int p2)] 2 = mkF m 0 #[.val (.int p1), .val (.int p2)] [] := by first | (simp [entryFrame, mkF, argsToLocals, Value.category]; done) | rfl
def Q_rmM (Z : State) (p1 : Int32) (p2 : Int32) (h0 : Heap) (n0 : Nat) (v : Option Value) (h : Heap) (L : List Loc) : Prop := v = some (.int (own_max p1 p2)) ∧ Fr n0 L ∧ h = h0
set_option maxRecDepth 65536 in
set_option maxHeartbeats 40000000 in
theorem rmM (l : Launch) (Z : State) (a0 : Array Value) (hw : ∀ d ∈ tables_1, d.before a0 Z = true) (ws : List Jvm.Cond) (p1 : Int32) (p2 : Int32) (h0 : Heap) (n0 : Nat) (Z0 : n0 ≤ h0.size)  :
    MetFree l (⟨"java/lang/Math", "max", "(II)I"⟩ : MethodName) (head1 (Jvm.Cond.code (⟨"java/lang/Math", "max", "(II)I"⟩ : MethodName) jdk_29_method_65_code 2 (some .int) :: ws) ({ frames := 0, cells := 0, slots := 0, locals := 0 } : Room)) (fun a U => a = #[(.int p1), (.int p2)] ∧ Z.Warmed39 U.vm ∧ U.heap = h0) (fun _ _ _ _ _ => True) (fun _ U o U' => ∃ v L, o = .returned v ∧ Q_rmM Z p1 p2 h0 n0 v U'.heap L ∧ FrameEnd U o U' L ({ frames := 0, cells := 0, slots := 0, locals := 0 } : Room).cells ({ frames := 0, cells := 0, slots := 0, locals := 0 } : Room).slots) := by
  refine MetFree.of_bodySF (Jvm.Free.JP.mathPlain rfl (by decide +kernel)) hisR ?_
  intro p e s m args below meth c s₁ Bd hml0 hP hK
  obtain ⟨rfl, hZ, hh⟩ := hP
  have hx := Bd.exec
  have hby := Bd.bytes
  have hml : c.maxLocals = 2 := hml0
  have hown : s.vm.findClass "java/lang/Math" = some m.cls := findClass_of_methodNamed Bd.named
  have hnm := (name_of_methodNamed Bd.named Bd.method).1
  have X0 : Stand p l e ({ frames := 0, cells := 0, slots := 0, locals := 0 } : Room) s m #[(.int p1), (.int p2)] below meth c s₁ [] 0 0 := Stand.of_body Bd
  have e0 : s₁.heap = h0 := by rw [← hh, Bd.state]; rfl
  have N0 := Fr.nil n0
  suffices G0 : own_G p e below (own_E s below (Q_rmM Z p1 p2 h0 n0) ({ frames := 0, cells := 0, slots := 0, locals := 0 } : Room).cells ({ frames := 0, cells := 0, slots := 0, locals := 0 } : Room).slots) s₁ (mkF m 0 #[.val (.int p1), .val (.int p2)] []) by
    obtain ⟨zt, zst, zo, zq1, zq2, zq3⟩ := G0
    exact ⟨zt, zo, castTop (ef_rmM m p1 p2) zst, zq1, zq2, zq3⟩
  obtain ⟨Φ, hΦ⟩ : ∃ Φ, Φ = own_E s below (Q_rmM Z p1 p2 h0 n0) ({ frames := 0, cells := 0, slots := 0, locals := 0 } : Room).cells ({ frames := 0, cells := 0, slots := 0, locals := 0 } : Room).slots := ⟨_, rfl⟩
  rw [← hΦ]
  show own_G p e below Φ s₁ (mkF m 0 #[.val (.int p1), .val (.int p2)] [])
  refine own_go (fun _ => XS.iloadN X0.here hx rfl (hb hby d1_0) rfl) ?_
  show own_G p e below Φ s₁ (mkF m 1 #[.val (.int p1), .val (.int p2)] [(.int p1)])
  refine own_go (fun _ => XS.iloadN X0.here hx rfl (hb hby d1_1) rfl) ?_
  show own_G p e below Φ s₁ (mkF m 2 #[.val (.int p1), .val (.int p2)] [(.int p2), (.int p1)])
  by_cases hc2 : p1 < p2
  · refine own_go (fun _ => XS.icmpYes X0.here hx rfl (pc0 := 2) (pc' := 9) rfl (hb hby d1_2) rfl (Jvm.Free.XT.ii_lt_t hc2) (by decide) (by decide)) ?_
    show own_G p e below Φ s₁ (mkF m 9 #[.val (.int p1), .val (.int p2)] [])
    refine own_go (fun _ => XS.iloadN X0.here hx rfl (hb hby d1_9) rfl) ?_
    show own_G p e below Φ s₁ (mkF m 10 #[.val (.int p1), .val (.int p2)] [(.int p2)])
    rw [hΦ]
    refine own_ret X0 (v := some (.int p2)) (fun h => by rw [Bd.returns] at h; cases h) (BodyLoose.notSynchronized Bd) (fun fs hr => retOut X0 hx Bd.returns rfl (Or.inl ⟨rfl, Or.inl rfl, _, rfl⟩) (hb hby d1_10) hr) ?_ (by decide) (by decide)
    rw [e0]
    exact ⟨(by simp [own_max, hc2]), N0, rfl⟩
  · refine own_go (fun _ => XS.icmpNo X0.here hx rfl (hb hby d1_2) rfl (Jvm.Free.XT.ii_lt_f hc2)) ?_
    show own_G p e below Φ s₁ (mkF m 5 #[.val (.int p1), .val (.int p2)] [])
    refine own_go (fun _ => XS.iloadN X0.here hx rfl (hb hby d1_5) rfl) ?_
    show own_G p e below Φ s₁ (mkF m 6 #[.val (.int p1), .val (.int p2)] [(.int p1)])
    refine own_go (fun _ => XS.goto X0.here hx rfl (pc0 := 6) (pc' := 10) rfl (hb hby d1_6) (by decide) (by decide)) ?_
    show own_G p e below Φ s₁ (mkF m 10 #[.val (.int p1), .val (.int p2)] [(.int p1)])
    rw [hΦ]
    refine own_ret X0 (v := some (.int p1)) (fun h => by rw [Bd.returns] at h; cases h) (BodyLoose.notSynchronized Bd) (fun fs hr => retOut X0 hx Bd.returns rfl (Or.inl ⟨rfl, Or.inl rfl, _, rfl⟩) (hb hby d1_10) hr) ?_ (by decide) (by decide)
    rw [e0]
    exact ⟨(by simp [own_max, hc2]), N0, rfl⟩
theorem d2_0 : decode prog_57_method_3_code 0 = .ok (.aload_n 0, 1) := by decide +kernel
theorem d2_1 : decode prog_57_method_3_code 1 = .ok (.invokespecial 43, 3) := by decide +kernel
theorem wd_12 {Z : State} {a0 : Array Value} (hw : ∀ d ∈ tables_1, d.before a0 Z = true) : ((Jvm.Cond.methodLink "com/example/edgewarden/edgewarden/graph/Likeness" (43 : Nat) ({ cls := "java/lang/Object", name := "<init>", desc := "()V" } : Jvm.MethodName)) : Jvm.Cond).before a0 Z = true := hw _ (List.mem_of_getElem? (i := 12) rfl)
theorem wd_13 {Z : State} {a0 : Array Value} (hw : ∀ d ∈ tables_1, d.before a0 Z = true) : ((Jvm.Cond.instanceMethod ({ cls := "java/lang/Object", name := "<init>", desc := "()V" } : Jvm.MethodName)) : Jvm.Cond).before a0 Z = true := hw _ (List.mem_of_getElem? (i := 13) rfl)
theorem wd_14 {Z : State} {a0 : Array Value} (hw : ∀ d ∈ tables_1, d.before a0 Z = true) : ((Jvm.Cond.code ({ cls := "java/lang/Object", name := "<init>", desc := "()V" } : Jvm.MethodName) object_method_1_code (1 : Nat) (Option.none : Option Jvm.ClassFile.FieldType)) : Jvm.Cond).before a0 Z = true := hw _ (List.mem_of_getElem? (i := 14) rfl)
theorem d2_4 : decode prog_57_method_3_code 4 = .ok (.aload_n 0, 1) := by decide +kernel
theorem d2_5 : decode prog_57_method_3_code 5 = .ok (.aload_n 1, 1) := by decide +kernel
theorem d2_6 : decode prog_57_method_3_code 6 = .ok (.putfield 90, 3) := by decide +kernel
theorem wd_15 {Z : State} {a0 : Array Value} (hw : ∀ d ∈ tables_1, d.before a0 Z = true) : ((Jvm.Cond.fieldLink "com/example/edgewarden/edgewarden/graph/Likeness" (90 : Nat) "com/example/edgewarden/edgewarden/graph/Likeness" "m_aClasses" "[I") : Jvm.Cond).before a0 Z = true := hw _ (List.mem_of_getElem? (i := 15) rfl)
theorem wd_16 {Z : State} {a0 : Array Value} (hw : ∀ d ∈ tables_1, d.before a0 Z = true) : ((Jvm.Cond.laysFinal "com/example/edgewarden/edgewarden/graph/Likeness" "com/example/edgewarden/edgewarden/graph/Likeness" "m_aClasses" "[I") : Jvm.Cond).before a0 Z = true := hw _ (List.mem_of_getElem? (i := 16) rfl)
theorem wd_7 {Z : State} {a0 : Array Value} (hw : ∀ d ∈ tables_1, d.before a0 Z = true) : ((Jvm.Cond.instantiable "com/example/edgewarden/edgewarden/graph/Likeness" (2 : Nat)) : Jvm.Cond).before a0 Z = true := hw _ (List.mem_of_getElem? (i := 7) rfl)
theorem d2_9 : decode prog_57_method_3_code 9 = .ok (.iconst 0, 1) := by decide +kernel
theorem d2_10 : decode prog_57_method_3_code 10 = .ok (.istore_n 2, 1) := by decide +kernel
theorem d2_11 : decode prog_57_method_3_code 11 = .ok (.aload_n 1, 1) := by decide +kernel
theorem d2_12 : decode prog_57_method_3_code 12 = .ok (.astore_n 3, 1) := by decide +kernel
theorem d2_13 : decode prog_57_method_3_code 13 = .ok (.aload_n 3, 1) := by decide +kernel
theorem d2_14 : decode prog_57_method_3_code 14 = .ok (.arraylength, 1) := by decide +kernel
theorem d2_15 : decode prog_57_method_3_code 15 = .ok (.istore 4, 2) := by decide +kernel
theorem d2_17 : decode prog_57_method_3_code 17 = .ok (.iconst 0, 1) := by decide +kernel
theorem d2_18 : decode prog_57_method_3_code 18 = .ok (.istore 5, 2) := by decide +kernel
theorem d2_20 : decode prog_57_method_3_code 20 = .ok (.iload 5, 2) := by decide +kernel
theorem d2_22 : decode prog_57_method_3_code 22 = .ok (.iload 4, 2) := by decide +kernel
theorem d2_24 : decode prog_57_method_3_code 24 = .ok (.if_icmp .ge 24, 3) := by decide +kernel
theorem d2_48 : decode prog_57_method_3_code 48 = .ok (.aload_n 0, 1) := by decide +kernel
theorem d2_49 : decode prog_57_method_3_code 49 = .ok (.iload_n 2, 1) := by decide +kernel
theorem d2_50 : decode prog_57_method_3_code 50 = .ok (.putfield 123, 3) := by decide +kernel
theorem wd_17 {Z : State} {a0 : Array Value} (hw : ∀ d ∈ tables_1, d.before a0 Z = true) : ((Jvm.Cond.fieldLink "com/example/edgewarden/edgewarden/graph/Likeness" (123 : Nat) "com/example/edgewarden/edgewarden/graph/Likeness" "m_nClassCount" "I") : Jvm.Cond).before a0 Z = true := hw _ (List.mem_of_getElem? (i := 17) rfl)
theorem wd_18 {Z : State} {a0 : Array Value} (hw : ∀ d ∈ tables_1, d.before a0 Z = true) : ((Jvm.Cond.laysFinal "com/example/edgewarden/edgewarden/graph/Likeness" "com/example/edgewarden/edgewarden/graph/Likeness" "m_nClassCount" "I") : Jvm.Cond).before a0 Z = true := hw _ (List.mem_of_getElem? (i := 18) rfl)
theorem sl_0 {Z : State} {a0 : Array Value} (hw : ∀ d ∈ tables_1, d.before a0 Z = true) : Jvm.RoadKit.slotOf Z "com/example/edgewarden/edgewarden/graph/Likeness" "m_nClassCount" "I" ≠ Jvm.RoadKit.slotOf Z "com/example/edgewarden/edgewarden/graph/Likeness" "m_aClasses" "[I" := slot_ne (C := "com/example/edgewarden/edgewarden/graph/Likeness") (Or.inr (wd_18 hw)) (Or.inr (wd_16 hw)) (by decide) (t := .int) (t' := (.array .int)) (by decide) (by decide)
theorem d2_53 : decode prog_57_method_3_code 53 = .ok (.return_, 1) := by decide +kernel
theorem sl_1 {Z : State} {a0 : Array Value} (hw : ∀ d ∈ tables_1, d.before a0 Z = true) : Jvm.RoadKit.slotOf Z "com/example/edgewarden/edgewarden/graph/Likeness" "m_aClasses" "[I" ≠ Jvm.RoadKit.slotOf Z "com/example/edgewarden/edgewarden/graph/Likeness" "m_nClassCount" "I" := slot_ne (C := "com/example/edgewarden/edgewarden/graph/Likeness") (Or.inr (wd_16 hw)) (Or.inr (wd_18 hw)) (by decide) (t := (.array .int)) (t' := .int) (by decide) (by decide)
theorem pn_0 : plainName "com/example/edgewarden/edgewarden/graph/Likeness" = true := by first | (simp [plainName, overriddenIn]; done) | decide +kernel
theorem ef_rmI0 (m : MethodId) (a1 : Addr) (ar : Addr) : entryFrame m #[(.ref a1), (.ref ar)] 7 = mkF m 0 #[.val (.ref a1), .val (.ref ar), .unset, .unset, .unset, .unset, .unset] [] := by first | (simp [entryFrame, mkF, argsToLocals, Value.category]; done) | rfl
def Q_rmI0 (Z : State) (a1 : Addr) (ar : Addr) (ka : ClassId) (u0 : Value) (u1 : Value) (h0 : Heap) (n0 : Nat) (v : Option Value) (h : Heap) (L : List Loc) : Prop := v = none ∧ Fr n0 L ∧ Keep h0 h [a1] ∧ Exa Z h a1 "com/example/edgewarden/edgewarden/graph/Likeness" ∧ Fld Z h a1 "com/example/edgewarden/edgewarden/graph/Likeness" "m_aClasses" "[I" (.ref ar) ∧ Fld Z h a1 "com/example/edgewarden/edgewarden/graph/Likeness" "m_nClassCount" "I" (.int (0 : Int32))
set_option maxRecDepth 65536 in
set_option maxHeartbeats 40000000 in
theorem rmI0 (l : Launch) (Z : State) (a0 : Array Value) (hw : ∀ d ∈ tables_1, d.before a0 Z = true) (ws : List Jvm.Cond) (a1 : Addr) (ar : Addr) (ka : ClassId) (u0 : Value) (u1 : Value) (h0 : Heap) (n0 : Nat) (Z0 : n0 ≤ h0.size) (E_a1 : Exa Z h0 a1 "com/example/edgewarden/edgewarden/graph/Likeness") (F_m_aClasses_a1 : Fld Z h0 a1 "com/example/edgewarden/edgewarden/graph/Likeness" "m_aClasses" "[I" u0) (F_m_nClassCount_a1 : Fld Z h0 a1 "com/example/edgewarden/edgewarden/graph/Likeness" "m_nClassCount" "I" u1) (g_a1 : n0 ≤ a1) (V_ar : Arv Z h0 ar ka .int (0 : Int32) [] (.int (0 : Int32))) (ne_ar_a1 : ar ≠ a1) :
    MetFree l (⟨"com/example/edgewarden/edgewarden/graph/Likeness", "<init>", "([I)V"⟩ : MethodName) (head1 (Jvm.Cond.code (⟨"com/example/edgewarden/edgewarden/graph/Likeness", "<init>", "([I)V"⟩ : MethodName) prog_57_method_3_code 7 none :: ws) ({ frames := 1, cells := 0, slots := 0, locals := 12 } : Room)) (fun a U => a = #[(.ref a1), (.ref ar)] ∧ Z.Warmed39 U.vm ∧ U.heap = h0) (fun _ _ _ _ _ => True) (fun _ U o U' => ∃ v L, o = .returned v ∧ Q_rmI0 Z a1 ar ka u0 u1 h0 n0 v U'.heap L ∧ FrameEnd U o U' L ({ frames := 1, cells := 0, slots := 0, locals := 12 } : Room).cells ({ frames := 1, cells := 0, slots := 0, locals := 12 } : Room).slots) := by
  refine MetFree.of_bodySF (plainFor_of_name pn_0) hisR ?_
  intro p e s m args below meth c s₁ Bd hml0 hP hK
  obtain ⟨rfl, hZ, hh⟩ := hP
  have hx := Bd.exec
  have hby := Bd.bytes
  have hml : c.maxLocals = 7 := hml0
  have hown : s.vm.findClass "com/example/edgewarden/edgewarden/graph/Likeness" = some m.cls := findClass_of_methodNamed Bd.named
  have hnm := (name_of_methodNamed Bd.named Bd.method).1
  have X0 : Stand p l e ({ frames := 1, cells := 0, slots := 0, locals := 12 } : Room) s m #[(.ref a1), (.ref ar)] below meth c s₁ [] 0 0 := Stand.of_body Bd
  have e0 : s₁.heap = h0 := by rw [← hh, Bd.state]; rfl
  have N0 := Fr.nil n0
  have K0 : Keep h0 h0 [a1] := Keep.refl _ _
  suffices G0 : own_G p e below (own_E s below (Q_rmI0 Z a1 ar ka u0 u1 h0 n0) ({ frames := 1, cells := 0, slots := 0, locals := 12 } : Room).cells ({ frames := 1, cells := 0, slots := 0, locals := 12 } : Room).slots) s₁ (mkF m 0 #[.val (.ref a1), .val (.ref ar), .unset, .unset, .unset, .unset, .unset] []) by
    obtain ⟨zt, zst, zo, zq1, zq2, zq3⟩ := G0
    exact ⟨zt, zo, castTop (ef_rmI0 m a1 ar) zst, zq1, zq2, zq3⟩
  obtain ⟨Φ, hΦ⟩ : ∃ Φ, Φ = own_E s below (Q_rmI0 Z a1 ar ka u0 u1 h0 n0) ({ frames := 1, cells := 0, slots := 0, locals := 12 } : Room).cells ({ frames := 1, cells := 0, slots := 0, locals := 12 } : Room).slots := ⟨_, rfl⟩
  rw [← hΦ]
  show own_G p e below Φ s₁ (mkF m 0 #[.val (.ref a1), .val (.ref ar), .unset, .unset, .unset, .unset, .unset] [])
  refine own_go (fun _ => XS.aloadN X0.here hx rfl (hb hby d2_0) rfl rfl) ?_
  show own_G p e below Φ s₁ (mkF m 1 #[.val (.ref a1), .val (.ref ar), .unset, .unset, .unset, .unset, .unset] [(.ref a1)])
  obtain ⟨T1, X1, e1, st1⟩ := initO X0 hx hZ hown (wd_12 hw) (wd_13 hw) (wd_14 hw) e0 (g := (mkF m 1 #[.val (.ref a1), .val (.ref ar), .unset, .unset, .unset, .unset, .unset] [(.ref a1)])) rfl (by rw [hml]; rfl) rfl (hb hby d2_1) (by decide) (W := 0) (by show 2 * 0 + _ ≤ _; exact Nat.le_of_eq rfl) (by decide)
  refine own_go st1 ?_
  show own_G p e below Φ T1 (mkF m 4 #[.val (.ref a1), .val (.ref ar), .unset, .unset, .unset, .unset, .unset] [])
  refine own_go (fun _ => XS.aloadN X1.here hx rfl (hb hby d2_4) rfl rfl) ?_
  show own_G p e below Φ T1 (mkF m 5 #[.val (.ref a1), .val (.ref ar), .unset, .unset, .unset, .unset, .unset] [(.ref a1)])
  refine own_go (fun _ => XS.aloadN X1.here hx rfl (hb hby d2_5) rfl rfl) ?_
  show own_G p e below Φ T1 (mkF m 6 #[.val (.ref a1), .val (.ref ar), .unset, .unset, .unset, .unset, .unset] [(.ref ar), (.ref a1)])
  obtain ⟨T2, h2, X2, e2, W2, st2⟩ := putF X1 hx hZ hown (host := "") (Or.inl (wd_15 hw)) Via.refl e1 F_m_aClasses_a1 E_a1 (Or.inr ⟨(wd_16 hw), rfl, hnm⟩) (wd_7 hw) (ty := (.array .int)) (by decide) rfl rfl (g := (mkF m 6 #[.val (.ref a1), .val (.ref ar), .unset, .unset, .unset, .unset, .unset] [(.ref ar), (.ref a1)])) rfl rfl (hb hby d2_6)
  refine own_go st2 ?_
  have N2 := Fr.snoc X2 N0 g_a1
  have K2 := K0.wr W2 (Or.inl (List.mem_of_getElem? (i := 0) rfl))
  have Zp2 : n0 ≤ h2.size := Nat.le_trans Z0 (Keep.of_wr W2).1
  have f2w := F_m_aClasses_a1.same W2
  show own_G p e below Φ T2 (mkF m 9 #[.val (.ref a1), .val (.ref ar), .unset, .unset, .unset, .unset, .unset] [])
  refine own_go (fun _ => XS.iconst X2.here hx rfl (hb hby d2_9)) ?_
  show own_G p e below Φ T2 (mkF m 10 #[.val (.ref a1), .val (.ref ar), .unset, .unset, .unset, .unset, .unset] [(.int (0 : Int32))])
  refine own_go (fun _ => XS.istoreN X2.here hx rfl (hb hby d2_10) rfl (l' := #[.val (.ref a1), .val (.ref ar), .val (.int (0 : Int32)), .unset, .unset, .unset, .unset]) rfl) ?_
  show own_G p e below Φ T2 (mkF m 11 #[.val (.ref a1), .val (.ref ar), .val (.int (0 : Int32)), .unset, .unset, .unset, .unset] [])
  refine own_go (fun _ => XS.aloadN X2.here hx rfl (hb hby d2_11) rfl rfl) ?_
  show own_G p e below Φ T2 (mkF m 12 #[.val (.ref a1), .val (.ref ar), .val (.int (0 : Int32)), .unset, .unset, .unset, .unset] [(.ref ar)])
  refine own_go (fun _ => XS.astoreN X2.here hx rfl (hb hby d2_12) rfl rfl (l' := #[.val (.ref a1), .val (.ref ar), .val (.int (0 : Int32)), .val (.ref ar), .unset, .unset, .unset]) rfl) ?_
  show own_G p e below Φ T2 (mkF m 13 #[.val (.ref a1), .val (.ref ar), .val (.int (0 : Int32)), .val (.ref ar), .unset, .unset, .unset] [])
  refine own_go (fun _ => XS.aloadN X2.here hx rfl (hb hby d2_13) rfl rfl) ?_
  show own_G p e below Φ T2 (mkF m 14 #[.val (.ref a1), .val (.ref ar), .val (.int (0 : Int32)), .val (.ref ar), .unset, .unset, .unset] [(.ref ar)])
  have f3 : Arv Z h2 ar ka .int (0 : Int32) [] (.int (0 : Int32)) := V_ar.other W2 ne_ar_a1
  obtain ⟨cl4, Ar4, q4, S4, M4, H4, G4⟩ := id f3
  refine own_go (fun _ => X2.arraylength hx (by rw [e2]; exact Ar4.1) (State.isArrayOf_alike hZ.alike Ar4.2.1) (g := (mkF m 14 #[.val (.ref a1), .val (.ref ar), .val (.int (0 : Int32)), .val (.ref ar), .unset, .unset, .unset] [(.ref ar)])) rfl rfl (hb hby d2_14) _) ?_
  rw [len_of S4 M4]
  show own_G p e below Φ T2 (mkF m 15 #[.val (.ref a1), .val (.ref ar), .val (.int (0 : Int32)), .val (.ref ar), .unset, .unset, .unset] [(.int (0 : Int32))])
  refine own_go (fun _ => XS.istore X2.here hx rfl (hb hby d2_15) rfl (l' := #[.val (.ref a1), .val (.ref ar), .val (.int (0 : Int32)), .val (.ref ar), .val (.int (0 : Int32)), .unset, .unset]) rfl) ?_
  show own_G p e below Φ T2 (mkF m 17 #[.val (.ref a1), .val (.ref ar), .val (.int (0 : Int32)), .val (.ref ar), .val (.int (0 : Int32)), .unset, .unset] [])
  refine own_go (fun _ => XS.iconst X2.here hx rfl (hb hby d2_17)) ?_
  show own_G p e below Φ T2 (mkF m 18 #[.val (.ref a1), .val (.ref ar), .val (.int (0 : Int32)), .val (.ref ar), .val (.int (0 : Int32)), .unset, .unset] [(.int (0 : Int32))])
  refine own_go (fun _ => XS.istore X2.here hx rfl (hb hby d2_18) rfl (l' := #[.val (.ref a1), .val (.ref ar), .val (.int (0 : Int32)), .val (.ref ar), .val (.int (0 : Int32)), .val (.int (0 : Int32)), .unset]) rfl) ?_
  show own_G p e below Φ T2 (mkF m 20 #[.val (.ref a1), .val (.ref ar), .val (.int (0 : Int32)), .val (.ref ar), .val (.int (0 : Int32)), .val (.int (0 : Int32)), .unset] [])
  refine own_go (fun _ => XS.iload X2.here hx rfl (hb hby d2_20) rfl) ?_
  show own_G p e below Φ T2 (mkF m 22 #[.val (.ref a1), .val (.ref ar), .val (.int (0 : Int32)), .val (.ref ar), .val (.int (0 : Int32)), .val (.int (0 : Int32)), .unset] [(.int (0 : Int32))])
  refine own_go (fun _ => XS.iload X2.here hx rfl (hb hby d2_22) rfl) ?_
  show own_G p e below Φ T2 (mkF m 24 #[.val (.ref a1), .val (.ref ar), .val (.int (0 : Int32)), .val (.ref ar), .val (.int (0 : Int32)), .val (.int (0 : Int32)), .unset] [(.int (0 : Int32)), (.int (0 : Int32))])
  refine own_go (fun _ => XS.icmpYes X2.here hx rfl (pc0 := 24) (pc' := 48) rfl (hb hby d2_24) rfl (Jvm.Free.XT.ii_ge_t (by decide : ¬ ((0 : Int32) < (0 : Int32)))) (by decide) (by decide)) ?_
  show own_G p e below Φ T2 (mkF m 48 #[.val (.ref a1), .val (.ref ar), .val (.int (0 : Int32)), .val (.ref ar), .val (.int (0 : Int32)), .val (.int (0 : Int32)), .unset] [])
  refine own_go (fun _ => XS.aloadN X2.here hx rfl (hb hby d2_48) rfl rfl) ?_
  show own_G p e below Φ T2 (mkF m 49 #[.val (.ref a1), .val (.ref ar), .val (.int (0 : Int32)), .val (.ref ar), .val (.int (0 : Int32)), .val (.int (0 : Int32)), .unset] [(.ref a1)])
  refine own_go (fun _ => XS.iloadN X2.here hx rfl (hb hby d2_49) rfl) ?_
  show own_G p e below Φ T2 (mkF m 50 #[.val (.ref a1), .val (.ref ar), .val (.int (0 : Int32)), .val (.ref ar), .val (.int (0 : Int32)), .val (.int (0 : Int32)), .unset] [(.int (0 : Int32)), (.ref a1)])
  have f5 : Exa Z h2 a1 "com/example/edgewarden/edgewarden/graph/Likeness" := E_a1.wr W2
  have f6 : Fld Z h2 a1 "com/example/edgewarden/edgewarden/graph/Likeness" "m_nClassCount" "I" u1 := F_m_nClassCount_a1.other W2 (Or.inr (sl_0 hw))
  obtain ⟨T7, h7, X7, e7, W7, st7⟩ := putF X2 hx hZ hown (host := "") (Or.inl (wd_17 hw)) Via.refl e2 f6 f5 (Or.inr ⟨(wd_18 hw), rfl, hnm⟩) (wd_7 hw) (ty := .int) (by decide) rfl rfl (g := (mkF m 50 #[.val (.ref a1), .val (.ref ar), .val (.int (0 : Int32)), .val (.ref ar), .val (.int (0 : Int32)), .val (.int (0 : Int32)), .unset] [(.int (0 : Int32)), (.ref a1)])) rfl rfl (hb hby d2_50)
  refine own_go st7 ?_
  have N7 := Fr.snoc X7 N2 g_a1
  have K7 := K2.wr W7 (Or.inl (List.mem_of_getElem? (i := 0) rfl))
  have Zp7 : n0 ≤ h7.size := Nat.le_trans Zp2 (Keep.of_wr W7).1
  have f7w := f6.same W7
  show own_G p e below Φ T7 (mkF m 53 #[.val (.ref a1), .val (.ref ar), .val (.int (0 : Int32)), .val (.ref ar), .val (.int (0 : Int32)), .val (.int (0 : Int32)), .unset] [])
  have f8 : Exa Z h7 a1 "com/example/edgewarden/edgewarden/graph/Likeness" := f5.wr W7
  have f9 : Fld Z h7 a1 "com/example/edgewarden/edgewarden/graph/Likeness" "m_aClasses" "[I" (.ref ar) := f2w.other W7 (Or.inr (sl_1 hw))
  rw [hΦ]
  refine own_ret X7 (v := none) (fun _ => rfl) (BodyLoose.notSynchronized Bd) (fun fs hr => X7.returnOut hx Bd.returns (hb hby d2_53) hr) ?_ (by decide) (by decide)
  rw [e7]
  exact ⟨rfl, N7, K7, f8, f9, f7w⟩
theorem d2_27 : decode prog_57_method_3_code 27 = .ok (.aload_n 3, 1) := by decide +kernel
theorem d2_28 : decode prog_57_method_3_code 28 = .ok (.iload 5, 2) := by decide +kernel
theorem d2_30 : decode prog_57_method_3_code 30 = .ok (.iaload, 1) := by decide +kernel
theorem d2_31 : decode prog_57_method_3_code 31 = .ok (.istore 6, 2) := by decide +kernel
theorem d2_33 : decode prog_57_method_3_code 33 = .ok (.iload_n 2, 1) := by decide +kernel
theorem d2_34 : decode prog_57_method_3_code 34 = .ok (.iload 6, 2) := by decide +kernel
theorem d2_36 : decode prog_57_method_3_code 36 = .ok (.iconst 1, 1) := by decide +kernel
theorem d2_37 : decode prog_57_method_3_code 37 = .ok (.iadd, 1) := by decide +kernel
theorem d2_38 : decode prog_57_method_3_code 38 = .ok (.invokestatic 127, 3) := by decide +kernel
theorem wd_28 {Z : State} {a0 : Array Value} (hw : ∀ d ∈ tables_1, d.before a0 Z = true) : ((Jvm.Cond.methodLink "com/example/edgewarden/edgewarden/graph/Likeness" (127 : Nat) ({ cls := "java/lang/Math", name := "max", desc := "(II)I" } : Jvm.MethodName)) : Jvm.Cond).before a0 Z = true := hw _ (List.mem_of_getElem? (i := 28) rfl)
theorem wd_4 {Z : State} {a0 : Array Value} (hw : ∀ d ∈ tables_1, d.before a0 Z = true) : ((Jvm.Cond.code ({ cls := "java/lang/Math", name := "max", desc := "(II)I" } : Jvm.MethodName) jdk_29_method_65_code (2 : Nat) (Option.some Jvm.ClassFile.FieldType.int)) : Jvm.Cond).before a0 Z = true := hw _ (List.mem_of_getElem? (i := 4) rfl)
theorem wd_3 {Z : State} {a0 : Array Value} (hw : ∀ d ∈ tables_1, d.before a0 Z = true) : ((Jvm.Cond.initialized "java/lang/Math") : Jvm.Cond).before a0 Z = true := hw _ (List.mem_of_getElem? (i := 3) rfl)
theorem pd_0 : parseMethodDescriptor "(II)I" = some ⟨[.int, .int], some .int⟩ := by decide +kernel
theorem wd_2 {Z : State} {a0 : Array Value} (hw : ∀ d ∈ tables_1, d.before a0 Z = true) : ((Jvm.Cond.static ({ cls := "java/lang/Math", name := "max", desc := "(II)I" } : Jvm.MethodName)) : Jvm.Cond).before a0 Z = true := hw _ (List.mem_of_getElem? (i := 2) rfl)
theorem d2_41 : decode prog_57_method_3_code 41 = .ok (.istore_n 2, 1) := by decide +kernel
theorem d2_42 : decode prog_57_method_3_code 42 = .ok (.iinc 5 1, 3) := by decide +kernel
theorem d2_45 : decode prog_57_method_3_code 45 = .ok (.goto (-25), 3) := by decide +kernel
theorem ef_rmI1 (m : MethodId) (a1 : Addr) (ar : Addr) : entryFrame m #[(.ref a1), (.ref ar)] 7 = mkF m 0 #[.val (.ref a1), .val (.ref ar), .unset, .unset, .unset, .unset, .unset] [] := by first | (simp [entryFrame, mkF, argsToLocals, Value.category]; done) | rfl
def Q_rmI1 (Z : State) (a1 : Addr) (ar : Addr) (ka : ClassId) (v0 : Int32) (u0 : Value) (u1 : Value) (h0 : Heap) (n0 : Nat) (v : Option Value) (h : Heap) (L : List Loc) : Prop := v = none ∧ Fr n0 L ∧ Keep h0 h [a1] ∧ Exa Z h a1 "com/example/edgewarden/edgewarden/graph/Likeness" ∧ Fld Z h a1 "com/example/edgewarden/edgewarden/graph/Likeness" "m_aClasses" "[I" (.ref ar) ∧ Fld Z h a1 "com/example/edgewarden/edgewarden/graph/Likeness" "m_nClassCount" "I" (.int (own_max (0 : Int32) (v0 + (1 : Int32))))
set_option maxRecDepth 65536 in
set_option maxHeartbeats 40000000 in
theorem rmI1 (l : Launch) (Z : State) (a0 : Array Value) (hw : ∀ d ∈ tables_1, d.before a0 Z = true) (ws : List Jvm.Cond) (a1 : Addr) (ar : Addr) (ka : ClassId) (v0 : Int32) (u0 : Value) (u1 : Value) (h0 : Heap) (n0 : Nat) (Z0 : n0 ≤ h0.size) (E_a1 : Exa Z h0 a1 "com/example/edgewarden/edgewarden/graph/Likeness") (F_m_aClasses_a1 : Fld Z h0 a1 "com/example/edgewarden/edgewarden/graph/Likeness" "m_aClasses" "[I" u0) (F_m_nClassCount_a1 : Fld Z h0 a1 "com/example/edgewarden/edgewarden/graph/Likeness" "m_nClassCount" "I" u1) (g_a1 : n0 ≤ a1) (V_ar : Arv Z h0 ar ka .int (1 : Int32) [(.int v0)] (.int (0 : Int32))) (ne_ar_a1 : ar ≠ a1) :
    MetFree l (⟨"com/example/edgewarden/edgewarden/graph/Likeness", "<init>", "([I)V"⟩ : MethodName) (head1 (Jvm.Cond.code (⟨"com/example/edgewarden/edgewarden/graph/Likeness", "<init>", "([I)V"⟩ : MethodName) prog_57_method_3_code 7 none :: ws) ({ frames := 1, cells := 0, slots := 0, locals := 13 } : Room)) (fun a U => a = #[(.ref a1), (.ref ar)] ∧ Z.Warmed39 U.vm ∧ U.heap = h0) (fun _ _ _ _ _ => True) (fun _ U o U' => ∃ v L, o = .returned v ∧ Q_rmI1 Z a1 ar ka v0 u0 u1 h0 n0 v U'.heap L ∧ FrameEnd U o U' L ({ frames := 1, cells := 0, slots := 0, locals := 13 } : Room).cells ({ frames := 1, cells := 0, slots := 0, locals := 13 } : Room).slots) := by
  refine MetFree.of_bodySF (plainFor_of_name pn_0) hisR ?_
  intro p e s m args below meth c s₁ Bd hml0 hP hK
  obtain ⟨rfl, hZ, hh⟩ := hP
  have hx := Bd.exec
  have hby := Bd.bytes
  have hml : c.maxLocals = 7 := hml0
  have hown : s.vm.findClass "com/example/edgewarden/edgewarden/graph/Likeness" = some m.cls := findClass_of_methodNamed Bd.named
  have hnm := (name_of_methodNamed Bd.named Bd.method).1
  have X0 : Stand p l e ({ frames := 1, cells := 0, slots := 0, locals := 13 } : Room) s m #[(.ref a1), (.ref ar)] below meth c s₁ [] 0 0 := Stand.of_body Bd
  have e0 : s₁.heap = h0 := by rw [← hh, Bd.state]; rfl
  have N0 := Fr.nil n0
  have K0 : Keep h0 h0 [a1] := Keep.refl _ _
  suffices G0 : own_G p e below (own_E s below (Q_rmI1 Z a1 ar ka v0 u0 u1 h0 n0) ({ frames := 1, cells := 0, slots := 0, locals := 13 } : Room).cells ({ frames := 1, cells := 0, slots := 0, locals := 13 } : Room).slots) s₁ (mkF m 0 #[.val (.ref a1), .val (.ref ar), .unset, .unset, .unset, .unset, .unset] []) by
    obtain ⟨zt, zst, zo, zq1, zq2, zq3⟩ := G0
    exact ⟨zt, zo, castTop (ef_rmI1 m a1 ar) zst, zq1, zq2, zq3⟩
  obtain ⟨Φ, hΦ⟩ : ∃ Φ, Φ = own_E s below (Q_rmI1 Z a1 ar ka v0 u0 u1 h0 n0) ({ frames := 1, cells := 0, slots := 0, locals := 13 } : Room).cells ({ frames := 1, cells := 0, slots := 0, locals := 13 } : Room).slots := ⟨_, rfl⟩
  rw [← hΦ]
  show own_G p e below Φ s₁ (mkF m 0 #[.val (.ref a1), .val (.ref ar), .unset, .unset, .unset, .unset, .unset] [])
  refine own_go (fun _ => XS.aloadN X0.here hx rfl (hb hby d2_0) rfl rfl) ?_
  show own_G p e below Φ s₁ (mkF m 1 #[.val (.ref a1), .val (.ref ar), .unset, .unset, .unset, .unset, .unset] [(.ref a1)])
  obtain ⟨T1, X1, e1, st1⟩ := initO X0 hx hZ hown (wd_12 hw) (wd_13 hw) (wd_14 hw) e0 (g := (mkF m 1 #[.val (.ref a1), .val (.ref ar), .unset, .unset, .unset, .unset, .unset] [(.ref a1)])) rfl (by rw [hml]; rfl) rfl (hb hby d2_1) (by decide) (W := 0) (by show 2 * 0 + _ ≤ _; exact Nat.le_of_eq rfl) (by decide)
  refine own_go st1 ?_
  show own_G p e below Φ T1 (mkF m 4 #[.val (.ref a1), .val (.ref ar), .unset, .unset, .unset, .unset, .unset] [])
  refine own_go (fun _ => XS.aloadN X1.here hx rfl (hb hby d2_4) rfl rfl) ?_
  show own_G p e below Φ T1 (mkF m 5 #[.val (.ref a1), .val (.ref ar), .unset, .unset, .unset, .unset, .unset] [(.ref a1)])
  refine own_go (fun _ => XS.aloadN X1.here hx rfl (hb hby d2_5) rfl rfl) ?_
  show own_G p e below Φ T1 (mkF m 6 #[.val (.ref a1), .val (.ref ar), .unset, .unset, .unset, .unset, .unset] [(.ref ar), (.ref a1)])
  obtain ⟨T2, h2, X2, e2, W2, st2⟩ := putF X1 hx hZ hown (host := "") (Or.inl (wd_15 hw)) Via.refl e1 F_m_aClasses_a1 E_a1 (Or.inr ⟨(wd_16 hw), rfl, hnm⟩) (wd_7 hw) (ty := (.array .int)) (by decide) rfl rfl (g := (mkF m 6 #[.val (.ref a1), .val (.ref ar), .unset, .unset, .unset, .unset, .unset] [(.ref ar), (.ref a1)])) rfl rfl (hb hby d2_6)
  refine own_go st2 ?_
  have N2 := Fr.snoc X2 N0 g_a1
  have K2 := K0.wr W2 (Or.inl (List.mem_of_getElem? (i := 0) rfl))
  have Zp2 : n0 ≤ h2.size := Nat.le_trans Z0 (Keep.of_wr W2).1
  have f2w := F_m_aClasses_a1.same W2
  show own_G p e below Φ T2 (mkF m 9 #[.val (.ref a1), .val (.ref ar), .unset, .unset, .unset, .unset, .unset] [])
  refine own_go (fun _ => XS.iconst X2.here hx rfl (hb hby d2_9)) ?_
  show own_G p e below Φ T2 (mkF m 10 #[.val (.ref a1), .val (.ref ar), .unset, .unset, .unset, .unset, .unset] [(.int (0 : Int32))])
  refine own_go (fun _ => XS.istoreN X2.here hx rfl (hb hby d2_10) rfl (l' := #[.val (.ref a1), .val (.ref ar), .val (.int (0 : Int32)), .unset, .unset, .unset, .unset]) rfl) ?_
  show own_G p e below Φ T2 (mkF m 11 #[.val (.ref a1), .val (.ref ar), .val (.int (0 : Int32)), .unset, .unset, .unset, .unset] [])
  refine own_go (fun _ => XS.aloadN X2.here hx rfl (hb hby d2_11) rfl rfl) ?_
  show own_G p e below Φ T2 (mkF m 12 #[.val (.ref a1), .val (.ref ar), .val (.int (0 : Int32)), .unset, .unset, .unset, .unset] [(.ref ar)])
  refine own_go (fun _ => XS.astoreN X2.here hx rfl (hb hby d2_12) rfl rfl (l' := #[.val (.ref a1), .val (.ref ar), .val (.int (0 : Int32)), .val (.ref ar), .unset, .unset, .unset]) rfl) ?_
  show own_G p e below Φ T2 (mkF m 13 #[.val (.ref a1), .val (.ref ar), .val (.int (0 : Int32)), .val (.ref ar), .unset, .unset, .unset] [])
  refine own_go (fun _ => XS.aloadN X2.here hx rfl (hb hby d2_13) rfl rfl) ?_
  show own_G p e below Φ T2 (mkF m 14 #[.val (.ref a1), .val (.ref ar), .val (.int (0 : Int32)), .val (.ref ar), .unset, .unset, .unset] [(.ref ar)])
  have f3 : Arv Z h2 ar ka .int (1 : Int32) [(.int v0)] (.int (0 : Int32)) := V_ar.other W2 ne_ar_a1
  obtain ⟨cl4, Ar4, q4, S4, M4, H4, G4⟩ := id f3
  refine own_go (fun _ => X2.arraylength hx (by rw [e2]; exact Ar4.1) (State.isArrayOf_alike hZ.alike Ar4.2.1) (g := (mkF m 14 #[.val (.ref a1), .val (.ref ar), .val (.int (0 : Int32)), .val (.ref ar), .unset, .unset, .unset] [(.ref ar)])) rfl rfl (hb hby d2_14) _) ?_
  rw [len_of S4 M4]
  show own_G p e below Φ T2 (mkF m 15 #[.val (.ref a1), .val (.ref ar), .val (.int (0 : Int32)), .val (.ref ar), .unset, .unset, .unset] [(.int (1 : Int32))])
  refine own_go (fun _ => XS.istore X2.here hx rfl (hb hby d2_15) rfl (l' := #[.val (.ref a1), .val (.ref ar), .val (.int (0 : Int32)), .val (.ref ar), .val (.int (1 : Int32)), .unset, .unset]) rfl) ?_
  show own_G p e below Φ T2 (mkF m 17 #[.val (.ref a1), .val (.ref ar), .val (.int (0 : Int32)), .val (.ref ar), .val (.int (1 : Int32)), .unset, .unset] [])
  refine own_go (fun _ => XS.iconst X2.here hx rfl (hb hby d2_17)) ?_
  show own_G p e below Φ T2 (mkF m 18 #[.val (.ref a1), .val (.ref ar), .val (.int (0 : Int32)), .val (.ref ar), .val (.int (1 : Int32)), .unset, .unset] [(.int (0 : Int32))])
  refine own_go (fun _ => XS.istore X2.here hx rfl (hb hby d2_18) rfl (l' := #[.val (.ref a1), .val (.ref ar), .val (.int (0 : Int32)), .val (.ref ar), .val (.int (1 : Int32)), .val (.int (0 : Int32)), .unset]) rfl) ?_
  show own_G p e below Φ T2 (mkF m 20 #[.val (.ref a1), .val (.ref ar), .val (.int (0 : Int32)), .val (.ref ar), .val (.int (1 : Int32)), .val (.int (0 : Int32)), .unset] [])
  refine own_go (fun _ => XS.iload X2.here hx rfl (hb hby d2_20) rfl) ?_
  show own_G p e below Φ T2 (mkF m 22 #[.val (.ref a1), .val (.ref ar), .val (.int (0 : Int32)), .val (.ref ar), .val (.int (1 : Int32)), .val (.int (0 : Int32)), .unset] [(.int (0 : Int32))])
  refine own_go (fun _ => XS.iload X2.here hx rfl (hb hby d2_22) rfl) ?_
  show own_G p e below Φ T2 (mkF m 24 #[.val (.ref a1), .val (.ref ar), .val (.int (0 : Int32)), .val (.ref ar), .val (.int (1 : Int32)), .val (.int (0 : Int32)), .unset] [(.int (1 : Int32)), (.int (0 : Int32))])
  refine own_go (fun _ => XS.icmpNo X2.here hx rfl (hb hby d2_24) rfl (Jvm.Free.XT.ii_ge_f (by decide : ((0 : Int32) < (1 : Int32))))) ?_
  show own_G p e below Φ T2 (mkF m 27 #[.val (.ref a1), .val (.ref ar), .val (.int (0 : Int32)), .val (.ref ar), .val (.int (1 : Int32)), .val (.int (0 : Int32)), .unset] [])
  refine own_go (fun _ => XS.aloadN X2.here hx rfl (hb hby d2_27) rfl rfl) ?_
  show own_G p e below Φ T2 (mkF m 28 #[.val (.ref a1), .val (.ref ar), .val (.int (0 : Int32)), .val (.ref ar), .val (.int (1 : Int32)), .val (.int (0 : Int32)), .unset] [(.ref ar)])
  refine own_go (fun _ => XS.iload X2.here hx rfl (hb hby d2_28) rfl) ?_
  show own_G p e below Φ T2 (mkF m 30 #[.val (.ref a1), .val (.ref ar), .val (.int (0 : Int32)), .val (.ref ar), .val (.int (1 : Int32)), .val (.int (0 : Int32)), .unset] [(.int (0 : Int32)), (.ref ar)])
  obtain ⟨cl5, Ar5, q5, S5, M5, H5, G5⟩ := id f3
  have hin5 : ¬ ((0 : Int32) < 0 ∨ cl5.slots.size ≤ ((0 : Int32)).toNatClampNeg) := inb_of S5 ⟨by decide, by decide⟩
  refine own_go (fun _ => X2.iaload hx (j := (0 : Int32)) (v := (.int v0)) (by rw [e2]; exact Ar5.1) (State.isArrayOf_alike hZ.alike Ar5.2.1) Ar5.2.2 hin5 (H5.at hin5 rfl) (g := (mkF m 30 #[.val (.ref a1), .val (.ref ar), .val (.int (0 : Int32)), .val (.ref ar), .val (.int (1 : Int32)), .val (.int (0 : Int32)), .unset] [(.int (0 : Int32)), (.ref ar)])) rfl rfl (hb hby d2_30) _) ?_
  show own_G p e below Φ T2 (mkF m 31 #[.val (.ref a1), .val (.ref ar), .val (.int (0 : Int32)), .val (.ref ar), .val (.int (1 : Int32)), .val (.int (0 : Int32)), .unset] [(.int v0)])
  refine own_go (fun _ => XS.istore X2.here hx rfl (hb hby d2_31) rfl (l' := #[.val (.ref a1), .val (.ref ar), .val (.int (0 : Int32)), .val (.ref ar), .val (.int (1 : Int32)), .val (.int (0 : Int32)), .val (.int v0)]) rfl) ?_
  show own_G p e below Φ T2 (mkF m 33 #[.val (.ref a1), .val (.ref ar), .val (.int (0 : Int32)), .val (.ref ar), .val (.int (1 : Int32)), .val (.int (0 : Int32)), .val (.int v0)] [])
  refine own_go (fun _ => XS.iloadN X2.here hx rfl (hb hby d2_33) rfl) ?_
  show own_G p e below Φ T2 (mkF m 34 #[.val (.ref a1), .val (.ref ar), .val (.int (0 : Int32)), .val (.ref ar), .val (.int (1 : Int32)), .val (.int (0 : Int32)), .val (.int v0)] [(.int (0 : Int32))])
  refine own_go (fun _ => XS.iload X2.here hx rfl (hb hby d2_34) rfl) ?_
  show own_G p e below Φ T2 (mkF m 36 #[.val (.ref a1), .val (.ref ar), .val (.int (0 : Int32)), .val (.ref ar), .val (.int (1 : Int32)), .val (.int (0 : Int32)), .val (.int v0)] [(.int v0), (.int (0 : Int32))])
  refine own_go (fun _ => XS.iconst X2.here hx rfl (hb hby d2_36)) ?_
  show own_G p e below Φ T2 (mkF m 37 #[.val (.ref a1), .val (.ref ar), .val (.int (0 : Int32)), .val (.ref ar), .val (.int (1 : Int32)), .val (.int (0 : Int32)), .val (.int v0)] [(.int (1 : Int32)), (.int v0), (.int (0 : Int32))])
  refine own_go (fun _ => XS.iadd X2.here hx rfl (hb hby d2_37) rfl) ?_
  show own_G p e below Φ T2 (mkF m 38 #[.val (.ref a1), .val (.ref ar), .val (.int (0 : Int32)), .val (.ref ar), .val (.int (1 : Int32)), .val (.int (0 : Int32)), .val (.int v0)] [(.int (v0 + (1 : Int32))), (.int (0 : Int32))])
  obtain ⟨_, _, ⟨T6, zL6, zk6, zn6⟩, -, X6, ⟨Lc6, hQ6, l6, y6, z6⟩, st6⟩ := Jvm.LawKit.callS X2 hx (y := (⟨"java/lang/Math", "max", "(II)I"⟩ : MethodName)) hown (mvT hZ (wd_28 hw)) (mvT hZ (wd_2 hw)) (mvT hZ (wd_3 hw)) (mvT hZ (wd_4 hw)) (by decide) (backOf (W := 0) (rmM l Z a0 hw [] (0 : Int32) (v0 + (1 : Int32)) h2 n0 Zp2 ) hZ (wd_4 hw) (wd_3 hw) (by decide) (by decide)) (g := (mkF m 38 #[.val (.ref a1), .val (.ref ar), .val (.int (0 : Int32)), .val (.ref ar), .val (.int (1 : Int32)), .val (.int (0 : Int32)), .val (.int v0)] [(.int (v0 + (1 : Int32))), (.int (0 : Int32))])) rfl (by rw [hml]; rfl) (argsL := [(.int (0 : Int32)), (.int (v0 + (1 : Int32)))]) (rest := []) (lenOf pd_0 rfl) rfl (by show 2 * 0 + _ ≤ _; exact Nat.le_of_eq rfl) (hb hby d2_38) (fun _ _ => ⟨rfl, e2, (by decide : 0 + 0 ≤ _), (by decide : 0 + 0 ≤ _)⟩)
  dsimp only [Pt.U, Pt.locs, Pt.cells, Pt.slots] at X6 l6 y6 z6 st6 hQ6
  subst l6 y6 z6
  obtain ⟨rfl, N6q, hs6⟩ := hQ6
  have N6 := Fr.app N2 N6q
  refine own_go st6 ?_
  show own_G p e below Φ T6 (mkF m 41 #[.val (.ref a1), .val (.ref ar), .val (.int (0 : Int32)), .val (.ref ar), .val (.int (1 : Int32)), .val (.int (0 : Int32)), .val (.int v0)] [(.int (own_max (0 : Int32) (v0 + (1 : Int32))))])
  refine own_go (fun _ => XS.istoreN X6.here hx rfl (hb hby d2_41) rfl (l' := #[.val (.ref a1), .val (.ref ar), .val (.int (own_max (0 : Int32) (v0 + (1 : Int32)))), .val (.ref ar), .val (.int (1 : Int32)), .val (.int (0 : Int32)), .val (.int v0)]) rfl) ?_
  show own_G p e below Φ T6 (mkF m 42 #[.val (.ref a1), .val (.ref ar), .val (.int (own_max (0 : Int32) (v0 + (1 : Int32)))), .val (.ref ar), .val (.int (1 : Int32)), .val (.int (0 : Int32)), .val (.int v0)] [])
  refine own_go (fun _ => XS.iinc X6.here hx rfl (hb hby d2_42) rfl (l' := #[.val (.ref a1), .val (.ref ar), .val (.int (own_max (0 : Int32) (v0 + (1 : Int32)))), .val (.ref ar), .val (.int (1 : Int32)), .val (.int (1 : Int32)), .val (.int v0)]) rfl) ?_
  show own_G p e below Φ T6 (mkF m 45 #[.val (.ref a1), .val (.ref ar), .val (.int (own_max (0 : Int32) (v0 + (1 : Int32)))), .val (.ref ar), .val (.int (1 : Int32)), .val (.int (1 : Int32)), .val (.int v0)] [])
  refine own_go (fun _ => XS.goto X6.here hx rfl (pc0 := 45) (pc' := 20) rfl (hb hby d2_45) (by decide) (by decide)) ?_
  show own_G p e below Φ T6 (mkF m 20 #[.val (.ref a1), .val (.ref ar), .val (.int (own_max (0 : Int32) (v0 + (1 : Int32)))), .val (.ref ar), .val (.int (1 : Int32)), .val (.int (1 : Int32)), .val (.int v0)] [])
  refine own_go (fun _ => XS.iload X6.here hx rfl (hb hby d2_20) rfl) ?_
  show own_G p e below Φ T6 (mkF m 22 #[.val (.ref a1), .val (.ref ar), .val (.int (own_max (0 : Int32) (v0 + (1 : Int32)))), .val (.ref ar), .val (.int (1 : Int32)), .val (.int (1 : Int32)), .val (.int v0)] [(.int (1 : Int32))])
  refine own_go (fun _ => XS.iload X6.here hx rfl (hb hby d2_22) rfl) ?_
  show own_G p e below Φ T6 (mkF m 24 #[.val (.ref a1), .val (.ref ar), .val (.int (own_max (0 : Int32) (v0 + (1 : Int32)))), .val (.ref ar), .val (.int (1 : Int32)), .val (.int (1 : Int32)), .val (.int v0)] [(.int (1 : Int32)), (.int (1 : Int32))])
  refine own_go (fun _ => XS.icmpYes X6.here hx rfl (pc0 := 24) (pc' := 48) rfl (hb hby d2_24) rfl (Jvm.Free.XT.ii_ge_t (by decide : ¬ ((1 : Int32) < (1 : Int32)))) (by decide) (by decide)) ?_
  show own_G p e below Φ T6 (mkF m 48 #[.val (.ref a1), .val (.ref ar), .val (.int (own_max (0 : Int32) (v0 + (1 : Int32)))), .val (.ref ar), .val (.int (1 : Int32)), .val (.int (1 : Int32)), .val (.int v0)] [])
  refine own_go (fun _ => XS.aloadN X6.here hx rfl (hb hby d2_48) rfl rfl) ?_
  show own_G p e below Φ T6 (mkF m 49 #[.val (.ref a1), .val (.ref ar), .val (.int (own_max (0 : Int32) (v0 + (1 : Int32)))), .val (.ref ar), .val (.int (1 : Int32)), .val (.int (1 : Int32)), .val (.int v0)] [(.ref a1)])
  refine own_go (fun _ => XS.iloadN X6.here hx rfl (hb hby d2_49) rfl) ?_
  show own_G p e below Φ T6 (mkF m 50 #[.val (.ref a1), .val (.ref ar), .val (.int (own_max (0 : Int32) (v0 + (1 : Int32)))), .val (.ref ar), .val (.int (1 : Int32)), .val (.int (1 : Int32)), .val (.int v0)] [(.int (own_max (0 : Int32) (v0 + (1 : Int32)))), (.ref a1)])
  have f7 : Exa Z h2 a1 "com/example/edgewarden/edgewarden/graph/Likeness" := E_a1.wr W2
  have f8 : Fld Z h2 a1 "com/example/edgewarden/edgewarden/graph/Likeness" "m_nClassCount" "I" u1 := F_m_nClassCount_a1.other W2 (Or.inr (sl_0 hw))
  obtain ⟨T9, h9, X9, e9, W9, st9⟩ := putF X6 hx hZ hown (host := "") (Or.inl (wd_17 hw)) Via.refl hs6 f8 f7 (Or.inr ⟨(wd_18 hw), rfl, hnm⟩) (wd_7 hw) (ty := .int) (by decide) rfl rfl (g := (mkF m 50 #[.val (.ref a1), .val (.ref ar), .val (.int (own_max (0 : Int32) (v0 + (1 : Int32)))), .val (.ref ar), .val (.int (1 : Int32)), .val (.int (1 : Int32)), .val (.int v0)] [(.int (own_max (0 : Int32) (v0 + (1 : Int32)))), (.ref a1)])) rfl rfl (hb hby d2_50)
  refine own_go st9 ?_
  have N9 := Fr.snoc X9 N6 g_a1
  have K9 := K2.wr W9 (Or.inl (List.mem_of_getElem? (i := 0) rfl))
  have Zp9 : n0 ≤ h9.size := Nat.le_trans Zp2 (Keep.of_wr W9).1
  have f9w := f8.same W9
  show own_G p e below Φ T9 (mkF m 53 #[.val (.ref a1), .val (.ref ar), .val (.int (own_max (0 : Int32) (v0 + (1 : Int32)))), .val (.ref ar), .val (.int (1 : Int32)), .val (.int (1 : Int32)), .val (.int v0)] [])
  have f10 : Exa Z h9 a1 "com/example/edgewarden/edgewarden/graph/Likeness" := f7.wr W9
  have f11 : Fld Z h9 a1 "com/example/edgewarden/edgewarden/graph/Likeness" "m_aClasses" "[I" (.ref ar) := f2w.other W9 (Or.inr (sl_1 hw))
  rw [hΦ]
  refine own_ret X9 (v := none) (fun _ => rfl) (BodyLoose.notSynchronized Bd) (fun fs hr => X9.returnOut hx Bd.returns (hb hby d2_53) hr) ?_ (by decide) (by decide)
  rw [e9]
  exact ⟨rfl, N9, K9, f10, f11, f9w⟩
theorem ef_rmI2 (m : MethodId) (a1 : Addr) (ar : Addr) : entryFrame m #[(.ref a1), (.ref ar)] 7 = mkF m 0 #[.val (.ref a1), .val (.ref ar), .unset, .unset, .unset, .unset, .unset] [] := by first | (simp [entryFrame, mkF, argsToLocals, Value.category]; done) | rfl
def Q_rmI2 (Z : State) (a1 : Addr) (ar : Addr) (ka : ClassId) (v0 : Int32) (v1 : Int32) (u0 : Value) (u1 : Value) (h0 : Heap) (n0 : Nat) (v : Option Value) (h : Heap) (L : List Loc) : Prop := v = none ∧ Fr n0 L ∧ Keep h0 h [a1] ∧ Exa Z h a1 "com/example/edgewarden/edgewarden/graph/Likeness" ∧ Fld Z h a1 "com/example/edgewarden/edgewarden/graph/Likeness" "m_aClasses" "[I" (.ref ar) ∧ Fld Z h a1 "com/example/edgewarden/edgewarden/graph/Likeness" "m_nClassCount" "I" (.int (own_max (own_max (0 : Int32) (v0 + (1 : Int32))) (v1 + (1 : Int32))))
set_option maxRecDepth 65536 in
set_option maxHeartbeats 40000000 in
theorem rmI2 (l : Launch) (Z : State) (a0 : Array Value) (hw : ∀ d ∈ tables_1, d.before a0 Z = true) (ws : List Jvm.Cond) (a1 : Addr) (ar : Addr) (ka : ClassId) (v0 : Int32) (v1 : Int32) (u0 : Value) (u1 : Value) (h0 : Heap) (n0 : Nat) (Z0 : n0 ≤ h0.size) (E_a1 : Exa Z h0 a1 "com/example/edgewarden/edgewarden/graph/Likeness") (F_m_aClasses_a1 : Fld Z h0 a1 "com/example/edgewarden/edgewarden/graph/Likeness" "m_aClasses" "[I" u0) (F_m_nClassCount_a1 : Fld Z h0 a1 "com/example/edgewarden/edgewarden/graph/Likeness" "m_nClassCount" "I" u1) (g_a1 : n0 ≤ a1) (V_ar : Arv Z h0 ar ka .int (2 : Int32) [(.int v0), (.int v1)] (.int (0 : Int32))) (ne_ar_a1 : ar ≠ a1) :
    MetFree l (⟨"com/example/edgewarden/edgewarden/graph/Likeness", "<init>", "([I)V"⟩ : MethodName) (head1 (Jvm.Cond.code (⟨"com/example/edgewarden/edgewarden/graph/Likeness", "<init>", "([I)V"⟩ : MethodName) prog_57_method_3_code 7 none :: ws) ({ frames := 1, cells := 0, slots := 0, locals := 13 } : Room)) (fun a U => a = #[(.ref a1), (.ref ar)] ∧ Z.Warmed39 U.vm ∧ U.heap = h0) (fun _ _ _ _ _ => True) (fun _ U o U' => ∃ v L, o = .returned v ∧ Q_rmI2 Z a1 ar ka v0 v1 u0 u1 h0 n0 v U'.heap L ∧ FrameEnd U o U' L ({ frames := 1, cells := 0, slots := 0, locals := 13 } : Room).cells ({ frames := 1, cells := 0, slots := 0, locals := 13 } : Room).slots) := by
  refine MetFree.of_bodySF (plainFor_of_name pn_0) hisR ?_
  intro p e s m args below meth c s₁ Bd hml0 hP hK
  obtain ⟨rfl, hZ, hh⟩ := hP
  have hx := Bd.exec
  have hby := Bd.bytes
  have hml : c.maxLocals = 7 := hml0
  have hown : s.vm.findClass "com/example/edgewarden/edgewarden/graph/Likeness" = some m.cls := findClass_of_methodNamed Bd.named
  have hnm := (name_of_methodNamed Bd.named Bd.method).1
  have X0 : Stand p l e ({ frames := 1, cells := 0, slots := 0, locals := 13 } : Room) s m #[(.ref a1), (.ref ar)] below meth c s₁ [] 0 0 := Stand.of_body Bd
  have e0 : s₁.heap = h0 := by rw [← hh, Bd.state]; rfl
  have N0 := Fr.nil n0
  have K0 : Keep h0 h0 [a1] := Keep.refl _ _
  suffices G0 : own_G p e below (own_E s below (Q_rmI2 Z a1 ar ka v0 v1 u0 u1 h0 n0) ({ frames := 1, cells := 0, slots := 0, locals := 13 } : Room).cells ({ frames := 1, cells := 0, slots := 0, locals := 13 } : Room).slots) s₁ (mkF m 0 #[.val (.ref a1), .val (.ref ar), .unset, .unset, .unset, .unset, .unset] []) by
    obtain ⟨zt, zst, zo, zq1, zq2, zq3⟩ := G0
    exact ⟨zt, zo, castTop (ef_rmI2 m a1 ar) zst, zq1, zq2, zq3⟩
  obtain ⟨Φ, hΦ⟩ : ∃ Φ, Φ = own_E s below (Q_rmI2 Z a1 ar ka v0 v1 u0 u1 h0 n0) ({ frames := 1, cells := 0, slots := 0, locals := 13 } : Room).cells ({ frames := 1, cells := 0, slots := 0, locals := 13 } : Room).slots := ⟨_, rfl⟩
  rw [← hΦ]
  show own_G p e below Φ s₁ (mkF m 0 #[.val (.ref a1), .val (.ref ar), .unset, .unset, .unset, .unset, .unset] [])
  refine own_go (fun _ => XS.aloadN X0.here hx rfl (hb hby d2_0) rfl rfl) ?_
  show own_G p e below Φ s₁ (mkF m 1 #[.val (.ref a1), .val (.ref ar), .unset, .unset, .unset, .unset, .unset] [(.ref a1)])
  obtain ⟨T1, X1, e1, st1⟩ := initO X0 hx hZ hown (wd_12 hw) (wd_13 hw) (wd_14 hw) e0 (g := (mkF m 1 #[.val (.ref a1), .val (.ref ar), .unset, .unset, .unset, .unset, .unset] [(.ref a1)])) rfl (by rw [hml]; rfl) rfl (hb hby d2_1) (by decide) (W := 0) (by show 2 * 0 + _ ≤ _; exact Nat.le_of_eq rfl) (by decide)
  refine own_go st1 ?_
  show own_G p e below Φ T1 (mkF m 4 #[.val (.ref a1), .val (.ref ar), .unset, .unset, .unset, .unset, .unset] [])
  refine own_go (fun _ => XS.aloadN X1.here hx rfl (hb hby d2_4) rfl rfl) ?_
  show own_G p e below Φ T1 (mkF m 5 #[.val (.ref a1), .val (.ref ar), .unset, .unset, .unset, .unset, .unset] [(.ref a1)])
  refine own_go (fun _ => XS.aloadN X1.here hx rfl (hb hby d2_5) rfl rfl) ?_
  show own_G p e below Φ T1 (mkF m 6 #[.val (.ref a1), .val (.ref ar), .unset, .unset, .unset, .unset, .unset] [(.ref ar), (.ref a1)])
  obtain ⟨T2, h2, X2, e2, W2, st2⟩ := putF X1 hx hZ hown (host := "") (Or.inl (wd_15 hw)) Via.refl e1 F_m_aClasses_a1 E_a1 (Or.inr ⟨(wd_16 hw), rfl, hnm⟩) (wd_7 hw) (ty := (.array .int)) (by decide) rfl rfl (g := (mkF m 6 #[.val (.ref a1), .val (.ref ar), .unset, .unset, .unset, .unset, .unset] [(.ref ar), (.ref a1)])) rfl rfl (hb hby d2_6)
  refine own_go st2 ?_
  have N2 := Fr.snoc X2 N0 g_a1
  have K2 := K0.wr W2 (Or.inl (List.mem_of_getElem? (i := 0) rfl))
  have Zp2 : n0 ≤ h2.size := Nat.le_trans Z0 (Keep.of_wr W2).1
  have f2w := F_m_aClasses_a1.same W2
  show own_G p e below Φ T2 (mkF m 9 #[.val (.ref a1), .val (.ref ar), .unset, .unset, .unset, .unset, .unset] [])
  refine own_go (fun _ => XS.iconst X2.here hx rfl (hb hby d2_9)) ?_
  show own_G p e below Φ T2 (mkF m 10 #[.val (.ref a1), .val (.ref ar), .unset, .unset, .unset, .unset, .unset] [(.int (0 : Int32))])
  refine own_go (fun _ => XS.istoreN X2.here hx rfl (hb hby d2_10) rfl (l' := #[.val (.ref a1), .val (.ref ar), .val (.int (0 : Int32)), .unset, .unset, .unset, .unset]) rfl) ?_
  show own_G p e below Φ T2 (mkF m 11 #[.val (.ref a1), .val (.ref ar), .val (.int (0 : Int32)), .unset, .unset, .unset, .unset] [])
  refine own_go (fun _ => XS.aloadN X2.here hx rfl (hb hby d2_11) rfl rfl) ?_
  show own_G p e below Φ T2 (mkF m 12 #[.val (.ref a1), .val (.ref ar), .val (.int (0 : Int32)), .unset, .unset, .unset, .unset] [(.ref ar)])
  refine own_go (fun _ => XS.astoreN X2.here hx rfl (hb hby d2_12) rfl rfl (l' := #[.val (.ref a1), .val (.ref ar), .val (.int (0 : Int32)), .val (.ref ar), .unset, .unset, .unset]) rfl) ?_
  show own_G p e below Φ T2 (mkF m 13 #[.val (.ref a1), .val (.ref ar), .val (.int (0 : Int32)), .val (.ref ar), .unset, .unset, .unset] [])
  refine own_go (fun _ => XS.aloadN X2.here hx rfl (hb hby d2_13) rfl rfl) ?_
  show own_G p e below Φ T2 (mkF m 14 #[.val (.ref a1), .val (.ref ar), .val (.int (0 : Int32)), .val (.ref ar), .unset, .unset, .unset] [(.ref ar)])
  have f3 : Arv Z h2 ar ka .int (2 : Int32) [(.int v0), (.int v1)] (.int (0 : Int32)) := V_ar.other W2 ne_ar_a1
  obtain ⟨cl4, Ar4, q4, S4, M4, H4, G4⟩ := id f3
  refine own_go (fun _ => X2.arraylength hx (by rw [e2]; exact Ar4.1) (State.isArrayOf_alike hZ.alike Ar4.2.1) (g := (mkF m 14 #[.val (.ref a1), .val (.ref ar), .val (.int (0 : Int32)), .val (.ref ar), .unset, .unset, .unset] [(.ref ar)])) rfl rfl (hb hby d2_14) _) ?_
  rw [len_of S4 M4]
  show own_G p e below Φ T2 (mkF m 15 #[.val (.ref a1), .val (.ref ar), .val (.int (0 : Int32)), .val (.ref ar), .unset, .unset, .unset] [(.int (2 : Int32))])
  refine own_go (fun _ => XS.istore X2.here hx rfl (hb hby d2_15) rfl (l' := #[.val (.ref a1), .val (.ref ar), .val (.int (0 : Int32)), .val (.ref ar), .val (.int (2 : Int32)), .unset, .unset]) rfl) ?_
  show own_G p e below Φ T2 (mkF m 17 #[.val (.ref a1), .val (.ref ar), .val (.int (0 : Int32)), .val (.ref ar), .val (.int (2 : Int32)), .unset, .unset] [])
  refine own_go (fun _ => XS.iconst X2.here hx rfl (hb hby d2_17)) ?_
  show own_G p e below Φ T2 (mkF m 18 #[.val (.ref a1), .val (.ref ar), .val (.int (0 : Int32)), .val (.ref ar), .val (.int (2 : Int32)), .unset, .unset] [(.int (0 : Int32))])
  refine own_go (fun _ => XS.istore X2.here hx rfl (hb hby d2_18) rfl (l' := #[.val (.ref a1), .val (.ref ar), .val (.int (0 : Int32)), .val (.ref ar), .val (.int (2 : Int32)), .val (.int (0 : Int32)), .unset]) rfl) ?_
  show own_G p e below Φ T2 (mkF m 20 #[.val (.ref a1), .val (.ref ar), .val (.int (0 : Int32)), .val (.ref ar), .val (.int (2 : Int32)), .val (.int (0 : Int32)), .unset] [])
  refine own_go (fun _ => XS.iload X2.here hx rfl (hb hby d2_20) rfl) ?_
  show own_G p e below Φ T2 (mkF m 22 #[.val (.ref a1), .val (.ref ar), .val (.int (0 : Int32)), .val (.ref ar), .val (.int (2 : Int32)), .val (.int (0 : Int32)), .unset] [(.int (0 : Int32))])
  refine own_go (fun _ => XS.iload X2.here hx rfl (hb hby d2_22) rfl) ?_
  show own_G p e below Φ T2 (mkF m 24 #[.val (.ref a1), .val (.ref ar), .val (.int (0 : Int32)), .val (.ref ar), .val (.int (2 : Int32)), .val (.int (0 : Int32)), .unset] [(.int (2 : Int32)), (.int (0 : Int32))])
  refine own_go (fun _ => XS.icmpNo X2.here hx rfl (hb hby d2_24) rfl (Jvm.Free.XT.ii_ge_f (by decide : ((0 : Int32) < (2 : Int32))))) ?_
  show own_G p e below Φ T2 (mkF m 27 #[.val (.ref a1), .val (.ref ar), .val (.int (0 : Int32)), .val (.ref ar), .val (.int (2 : Int32)), .val (.int (0 : Int32)), .unset] [])
  refine own_go (fun _ => XS.aloadN X2.here hx rfl (hb hby d2_27) rfl rfl) ?_
  show own_G p e below Φ T2 (mkF m 28 #[.val (.ref a1), .val (.ref ar), .val (.int (0 : Int32)), .val (.ref ar), .val (.int (2 : Int32)), .val (.int (0 : Int32)), .unset] [(.ref ar)])
  refine own_go (fun _ => XS.iload X2.here hx rfl (hb hby d2_28) rfl) ?_
  show own_G p e below Φ T2 (mkF m 30 #[.val (.ref a1), .val (.ref ar), .val (.int (0 : Int32)), .val (.ref ar), .val (.int (2 : Int32)), .val (.int (0 : Int32)), .unset] [(.int (0 : Int32)), (.ref ar)])
  obtain ⟨cl5, Ar5, q5, S5, M5, H5, G5⟩ := id f3
  have hin5 : ¬ ((0 : Int32) < 0 ∨ cl5.slots.size ≤ ((0 : Int32)).toNatClampNeg) := inb_of S5 ⟨by decide, by decide⟩
  refine own_go (fun _ => X2.iaload hx (j := (0 : Int32)) (v := (.int v0)) (by rw [e2]; exact Ar5.1) (State.isArrayOf_alike hZ.alike Ar5.2.1) Ar5.2.2 hin5 (H5.at hin5 rfl) (g := (mkF m 30 #[.val (.ref a1), .val (.ref ar), .val (.int (0 : Int32)), .val (.ref ar), .val (.int (2 : Int32)), .val (.int (0 : Int32)), .unset] [(.int (0 : Int32)), (.ref ar)])) rfl rfl (hb hby d2_30) _) ?_
  show own_G p e below Φ T2 (mkF m 31 #[.val (.ref a1), .val (.ref ar), .val (.int (0 : Int32)), .val (.ref ar), .val (.int (2 : Int32)), .val (.int (0 : Int32)), .unset] [(.int v0)])
  refine own_go (fun _ => XS.istore X2.here hx rfl (hb hby d2_31) rfl (l' := #[.val (.ref a1), .val (.ref ar), .val (.int (0 : Int32)), .val (.ref ar), .val (.int (2 : Int32)), .val (.int (0 : Int32)), .val (.int v0)]) rfl) ?_
  show own_G p e below Φ T2 (mkF m 33 #[.val (.ref a1), .val (.ref ar), .val (.int (0 : Int32)), .val (.ref ar), .val (.int (2 : Int32)), .val (.int (0 : Int32)), .val (.int v0)] [])
  refine own_go (fun _ => XS.iloadN X2.here hx rfl (hb hby d2_33) rfl) ?_
  show own_G p e below Φ T2 (mkF m 34 #[.val (.ref a1), .val (.ref ar), .val (.int (0 : Int32)), .val (.ref ar), .val (.int (2 : Int32)), .val (.int (0 : Int32)), .val (.int v0)] [(.int (0 : Int32))])
  refine own_go (fun _ => XS.iload X2.here hx rfl (hb hby d2_34) rfl) ?_
  show own_G p e below Φ T2 (mkF m 36 #[.val (.ref a1), .val (.ref ar), .val (.int (0 : Int32)), .val (.ref ar), .val (.int (2 : Int32)), .val (.int (0 : Int32)), .val (.int v0)] [(.int v0), (.int (0 : Int32))])
  refine own_go (fun _ => XS.iconst X2.here hx rfl (hb hby d2_36)) ?_
  show own_G p e below Φ T2 (mkF m 37 #[.val (.ref a1), .val (.ref ar), .val (.int (0 : Int32)), .val (.ref ar), .val (.int (2 : Int32)), .val (.int (0 : Int32)), .val (.int v0)] [(.int (1 : Int32)), (.int v0), (.int (0 : Int32))])
  refine own_go (fun _ => XS.iadd X2.here hx rfl (hb hby d2_37) rfl) ?_
  show own_G p e below Φ T2 (mkF m 38 #[.val (.ref a1), .val (.ref ar), .val (.int (0 : Int32)), .val (.ref ar), .val (.int (2 : Int32)), .val (.int (0 : Int32)), .val (.int v0)] [(.int (v0 + (1 : Int32))), (.int (0 : Int32))])
  obtain ⟨_, _, ⟨T6, zL6, zk6, zn6⟩, -, X6, ⟨Lc6, hQ6, l6, y6, z6⟩, st6⟩ := Jvm.LawKit.callS X2 hx (y := (⟨"java/lang/Math", "max", "(II)I"⟩ : MethodName)) hown (mvT hZ (wd_28 hw)) (mvT hZ (wd_2 hw)) (mvT hZ (wd_3 hw)) (mvT hZ (wd_4 hw)) (by decide) (backOf (W := 0) (rmM l Z a0 hw [] (0 : Int32) (v0 + (1 : Int32)) h2 n0 Zp2 ) hZ (wd_4 hw) (wd_3 hw) (by decide) (by decide)) (g := (mkF m 38 #[.val (.ref a1), .val (.ref ar), .val (.int (0 : Int32)), .val (.ref ar), .val (.int (2 : Int32)), .val (.int (0 : Int32)), .val (.int v0)] [(.int (v0 + (1 : Int32))), (.int (0 : Int32))])) rfl (by rw [hml]; rfl) (argsL := [(.int (0 : Int32)), (.int (v0 + (1 : Int32)))]) (rest := []) (lenOf pd_0 rfl) rfl (by show 2 * 0 + _ ≤ _; exact Nat.le_of_eq rfl) (hb hby d2_38) (fun _ _ => ⟨rfl, e2, (by decide : 0 + 0 ≤ _), (by decide : 0 + 0 ≤ _)⟩)
  dsimp only [Pt.U, Pt.locs, Pt.cells, Pt.slots] at X6 l6 y6 z6 st6 hQ6
  subst l6 y6 z6
  obtain ⟨rfl, N6q, hs6⟩ := hQ6
  have N6 := Fr.app N2 N6q
  refine own_go st6 ?_
  show own_G p e below Φ T6 (mkF m 41 #[.val (.ref a1), .val (.ref ar), .val (.int (0 : Int32)), .val (.ref ar), .val (.int (2 : Int32)), .val (.int (0 : Int32)), .val (.int v0)] [(.int (own_max (0 : Int32) (v0 + (1 : Int32))))])
  refine own_go (fun _ => XS.istoreN X6.here hx rfl (hb hby d2_41) rfl (l' := #[.val (.ref a1), .val (.ref ar), .val (.int (own_max (0 : Int32) (v0 + (1 : Int32)))), .val (.ref ar), .val (.int (2 : Int32)), .val (.int (0 : Int32)), .val (.int v0)]) rfl) ?_
  show own_G p e below Φ T6 (mkF m 42 #[.val (.ref a1), .val (.ref ar), .val (.int (own_max (0 : Int32) (v0 + (1 : Int32)))), .val (.ref ar), .val (.int (2 : Int32)), .val (.int (0 : Int32)), .val (.int v0)] [])
  refine own_go (fun _ => XS.iinc X6.here hx rfl (hb hby d2_42) rfl (l' := #[.val (.ref a1), .val (.ref ar), .val (.int (own_max (0 : Int32) (v0 + (1 : Int32)))), .val (.ref ar), .val (.int (2 : Int32)), .val (.int (1 : Int32)), .val (.int v0)]) rfl) ?_
  show own_G p e below Φ T6 (mkF m 45 #[.val (.ref a1), .val (.ref ar), .val (.int (own_max (0 : Int32) (v0 + (1 : Int32)))), .val (.ref ar), .val (.int (2 : Int32)), .val (.int (1 : Int32)), .val (.int v0)] [])
  refine own_go (fun _ => XS.goto X6.here hx rfl (pc0 := 45) (pc' := 20) rfl (hb hby d2_45) (by decide) (by decide)) ?_
  show own_G p e below Φ T6 (mkF m 20 #[.val (.ref a1), .val (.ref ar), .val (.int (own_max (0 : Int32) (v0 + (1 : Int32)))), .val (.ref ar), .val (.int (2 : Int32)), .val (.int (1 : Int32)), .val (.int v0)] [])
  refine own_go (fun _ => XS.iload X6.here hx rfl (hb hby d2_20) rfl) ?_
  show own_G p e below Φ T6 (mkF m 22 #[.val (.ref a1), .val (.ref ar), .val (.int (own_max (0 : Int32) (v0 + (1 : Int32)))), .val (.ref ar), .val (.int (2 : Int32)), .val (.int (1 : Int32)), .val (.int v0)] [(.int (1 : Int32))])
  refine own_go (fun _ => XS.iload X6.here hx rfl (hb hby d2_22) rfl) ?_
  show own_G p e below Φ T6 (mkF m 24 #[.val (.ref a1), .val (.ref ar), .val (.int (own_max (0 : Int32) (v0 + (1 : Int32)))), .val (.ref ar), .val (.int (2 : Int32)), .val (.int (1 : Int32)), .val (.int v0)] [(.int (2 : Int32)), (.int (1 : Int32))])
  refine own_go (fun _ => XS.icmpNo X6.here hx rfl (hb hby d2_24) rfl (Jvm.Free.XT.ii_ge_f (by decide : ((1 : Int32) < (2 : Int32))))) ?_
  show own_G p e below Φ T6 (mkF m 27 #[.val (.ref a1), .val (.ref ar), .val (.int (own_max (0 : Int32) (v0 + (1 : Int32)))), .val (.ref ar), .val (.int (2 : Int32)), .val (.int (1 : Int32)), .val (.int v0)] [])
  refine own_go (fun _ => XS.aloadN X6.here hx rfl (hb hby d2_27) rfl rfl) ?_
  show own_G p e below Φ T6 (mkF m 28 #[.val (.ref a1), .val (.ref ar), .val (.int (own_max (0 : Int32) (v0 + (1 : Int32)))), .val (.ref ar), .val (.int (2 : Int32)), .val (.int (1 : Int32)), .val (.int v0)] [(.ref ar)])
  refine own_go (fun _ => XS.iload X6.here hx rfl (hb hby d2_28) rfl) ?_
  show own_G p e below Φ T6 (mkF m 30 #[.val (.ref a1), .val (.ref ar), .val (.int (own_max (0 : Int32) (v0 + (1 : Int32)))), .val (.ref ar), .val (.int (2 : Int32)), .val (.int (1 : Int32)), .val (.int v0)] [(.int (1 : Int32)), (.ref ar)])
  obtain ⟨cl7, Ar7, q7, S7, M7, H7, G7⟩ := id f3
  have hin7 : ¬ ((1 : Int32) < 0 ∨ cl7.slots.size ≤ ((1 : Int32)).toNatClampNeg) := inb_of S7 ⟨by decide, by decide⟩
  refine own_go (fun _ => X6.iaload hx (j := (1 : Int32)) (v := (.int v1)) (by rw [hs6]; exact Ar7.1) (State.isArrayOf_alike hZ.alike Ar7.2.1) Ar7.2.2 hin7 (H7.at hin7 rfl) (g := (mkF m 30 #[.val (.ref a1), .val (.ref ar), .val (.int (own_max (0 : Int32) (v0 + (1 : Int32)))), .val (.ref ar), .val (.int (2 : Int32)), .val (.int (1 : Int32)), .val (.int v0)] [(.int (1 : Int32)), (.ref ar)])) rfl rfl (hb hby d2_30) _) ?_
  show own_G p e below Φ T6 (mkF m 31 #[.val (.ref a1), .val (.ref ar), .val (.int (own_max (0 : Int32) (v0 + (1 : Int32)))), .val (.ref ar), .val (.int (2 : Int32)), .val (.int (1 : Int32)), .val (.int v0)] [(.int v1)])
  refine own_go (fun _ => XS.istore X6.here hx rfl (hb hby d2_31) rfl (l' := #[.val (.ref a1), .val (.ref ar), .val (.int (own_max (0 : Int32) (v0 + (1 : Int32)))), .val (.ref ar), .val (.int (2 : Int32)), .val (.int (1 : Int32)), .val (.int v1)]) rfl) ?_
  show own_G p e below Φ T6 (mkF m 33 #[.val (.ref a1), .val (.ref ar), .val (.int (own_max (0 : Int32) (v0 + (1 : Int32)))), .val (.ref ar), .val (.int (2 : Int32)), .val (.int (1 : Int32)), .val (.int v1)] [])
  refine own_go (fun _ => XS.iloadN X6.here hx rfl (hb hby d2_33) rfl) ?_
  show own_G p e below Φ T6 (mkF m 34 #[.val (.ref a1), .val (.ref ar), .val (.int (own_max (0 : Int32) (v0 + (1 : Int32)))), .val (.ref ar), .val (.int (2 : Int32)), .val (.int (1 : Int32)), .val (.int v1)] [(.int (own_max (0 : Int32) (v0 + (1 : Int32))))])
  refine own_go (fun _ => XS.iload X6.here hx rfl (hb hby d2_34) rfl) ?_
  show own_G p e below Φ T6 (mkF m 36 #[.val (.ref a1), .val (.ref ar), .val (.int (own_max (0 : Int32) (v0 + (1 : Int32)))), .val (.ref ar), .val (.int (2 : Int32)), .val (.int (1 : Int32)), .val (.int v1)] [(.int v1), (.int (own_max (0 : Int32) (v0 + (1 : Int32))))])
  refine own_go (fun _ => XS.iconst X6.here hx rfl (hb hby d2_36)) ?_
  show own_G p e below Φ T6 (mkF m 37 #[.val (.ref a1), .val (.ref ar), .val (.int (own_max (0 : Int32) (v0 + (1 : Int32)))), .val (.ref ar), .val (.int (2 : Int32)), .val (.int (1 : Int32)), .val (.int v1)] [(.int (1 : Int32)), (.int v1), (.int (own_max (0 : Int32) (v0 + (1 : Int32))))])
  refine own_go (fun _ => XS.iadd X6.here hx rfl (hb hby d2_37) rfl) ?_
  show own_G p e below Φ T6 (mkF m 38 #[.val (.ref a1), .val (.ref ar), .val (.int (own_max (0 : Int32) (v0 + (1 : Int32)))), .val (.ref ar), .val (.int (2 : Int32)), .val (.int (1 : Int32)), .val (.int v1)] [(.int (v1 + (1 : Int32))), (.int (own_max (0 : Int32) (v0 + (1 : Int32))))])
  obtain ⟨_, _, ⟨T8, zL8, zk8, zn8⟩, -, X8, ⟨Lc8, hQ8, l8, y8, z8⟩, st8⟩ := Jvm.LawKit.callS X6 hx (y := (⟨"java/lang/Math", "max", "(II)I"⟩ : MethodName)) hown (mvT hZ (wd_28 hw)) (mvT hZ (wd_2 hw)) (mvT hZ (wd_3 hw)) (mvT hZ (wd_4 hw)) (by decide) (backOf (W := 0) (rmM l Z a0 hw [] (own_max (0 : Int32) (v0 + (1 : Int32))) (v1 + (1 : Int32)) h2 n0 Zp2 ) hZ (wd_4 hw) (wd_3 hw) (by decide) (by decide)) (g := (mkF m 38 #[.val (.ref a1), .val (.ref ar), .val (.int (own_max (0 : Int32) (v0 + (1 : Int32)))), .val (.ref ar), .val (.int (2 : Int32)), .val (.int (1 : Int32)), .val (.int v1)] [(.int (v1 + (1 : Int32))), (.int (own_max (0 : Int32) (v0 + (1 : Int32))))])) rfl (by rw [hml]; rfl) (argsL := [(.int (own_max (0 : Int32) (v0 + (1 : Int32)))), (.int (v1 + (1 : Int32)))]) (rest := []) (lenOf pd_0 rfl) rfl (by show 2 * 0 + _ ≤ _; exact Nat.le_of_eq rfl) (hb hby d2_38) (fun _ _ => ⟨rfl, hs6, (by decide : 0 + 0 ≤ _), (by decide : 0 + 0 ≤ _)⟩)
  dsimp only [Pt.U, Pt.locs, Pt.cells, Pt.slots] at X8 l8 y8 z8 st8 hQ8
  subst l8 y8 z8
  obtain ⟨rfl, N8q, hs8⟩ := hQ8
  have N8 := Fr.app N6 N8q
  refine own_go st8 ?_
  show own_G p e below Φ T8 (mkF m 41 #[.val (.ref a1), .val (.ref ar), .val (.int (own_max (0 : Int32) (v0 + (1 : Int32)))), .val (.ref ar), .val (.int (2 : Int32)), .val (.int (1 : Int32)), .val (.int v1)] [(.int (own_max (own_max (0 : Int32) (v0 + (1 : Int32))) (v1 + (1 : Int32))))])
  refine own_go (fun _ => XS.istoreN X8.here hx rfl (hb hby d2_41) rfl (l' := #[.val (.ref a1), .val (.ref ar), .val (.int (own_max (own_max (0 : Int32) (v0 + (1 : Int32))) (v1 + (1 : Int32)))), .val (.ref ar), .val (.int (2 : Int32)), .val (.int (1 : Int32)), .val (.int v1)]) rfl) ?_
  show own_G p e below Φ T8 (mkF m 42 #[.val (.ref a1), .val (.ref ar), .val (.int (own_max (own_max (0 : Int32) (v0 + (1 : Int32))) (v1 + (1 : Int32)))), .val (.ref ar), .val (.int (2 : Int32)), .val (.int (1 : Int32)), .val (.int v1)] [])
  refine own_go (fun _ => XS.iinc X8.here hx rfl (hb hby d2_42) rfl (l' := #[.val (.ref a1), .val (.ref ar), .val (.int (own_max (own_max (0 : Int32) (v0 + (1 : Int32))) (v1 + (1 : Int32)))), .val (.ref ar), .val (.int (2 : Int32)), .val (.int (2 : Int32)), .val (.int v1)]) rfl) ?_
  show own_G p e below Φ T8 (mkF m 45 #[.val (.ref a1), .val (.ref ar), .val (.int (own_max (own_max (0 : Int32) (v0 + (1 : Int32))) (v1 + (1 : Int32)))), .val (.ref ar), .val (.int (2 : Int32)), .val (.int (2 : Int32)), .val (.int v1)] [])
  refine own_go (fun _ => XS.goto X8.here hx rfl (pc0 := 45) (pc' := 20) rfl (hb hby d2_45) (by decide) (by decide)) ?_
  show own_G p e below Φ T8 (mkF m 20 #[.val (.ref a1), .val (.ref ar), .val (.int (own_max (own_max (0 : Int32) (v0 + (1 : Int32))) (v1 + (1 : Int32)))), .val (.ref ar), .val (.int (2 : Int32)), .val (.int (2 : Int32)), .val (.int v1)] [])
  refine own_go (fun _ => XS.iload X8.here hx rfl (hb hby d2_20) rfl) ?_
  show own_G p e below Φ T8 (mkF m 22 #[.val (.ref a1), .val (.ref ar), .val (.int (own_max (own_max (0 : Int32) (v0 + (1 : Int32))) (v1 + (1 : Int32)))), .val (.ref ar), .val (.int (2 : Int32)), .val (.int (2 : Int32)), .val (.int v1)] [(.int (2 : Int32))])
  refine own_go (fun _ => XS.iload X8.here hx rfl (hb hby d2_22) rfl) ?_
  show own_G p e below Φ T8 (mkF m 24 #[.val (.ref a1), .val (.ref ar), .val (.int (own_max (own_max (0 : Int32) (v0 + (1 : Int32))) (v1 + (1 : Int32)))), .val (.ref ar), .val (.int (2 : Int32)), .val (.int (2 : Int32)), .val (.int v1)] [(.int (2 : Int32)), (.int (2 : Int32))])
  refine own_go (fun _ => XS.icmpYes X8.here hx rfl (pc0 := 24) (pc' := 48) rfl (hb hby d2_24) rfl (Jvm.Free.XT.ii_ge_t (by decide : ¬ ((2 : Int32) < (2 : Int32)))) (by decide) (by decide)) ?_
  show own_G p e below Φ T8 (mkF m 48 #[.val (.ref a1), .val (.ref ar), .val (.int (own_max (own_max (0 : Int32) (v0 + (1 : Int32))) (v1 + (1 : Int32)))), .val (.ref ar), .val (.int (2 : Int32)), .val (.int (2 : Int32)), .val (.int v1)] [])
  refine own_go (fun _ => XS.aloadN X8.here hx rfl (hb hby d2_48) rfl rfl) ?_
  show own_G p e below Φ T8 (mkF m 49 #[.val (.ref a1), .val (.ref ar), .val (.int (own_max (own_max (0 : Int32) (v0 + (1 : Int32))) (v1 + (1 : Int32)))), .val (.ref ar), .val (.int (2 : Int32)), .val (.int (2 : Int32)), .val (.int v1)] [(.ref a1)])
  refine own_go (fun _ => XS.iloadN X8.here hx rfl (hb hby d2_49) rfl) ?_
  show own_G p e below Φ T8 (mkF m 50 #[.val (.ref a1), .val (.ref ar), .val (.int (own_max (own_max (0 : Int32) (v0 + (1 : Int32))) (v1 + (1 : Int32)))), .val (.ref ar), .val (.int (2 : Int32)), .val (.int (2 : Int32)), .val (.int v1)] [(.int (own_max (own_max (0 : Int32) (v0 + (1 : Int32))) (v1 + (1 : Int32)))), (.ref a1)])
  have f9 : Exa Z h2 a1 "com/example/edgewarden/edgewarden/graph/Likeness" := E_a1.wr W2
  have f10 : Fld Z h2 a1 "com/example/edgewarden/edgewarden/graph/Likeness" "m_nClassCount" "I" u1 := F_m_nClassCount_a1.other W2 (Or.inr (sl_0 hw))
  obtain ⟨T11, h11, X11, e11, W11, st11⟩ := putF X8 hx hZ hown (host := "") (Or.inl (wd_17 hw)) Via.refl hs8 f10 f9 (Or.inr ⟨(wd_18 hw), rfl, hnm⟩) (wd_7 hw) (ty := .int) (by decide) rfl rfl (g := (mkF m 50 #[.val (.ref a1), .val (.ref ar), .val (.int (own_max (own_max (0 : Int32) (v0 + (1 : Int32))) (v1 + (1 : Int32)))), .val (.ref ar), .val (.int (2 : Int32)), .val (.int (2 : Int32)), .val (.int v1)] [(.int (own_max (own_max (0 : Int32) (v0 + (1 : Int32))) (v1 + (1 : Int32)))), (.ref a1)])) rfl rfl (hb hby d2_50)
  refine own_go st11 ?_
  have N11 := Fr.snoc X11 N8 g_a1
  have K11 := K2.wr W11 (Or.inl (List.mem_of_getElem? (i := 0) rfl))
  have Zp11 : n0 ≤ h11.size := Nat.le_trans Zp2 (Keep.of_wr W11).1
  have f11w := f10.same W11
  show own_G p e below Φ T11 (mkF m 53 #[.val (.ref a1), .val (.ref ar), .val (.int (own_max (own_max (0 : Int32) (v0 + (1 : Int32))) (v1 + (1 : Int32)))), .val (.ref ar), .val (.int (2 : Int32)), .val (.int (2 : Int32)), .val (.int v1)] [])
  have f12 : Exa Z h11 a1 "com/example/edgewarden/edgewarden/graph/Likeness" := f9.wr W11
  have f13 : Fld Z h11 a1 "com/example/edgewarden/edgewarden/graph/Likeness" "m_aClasses" "[I" (.ref ar) := f2w.other W11 (Or.inr (sl_1 hw))
  rw [hΦ]
  refine own_ret X11 (v := none) (fun _ => rfl) (BodyLoose.notSynchronized Bd) (fun fs hr => X11.returnOut hx Bd.returns (hb hby d2_53) hr) ?_ (by decide) (by decide)
  rw [e11]
  exact ⟨rfl, N11, K11, f12, f13, f11w⟩
theorem ef_rmI3 (m : MethodId) (a1 : Addr) (ar : Addr) : entryFrame m #[(.ref a1), (.ref ar)] 7 = mkF m 0 #[.val (.ref a1), .val (.ref ar), .unset, .unset, .unset, .unset, .unset] [] := by first | (simp [entryFrame, mkF, argsToLocals, Value.category]; done) | rfl
def Q_rmI3 (Z : State) (a1 : Addr) (ar : Addr) (ka : ClassId) (v0 : Int32) (v1 : Int32) (v2 : Int32) (u0 : Value) (u1 : Value) (h0 : Heap) (n0 : Nat) (v : Option Value) (h : Heap) (L : List Loc) : Prop := v = none ∧ Fr n0 L ∧ Keep h0 h [a1] ∧ Exa Z h a1 "com/example/edgewarden/edgewarden/graph/Likeness" ∧ Fld Z h a1 "com/example/edgewarden/edgewarden/graph/Likeness" "m_aClasses" "[I" (.ref ar) ∧ Fld Z h a1 "com/example/edgewarden/edgewarden/graph/Likeness" "m_nClassCount" "I" (.int (own_max (own_max (own_max (0 : Int32) (v0 + (1 : Int32))) (v1 + (1 : Int32))) (v2 + (1 : Int32))))
set_option maxRecDepth 65536 in
set_option maxHeartbeats 40000000 in
theorem rmI3 (l : Launch) (Z : State) (a0 : Array Value) (hw : ∀ d ∈ tables_1, d.before a0 Z = true) (ws : List Jvm.Cond) (a1 : Addr) (ar : Addr) (ka : ClassId) (v0 : Int32) (v1 : Int32) (v2 : Int32) (u0 : Value) (u1 : Value) (h0 : Heap) (n0 : Nat) (Z0 : n0 ≤ h0.size) (E_a1 : Exa Z h0 a1 "com/example/edgewarden/edgewarden/graph/Likeness") (F_m_aClasses_a1 : Fld Z h0 a1 "com/example/edgewarden/edgewarden/graph/Likeness" "m_aClasses" "[I" u0) (F_m_nClassCount_a1 : Fld Z h0 a1 "com/example/edgewarden/edgewarden/graph/Likeness" "m_nClassCount" "I" u1) (g_a1 : n0 ≤ a1) (V_ar : Arv Z h0 ar ka .int (3 : Int32) [(.int v0), (.int v1), (.int v2)] (.int (0 : Int32))) (ne_ar_a1 : ar ≠ a1) :
    MetFree l (⟨"com/example/edgewarden/edgewarden/graph/Likeness", "<init>", "([I)V"⟩ : MethodName) (head1 (Jvm.Cond.code (⟨"com/example/edgewarden/edgewarden/graph/Likeness", "<init>", "([I)V"⟩ : MethodName) prog_57_method_3_code 7 none :: ws) ({ frames := 1, cells := 0, slots := 0, locals := 13 } : Room)) (fun a U => a = #[(.ref a1), (.ref ar)] ∧ Z.Warmed39 U.vm ∧ U.heap = h0) (fun _ _ _ _ _ => True) (fun _ U o U' => ∃ v L, o = .returned v ∧ Q_rmI3 Z a1 ar ka v0 v1 v2 u0 u1 h0 n0 v U'.heap L ∧ FrameEnd U o U' L ({ frames := 1, cells := 0, slots := 0, locals := 13 } : Room).cells ({ frames := 1, cells := 0, slots := 0, locals := 13 } : Room).slots) := by
  refine MetFree.of_bodySF (plainFor_of_name pn_0) hisR ?_
  intro p e s m args below meth c s₁ Bd hml0 hP hK
  obtain ⟨rfl, hZ, hh⟩ := hP
  have hx := Bd.exec
  have hby := Bd.bytes
  have hml : c.maxLocals = 7 := hml0
  have hown : s.vm.findClass "com/example/edgewarden/edgewarden/graph/Likeness" = some m.cls := findClass_of_methodNamed Bd.named
  have hnm := (name_of_methodNamed Bd.named Bd.method).1
  have X0 : Stand p l e ({ frames := 1, cells := 0, slots := 0, locals := 13 } : Room) s m #[(.ref a1), (.ref ar)] below meth c s₁ [] 0 0 := Stand.of_body Bd
  have e0 : s₁.heap = h0 := by rw [← hh, Bd.state]; rfl
  have N0 := Fr.nil n0
  have K0 : Keep h0 h0 [a1] := Keep.refl _ _
  suffices G0 : own_G p e below (own_E s below (Q_rmI3 Z a1 ar ka v0 v1 v2 u0 u1 h0 n0) ({ frames := 1, cells := 0, slots := 0, locals := 13 } : Room).cells ({ frames := 1, cells := 0, slots := 0, locals := 13 } : Room).slots) s₁ (mkF m 0 #[.val (.ref a1), .val (.ref ar), .unset, .unset, .unset, .unset, .unset] []) by
    obtain ⟨zt, zst, zo, zq1, zq2, zq3⟩ := G0
    exact ⟨zt, zo, castTop (ef_rmI3 m a1 ar) zst, zq1, zq2, zq3⟩
  obtain ⟨Φ, hΦ⟩ : ∃ Φ, Φ = own_E s below (Q_rmI3 Z a1 ar ka v0 v1 v2 u0 u1 h0 n0) ({ frames := 1, cells := 0, slots := 0, locals := 13 } : Room).cells ({ frames := 1, cells := 0, slots := 0, locals := 13 } : Room).slots := ⟨_, rfl⟩
  rw [← hΦ]
  show own_G p e below Φ s₁ (mkF m 0 #[.val (.ref a1), .val (.ref ar), .unset, .unset, .unset, .unset, .unset] [])
  refine own_go (fun _ => XS.aloadN X0.here hx rfl (hb hby d2_0) rfl rfl) ?_
  show own_G p e below Φ s₁ (mkF m 1 #[.val (.ref a1), .val (.ref ar), .unset, .unset, .unset, .unset, .unset] [(.ref a1)])
  obtain ⟨T1, X1, e1, st1⟩ := initO X0 hx hZ hown (wd_12 hw) (wd_13 hw) (wd_14 hw) e0 (g := (mkF m 1 #[.val (.ref a1), .val (.ref ar), .unset, .unset, .unset, .unset, .unset] [(.ref a1)])) rfl (by rw [hml]; rfl) rfl (hb hby d2_1) (by decide) (W := 0) (by show 2 * 0 + _ ≤ _; exact Nat.le_of_eq rfl) (by decide)
  refine own_go st1 ?_
  show own_G p e below Φ T1 (mkF m 4 #[.val (.ref a1), .val (.ref ar), .unset, .unset, .unset, .unset, .unset] [])
  refine own_go (fun _ => XS.aloadN X1.here hx rfl (hb hby d2_4) rfl rfl) ?_
  show own_G p e below Φ T1 (mkF m 5 #[.val (.ref a1), .val (.ref ar), .unset, .unset, .unset, .unset, .unset] [(.ref a1)])
  refine own_go (fun _ => XS.aloadN X1.here hx rfl (hb hby d2_5) rfl rfl) ?_
  show own_G p e below Φ T1 (mkF m 6 #[.val (.ref a1), .val (.ref ar), .unset, .unset, .unset, .unset, .unset] [(.ref ar), (.ref a1)])
  obtain ⟨T2, h2, X2, e2, W2, st2⟩ := putF X1 hx hZ hown (host := "") (Or.inl (wd_15 hw)) Via.refl e1 F_m_aClasses_a1 E_a1 (Or.inr ⟨(wd_16 hw), rfl, hnm⟩) (wd_7 hw) (ty := (.array .int)) (by decide) rfl rfl (g := (mkF m 6 #[.val (.ref a1), .val (.ref ar), .unset, .unset, .unset, .unset, .unset] [(.ref ar), (.ref a1)])) rfl rfl (hb hby d2_6)
  refine own_go st2 ?_
  have N2 := Fr.snoc X2 N0 g_a1
  have K2 := K0.wr W2 (Or.inl (List.mem_of_getElem? (i := 0) rfl))
  have Zp2 : n0 ≤ h2.size := Nat.le_trans Z0 (Keep.of_wr W2).1
  have f2w := F_m_aClasses_a1.same W2
  show own_G p e below Φ T2 (mkF m 9 #[.val (.ref a1), .val (.ref ar), .unset, .unset, .unset, .unset, .unset] [])
  refine own_go (fun _ => XS.iconst X2.here hx rfl (hb hby d2_9)) ?_
  show own_G p e below Φ T2 (mkF m 10 #[.val (.ref a1), .val (.ref ar), .unset, .unset, .unset, .unset, .unset] [(.int (0 : Int32))])
  refine own_go (fun _ => XS.istoreN X2.here hx rfl (hb hby d2_10) rfl (l' := #[.val (.ref a1), .val (.ref ar), .val (.int (0 : Int32)), .unset, .unset, .unset, .unset]) rfl) ?_
  show own_G p e below Φ T2 (mkF m 11 #[.val (.ref a1), .val (.ref ar), .val (.int (0 : Int32)), .unset, .unset, .unset, .unset] [])
  refine own_go (fun _ => XS.aloadN X2.here hx rfl (hb hby d2_11) rfl rfl) ?_
  show own_G p e below Φ T2 (mkF m 12 #[.val (.ref a1), .val (.ref ar), .val (.int (0 : Int32)), .unset, .unset, .unset, .unset] [(.ref ar)])
  refine own_go (fun _ => XS.astoreN X2.here hx rfl (hb hby d2_12) rfl rfl (l' := #[.val (.ref a1), .val (.ref ar), .val (.int (0 : Int32)), .val (.ref ar), .unset, .unset, .unset]) rfl) ?_
  show own_G p e below Φ T2 (mkF m 13 #[.val (.ref a1), .val (.ref ar), .val (.int (0 : Int32)), .val (.ref ar), .unset, .unset, .unset] [])
  refine own_go (fun _ => XS.aloadN X2.here hx rfl (hb hby d2_13) rfl rfl) ?_
  show own_G p e below Φ T2 (mkF m 14 #[.val (.ref a1), .val (.ref ar), .val (.int (0 : Int32)), .val (.ref ar), .unset, .unset, .unset] [(.ref ar)])
  have f3 : Arv Z h2 ar ka .int (3 : Int32) [(.int v0), (.int v1), (.int v2)] (.int (0 : Int32)) := V_ar.other W2 ne_ar_a1
  obtain ⟨cl4, Ar4, q4, S4, M4, H4, G4⟩ := id f3
  refine own_go (fun _ => X2.arraylength hx (by rw [e2]; exact Ar4.1) (State.isArrayOf_alike hZ.alike Ar4.2.1) (g := (mkF m 14 #[.val (.ref a1), .val (.ref ar), .val (.int (0 : Int32)), .val (.ref ar), .unset, .unset, .unset] [(.ref ar)])) rfl rfl (hb hby d2_14) _) ?_
  rw [len_of S4 M4]
  show own_G p e below Φ T2 (mkF m 15 #[.val (.ref a1), .val (.ref ar), .val (.int (0 : Int32)), .val (.ref ar), .unset, .unset, .unset] [(.int (3 : Int32))])
  refine own_go (fun _ => XS.istore X2.here hx rfl (hb hby d2_15) rfl (l' := #[.val (.ref a1), .val (.ref ar), .val (.int (0 : Int32)), .val (.ref ar), .val (.int (3 : Int32)), .unset, .unset]) rfl) ?_
  show own_G p e below Φ T2 (mkF m 17 #[.val (.ref a1), .val (.ref ar), .val (.int (0 : Int32)), .val (.ref ar), .val (.int (3 : Int32)), .unset, .unset] [])
  refine own_go (fun _ => XS.iconst X2.here hx rfl (hb hby d2_17)) ?_
  show own_G p e below Φ T2 (mkF m 18 #[.val (.ref a1), .val (.ref ar), .val (.int (0 : Int32)), .val (.ref ar), .val (.int (3 : Int32)), .unset, .unset] [(.int (0 : Int32))])
  refine own_go (fun _ => XS.istore X2.here hx rfl (hb hby d2_18) rfl (l' := #[.val (.ref a1), .val (.ref ar), .val (.int (0 : Int32)), .val (.ref ar), .val (.int (3 : Int32)), .val (.int (0 : Int32)), .unset]) rfl) ?_
  show own_G p e below Φ T2 (mkF m 20 #[.val (.ref a1), .val (.ref ar), .val (.int (0 : Int32)), .val (.ref ar), .val (.int (3 : Int32)), .val (.int (0 : Int32)), .unset] [])
  refine own_go (fun _ => XS.iload X2.here hx rfl (hb hby d2_20) rfl) ?_
  show own_G p e below Φ T2 (mkF m 22 #[.val (.ref a1), .val (.ref ar), .val (.int (0 : Int32)), .val (.ref ar), .val (.int (3 : Int32)), .val (.int (0 : Int32)), .unset] [(.int (0 : Int32))])
  refine own_go (fun _ => XS.iload X2.here hx rfl (hb hby d2_22) rfl) ?_
  show own_G p e below Φ T2 (mkF m 24 #[.val (.ref a1), .val (.ref ar), .val (.int (0 : Int32)), .val (.ref ar), .val (.int (3 : Int32)), .val (.int (0 : Int32)), .unset] [(.int (3 : Int32)), (.int (0 : Int32))])
  refine own_go (fun _ => XS.icmpNo X2.here hx rfl (hb hby d2_24) rfl (Jvm.Free.XT.ii_ge_f (by decide : ((0 : Int32) < (3 : Int32))))) ?_
  show own_G p e below Φ T2 (mkF m 27 #[.val (.ref a1), .val (.ref ar), .val (.int (0 : Int32)), .val (.ref ar), .val (.int (3 : Int32)), .val (.int (0 : Int32)), .unset] [])
  refine own_go (fun _ => XS.aloadN X2.here hx rfl (hb hby d2_27) rfl rfl) ?_
  show own_G p e below Φ T2 (mkF m 28 #[.val (.ref a1), .val (.ref ar), .val (.int (0 : Int32)), .val (.ref ar), .val (.int (3 : Int32)), .val (.int (0 : Int32)), .unset] [(.ref ar)])
  refine own_go (fun _ => XS.iload X2.here hx rfl (hb hby d2_28) rfl) ?_
  show own_G p e below Φ T2 (mkF m 30 #[.val (.ref a1), .val (.ref ar), .val (.int (0 : Int32)), .val (.ref ar), .val (.int (3 : Int32)), .val (.int (0 : Int32)), .unset] [(.int (0 : Int32)), (.ref ar)])
  obtain ⟨cl5, Ar5, q5, S5, M5, H5, G5⟩ := id f3
  have hin5 : ¬ ((0 : Int32) < 0 ∨ cl5.slots.size ≤ ((0 : Int32)).toNatClampNeg) := inb_of S5 ⟨by decide, by decide⟩
  refine own_go (fun _ => X2.iaload hx (j := (0 : Int32)) (v := (.int v0)) (by rw [e2]; exact Ar5.1) (State.isArrayOf_alike hZ.alike Ar5.2.1) Ar5.2.2 hin5 (H5.at hin5 rfl) (g := (mkF m 30 #[.val (.ref a1), .val (.ref ar), .val (.int (0 : Int32)), .val (.ref ar), .val (.int (3 : Int32)), .val (.int (0 : Int32)), .unset] [(.int (0 : Int32)), (.ref ar)])) rfl rfl (hb hby d2_30) _) ?_
  show own_G p e below Φ T2 (mkF m 31 #[.val (.ref a1), .val (.ref ar), .val (.int (0 : Int32)), .val (.ref ar), .val (.int (3 : Int32)), .val (.int (0 : Int32)), .unset] [(.int v0)])
  refine own_go (fun _ => XS.istore X2.here hx rfl (hb hby d2_31) rfl (l' := #[.val (.ref a1), .val (.ref ar), .val (.int (0 : Int32)), .val (.ref ar), .val (.int (3 : Int32)), .val (.int (0 : Int32)), .val (.int v0)]) rfl) ?_
  show own_G p e below Φ T2 (mkF m 33 #[.val (.ref a1), .val (.ref ar), .val (.int (0 : Int32)), .val (.ref ar), .val (.int (3 : Int32)), .val (.int (0 : Int32)), .val (.int v0)] [])
  refine own_go (fun _ => XS.iloadN X2.here hx rfl (hb hby d2_33) rfl) ?_
  show own_G p e below Φ T2 (mkF m 34 #[.val (.ref a1), .val (.ref ar), .val (.int (0 : Int32)), .val (.ref ar), .val (.int (3 : Int32)), .val (.int (0 : Int32)), .val (.int v0)] [(.int (0 : Int32))])
  refine own_go (fun _ => XS.iload X2.here hx rfl (hb hby d2_34) rfl) ?_
  show own_G p e below Φ T2 (mkF m 36 #[.val (.ref a1), .val (.ref ar), .val (.int (0 : Int32)), .val (.ref ar), .val (.int (3 : Int32)), .val (.int (0 : Int32)), .val (.int v0)] [(.int v0), (.int (0 : Int32))])
  refine own_go (fun _ => XS.iconst X2.here hx rfl (hb hby d2_36)) ?_
  show own_G p e below Φ T2 (mkF m 37 #[.val (.ref a1), .val (.ref ar), .val (.int (0 : Int32)), .val (.ref ar), .val (.int (3 : Int32)), .val (.int (0 : Int32)), .val (.int v0)] [(.int (1 : Int32)), (.int v0), (.int (0 : Int32))])
  refine own_go (fun _ => XS.iadd X2.here hx rfl (hb hby d2_37) rfl) ?_
  show own_G p e below Φ T2 (mkF m 38 #[.val (.ref a1), .val (.ref ar), .val (.int (0 : Int32)), .val (.ref ar), .val (.int (3 : Int32)), .val (.int (0 : Int32)), .val (.int v0)] [(.int (v0 + (1 : Int32))), (.int (0 : Int32))])
  obtain ⟨_, _, ⟨T6, zL6, zk6, zn6⟩, -, X6, ⟨Lc6, hQ6, l6, y6, z6⟩, st6⟩ := Jvm.LawKit.callS X2 hx (y := (⟨"java/lang/Math", "max", "(II)I"⟩ : MethodName)) hown (mvT hZ (wd_28 hw)) (mvT hZ (wd_2 hw)) (mvT hZ (wd_3 hw)) (mvT hZ (wd_4 hw)) (by decide) (backOf (W := 0) (rmM l Z a0 hw [] (0 : Int32) (v0 + (1 : Int32)) h2 n0 Zp2 ) hZ (wd_4 hw) (wd_3 hw) (by decide) (by decide)) (g := (mkF m 38 #[.val (.ref a1), .val (.ref ar), .val (.int (0 : Int32)), .val (.ref ar), .val (.int (3 : Int32)), .val (.int (0 : Int32)), .val (.int v0)] [(.int (v0 + (1 : Int32))), (.int (0 : Int32))])) rfl (by rw [hml]; rfl) (argsL := [(.int (0 : Int32)), (.int (v0 + (1 : Int32)))]) (rest := []) (lenOf pd_0 rfl) rfl (by show 2 * 0 + _ ≤ _; exact Nat.le_of_eq rfl) (hb hby d2_38) (fun _ _ => ⟨rfl, e2, (by decide : 0 + 0 ≤ _), (by decide : 0 + 0 ≤ _)⟩)
  dsimp only [Pt.U, Pt.locs, Pt.cells, Pt.slots] at X6 l6 y6 z6 st6 hQ6
  subst l6 y6 z6
  obtain ⟨rfl, N6q, hs6⟩ := hQ6
  have N6 := Fr.app N2 N6q
  refine own_go st6 ?_
  show own_G p e below Φ T6 (mkF m 41 #[.val (.ref a1), .val (.ref ar), .val (.int (0 : Int32)), .val (.ref ar), .val (.int (3 : Int32)), .val (.int (0 : Int32)), .val (.int v0)] [(.int (own_max (0 : Int32) (v0 + (1 : Int32))))])
  refine own_go (fun _ => XS.istoreN X6.here hx rfl (hb hby d2_41) rfl (l' := #[.val (.ref a1), .val (.ref ar), .val (.int (own_max (0 : Int32) (v0 + (1 : Int32)))), .val (.ref ar), .val (.int (3 : Int32)), .val (.int (0 : Int32)), .val (.int v0)]) rfl) ?_
  show own_G p e below Φ T6 (mkF m 42 #[.val (.ref a1), .val (.ref ar), .val (.int (own_max (0 : Int32) (v0 + (1 : Int32)))), .val (.ref ar), .val (.int (3 : Int32)), .val (.int (0 : Int32)), .val (.int v0)] [])
  refine own_go (fun _ => XS.iinc X6.here hx rfl (hb hby d2_42) rfl (l' := #[.val (.ref a1), .val (.ref ar), .val (.int (own_max (0 : Int32) (v0 + (1 : Int32)))), .val (.ref ar), .val (.int (3 : Int32)), .val (.int (1 : Int32)), .val (.int v0)]) rfl) ?_
  show own_G p e below Φ T6 (mkF m 45 #[.val (.ref a1), .val (.ref ar), .val (.int (own_max (0 : Int32) (v0 + (1 : Int32)))), .val (.ref ar), .val (.int (3 : Int32)), .val (.int (1 : Int32)), .val (.int v0)] [])
  refine own_go (fun _ => XS.goto X6.here hx rfl (pc0 := 45) (pc' := 20) rfl (hb hby d2_45) (by decide) (by decide)) ?_
  show own_G p e below Φ T6 (mkF m 20 #[.val (.ref a1), .val (.ref ar), .val (.int (own_max (0 : Int32) (v0 + (1 : Int32)))), .val (.ref ar), .val (.int (3 : Int32)), .val (.int (1 : Int32)), .val (.int v0)] [])
  refine own_go (fun _ => XS.iload X6.here hx rfl (hb hby d2_20) rfl) ?_
  show own_G p e below Φ T6 (mkF m 22 #[.val (.ref a1), .val (.ref ar), .val (.int (own_max (0 : Int32) (v0 + (1 : Int32)))), .val (.ref ar), .val (.int (3 : Int32)), .val (.int (1 : Int32)), .val (.int v0)] [(.int (1 : Int32))])
  refine own_go (fun _ => XS.iload X6.here hx rfl (hb hby d2_22) rfl) ?_
  show own_G p e below Φ T6 (mkF m 24 #[.val (.ref a1), .val (.ref ar), .val (.int (own_max (0 : Int32) (v0 + (1 : Int32)))), .val (.ref ar), .val (.int (3 : Int32)), .val (.int (1 : Int32)), .val (.int v0)] [(.int (3 : Int32)), (.int (1 : Int32))])
  refine own_go (fun _ => XS.icmpNo X6.here hx rfl (hb hby d2_24) rfl (Jvm.Free.XT.ii_ge_f (by decide : ((1 : Int32) < (3 : Int32))))) ?_
  show own_G p e below Φ T6 (mkF m 27 #[.val (.ref a1), .val (.ref ar), .val (.int (own_max (0 : Int32) (v0 + (1 : Int32)))), .val (.ref ar), .val (.int (3 : Int32)), .val (.int (1 : Int32)), .val (.int v0)] [])
  refine own_go (fun _ => XS.aloadN X6.here hx rfl (hb hby d2_27) rfl rfl) ?_
  show own_G p e below Φ T6 (mkF m 28 #[.val (.ref a1), .val (.ref ar), .val (.int (own_max (0 : Int32) (v0 + (1 : Int32)))), .val (.ref ar), .val (.int (3 : Int32)), .val (.int (1 : Int32)), .val (.int v0)] [(.ref ar)])
  refine own_go (fun _ => XS.iload X6.here hx rfl (hb hby d2_28) rfl) ?_
  show own_G p e below Φ T6 (mkF m 30 #[.val (.ref a1), .val (.ref ar), .val (.int (own_max (0 : Int32) (v0 + (1 : Int32)))), .val (.ref ar), .val (.int (3 : Int32)), .val (.int (1 : Int32)), .val (.int v0)] [(.int (1 : Int32)), (.ref ar)])
  obtain ⟨cl7, Ar7, q7, S7, M7, H7, G7⟩ := id f3
  have hin7 : ¬ ((1 : Int32) < 0 ∨ cl7.slots.size ≤ ((1 : Int32)).toNatClampNeg) := inb_of S7 ⟨by decide, by decide⟩
  refine own_go (fun _ => X6.iaload hx (j := (1 : Int32)) (v := (.int v1)) (by rw [hs6]; exact Ar7.1) (State.isArrayOf_alike hZ.alike Ar7.2.1) Ar7.2.2 hin7 (H7.at hin7 rfl) (g := (mkF m 30 #[.val (.ref a1), .val (.ref ar), .val (.int (own_max (0 : Int32) (v0 + (1 : Int32)))), .val (.ref ar), .val (.int (3 : Int32)), .val (.int (1 : Int32)), .val (.int v0)] [(.int (1 : Int32)), (.ref ar)])) rfl rfl (hb hby d2_30) _) ?_
  show own_G p e below Φ T6 (mkF m 31 #[.val (.ref a1), .val (.ref ar), .val (.int (own_max (0 : Int32) (v0 + (1 : Int32)))), .val (.ref ar), .val (.int (3 : Int32)), .val (.int (1 : Int32)), .val (.int v0)] [(.int v1)])
  refine own_go (fun _ => XS.istore X6.here hx rfl (hb hby d2_31) rfl (l' := #[.val (.ref a1), .val (.ref ar), .val (.int (own_max (0 : Int32) (v0 + (1 : Int32)))), .val (.ref ar), .val (.int (3 : Int32)), .val (.int (1 : Int32)), .val (.int v1)]) rfl) ?_
  show own_G p e below Φ T6 (mkF m 33 #[.val (.ref a1), .val (.ref ar), .val (.int (own_max (0 : Int32) (v0 + (1 : Int32)))), .val (.ref ar), .val (.int (3 : Int32)), .val (.int (1 : Int32)), .val (.int v1)] [])
  refine own_go (fun _ => XS.iloadN X6.here hx rfl (hb hby d2_33) rfl) ?_
  show own_G p e below Φ T6 (mkF m 34 #[.val (.ref a1), .val (.ref ar), .val (.int (own_max (0 : Int32) (v0 + (1 : Int32)))), .val (.ref ar), .val (.int (3 : Int32)), .val (.int (1 : Int32)), .val (.int v1)] [(.int (own_max (0 : Int32) (v0 + (1 : Int32))))])
  refine own_go (fun _ => XS.iload X6.here hx rfl (hb hby d2_34) rfl) ?_
  show own_G p e below Φ T6 (mkF m 36 #[.val (.ref a1), .val (.ref ar), .val (.int (own_max (0 : Int32) (v0 + (1 : Int32)))), .val (.ref ar), .val (.int (3 : Int32)), .val (.int (1 : Int32)), .val (.int v1)] [(.int v1), (.int (own_max (0 : Int32) (v0 + (1 : Int32))))])
  refine own_go (fun _ => XS.iconst X6.here hx rfl (hb hby d2_36)) ?_
  show own_G p e below Φ T6 (mkF m 37 #[.val (.ref a1), .val (.ref ar), .val (.int (own_max (0 : Int32) (v0 + (1 : Int32)))), .val (.ref ar), .val (.int (3 : Int32)), .val (.int (1 : Int32)), .val (.int v1)] [(.int (1 : Int32)), (.int v1), (.int (own_max (0 : Int32) (v0 + (1 : Int32))))])
  refine own_go (fun _ => XS.iadd X6.here hx rfl (hb hby d2_37) rfl) ?_
  show own_G p e below Φ T6 (mkF m 38 #[.val (.ref a1), .val (.ref ar), .val (.int (own_max (0 : Int32) (v0 + (1 : Int32)))), .val (.ref ar), .val (.int (3 : Int32)), .val (.int (1 : Int32)), .val (.int v1)] [(.int (v1 + (1 : Int32))), (.int (own_max (0 : Int32) (v0 + (1 : Int32))))])
  obtain ⟨_, _, ⟨T8, zL8, zk8, zn8⟩, -, X8, ⟨Lc8, hQ8, l8, y8, z8⟩, st8⟩ := Jvm.LawKit.callS X6 hx (y := (⟨"java/lang/Math", "max", "(II)I"⟩ : MethodName)) hown (mvT hZ (wd_28 hw)) (mvT hZ (wd_2 hw)) (mvT hZ (wd_3 hw)) (mvT hZ (wd_4 hw)) (by decide) (backOf (W := 0) (rmM l Z a0 hw [] (own_max (0 : Int32) (v0 + (1 : Int32))) (v1 + (1 : Int32)) h2 n0 Zp2 ) hZ (wd_4 hw) (wd_3 hw) (by decide) (by decide)) (g := (mkF m 38 #[.val (.ref a1), .val (.ref ar), .val (.int (own_max (0 : Int32) (v0 + (1 : Int32)))), .val (.ref ar), .val (.int (3 : Int32)), .val (.int (1 : Int32)), .val (.int v1)] [(.int (v1 + (1 : Int32))), (.int (own_max (0 : Int32) (v0 + (1 : Int32))))])) rfl (by rw [hml]; rfl) (argsL := [(.int (own_max (0 : Int32) (v0 + (1 : Int32)))), (.int (v1 + (1 : Int32)))]) (rest := []) (lenOf pd_0 rfl) rfl (by show 2 * 0 + _ ≤ _; exact Nat.le_of_eq rfl) (hb hby d2_38) (fun _ _ => ⟨rfl, hs6, (by decide : 0 + 0 ≤ _), (by decide : 0 + 0 ≤ _)⟩)
  dsimp only [Pt.U, Pt.locs, Pt.cells, Pt.slots] at X8 l8 y8 z8 st8 hQ8
  subst l8 y8 z8
  obtain ⟨rfl, N8q, hs8⟩ := hQ8
  have N8 := Fr.app N6 N8q
  refine own_go st8 ?_
  show own_G p e below Φ T8 (mkF m 41 #[.val (.ref a1), .val (.ref ar), .val (.int (own_max (0 : Int32) (v0 + (1 : Int32)))), .val (.ref ar), .val (.int (3 : Int32)), .val (.int (1 : Int32)), .val (.int v1)] [(.int (own_max (own_max (0 : Int32) (v0 + (1 : Int32))) (v1 + (1 : Int32))))])
  refine own_go (fun _ => XS.istoreN X8.here hx rfl (hb hby d2_41) rfl (l' := #[.val (.ref a1), .val (.ref ar), .val (.int (own_max (own_max (0 : Int32) (v0 + (1 : Int32))) (v1 + (1 : Int32)))), .val (.ref ar), .val (.int (3 : Int32)), .val (.int (1 : Int32)), .val (.int v1)]) rfl) ?_
  show own_G p e below Φ T8 (mkF m 42 #[.val (.ref a1), .val (.ref ar), .val (.int (own_max (own_max (0 : Int32) (v0 + (1 : Int32))) (v1 + (1 : Int32)))), .val (.ref ar), .val (.int (3 : Int32)), .val (.int (1 : Int32)), .val (.int v1)] [])
  refine own_go (fun _ => XS.iinc X8.here hx rfl (hb hby d2_42) rfl (l' := #[.val (.ref a1), .val (.ref ar), .val (.int (own_max (own_max (0 : Int32) (v0 + (1 : Int32))) (v1 + (1 : Int32)))), .val (.ref ar), .val (.int (3 : Int32)), .val (.int (2 : Int32)), .val (.int v1)]) rfl) ?_
  show own_G p e below Φ T8 (mkF m 45 #[.val (.ref a1), .val (.ref ar), .val (.int (own_max (own_max (0 : Int32) (v0 + (1 : Int32))) (v1 + (1 : Int32)))), .val (.ref ar), .val (.int (3 : Int32)), .val (.int (2 : Int32)), .val (.int v1)] [])
  refine own_go (fun _ => XS.goto X8.here hx rfl (pc0 := 45) (pc' := 20) rfl (hb hby d2_45) (by decide) (by decide)) ?_
  show own_G p e below Φ T8 (mkF m 20 #[.val (.ref a1), .val (.ref ar), .val (.int (own_max (own_max (0 : Int32) (v0 + (1 : Int32))) (v1 + (1 : Int32)))), .val (.ref ar), .val (.int (3 : Int32)), .val (.int (2 : Int32)), .val (.int v1)] [])
  refine own_go (fun _ => XS.iload X8.here hx rfl (hb hby d2_20) rfl) ?_
  show own_G p e below Φ T8 (mkF m 22 #[.val (.ref a1), .val (.ref ar), .val (.int (own_max (own_max (0 : Int32) (v0 + (1 : Int32))) (v1 + (1 : Int32)))), .val (.ref ar), .val (.int (3 : Int32)), .val (.int (2 : Int32)), .val (.int v1)] [(.int (2 : Int32))])
  refine own_go (fun _ => XS.iload X8.here hx rfl (hb hby d2_22) rfl) ?_
  show own_G p e below Φ T8 (mkF m 24 #[.val (.ref a1), .val (.ref ar), .val (.int (own_max (own_max (0 : Int32) (v0 + (1 : Int32))) (v1 + (1 : Int32)))), .val (.ref ar), .val (.int (3 : Int32)), .val (.int (2 : Int32)), .val (.int v1)] [(.int (3 : Int32)), (.int (2 : Int32))])
  refine own_go (fun _ => XS.icmpNo X8.here hx rfl (hb hby d2_24) rfl (Jvm.Free.XT.ii_ge_f (by decide : ((2 : Int32) < (3 : Int32))))) ?_
  show own_G p e below Φ T8 (mkF m 27 #[.val (.ref a1), .val (.ref ar), .val (.int (own_max (own_max (0 : Int32) (v0 + (1 : Int32))) (v1 + (1 : Int32)))), .val (.ref ar), .val (.int (3 : Int32)), .val (.int (2 : Int32)), .val (.int v1)] [])
  refine own_go (fun _ => XS.aloadN X8.here hx rfl (hb hby d2_27) rfl rfl) ?_
  show own_G p e below Φ T8 (mkF m 28 #[.val (.ref a1), .val (.ref ar), .val (.int (own_max (own_max (0 : Int32) (v0 + (1 : Int32))) (v1 + (1 : Int32)))), .val (.ref ar), .val (.int (3 : Int32)), .val (.int (2 : Int32)), .val (.int v1)] [(.ref ar)])
  refine own_go (fun _ => XS.iload X8.here hx rfl (hb hby d2_28) rfl) ?_
  show own_G p e below Φ T8 (mkF m 30 #[.val (.ref a1), .val (.ref ar), .val (.int (own_max (own_max (0 : Int32) (v0 + (1 : Int32))) (v1 + (1 : Int32)))), .val (.ref ar), .val (.int (3 : Int32)), .val (.int (2 : Int32)), .val (.int v1)] [(.int (2 : Int32)), (.ref ar)])
  obtain ⟨cl9, Ar9, q9, S9, M9, H9, G9⟩ := id f3
  have hin9 : ¬ ((2 : Int32) < 0 ∨ cl9.slots.size ≤ ((2 : Int32)).toNatClampNeg) := inb_of S9 ⟨by decide, by decide⟩
  refine own_go (fun _ => X8.iaload hx (j := (2 : Int32)) (v := (.int v2)) (by rw [hs8]; exact Ar9.1) (State.isArrayOf_alike hZ.alike Ar9.2.1) Ar9.2.2 hin9 (H9.at hin9 rfl) (g := (mkF m 30 #[.val (.ref a1), .val (.ref ar), .val (.int (own_max (own_max (0 : Int32) (v0 + (1 : Int32))) (v1 + (1 : Int32)))), .val (.ref ar), .val (.int (3 : Int32)), .val (.int (2 : Int32)), .val (.int v1)] [(.int (2 : Int32)), (.ref ar)])) rfl rfl (hb hby d2_30) _) ?_
  show own_G p e below Φ T8 (mkF m 31 #[.val (.ref a1), .val (.ref ar), .val (.int (own_max (own_max (0 : Int32) (v0 + (1 : Int32))) (v1 + (1 : Int32)))), .val (.ref ar), .val (.int (3 : Int32)), .val (.int (2 : Int32)), .val (.int v1)] [(.int v2)])
  refine own_go (fun _ => XS.istore X8.here hx rfl (hb hby d2_31) rfl (l' := #[.val (.ref a1), .val (.ref ar), .val (.int (own_max (own_max (0 : Int32) (v0 + (1 : Int32))) (v1 + (1 : Int32)))), .val (.ref ar), .val (.int (3 : Int32)), .val (.int (2 : Int32)), .val (.int v2)]) rfl) ?_
  show own_G p e below Φ T8 (mkF m 33 #[.val (.ref a1), .val (.ref ar), .val (.int (own_max (own_max (0 : Int32) (v0 + (1 : Int32))) (v1 + (1 : Int32)))), .val (.ref ar), .val (.int (3 : Int32)), .val (.int (2 : Int32)), .val (.int v2)] [])
  refine own_go (fun _ => XS.iloadN X8.here hx rfl (hb hby d2_33) rfl) ?_
  show own_G p e below Φ T8 (mkF m 34 #[.val (.ref a1), .val (.ref ar), .val (.int (own_max (own_max (0 : Int32) (v0 + (1 : Int32))) (v1 + (1 : Int32)))), .val (.ref ar), .val (.int (3 : Int32)), .val (.int (2 : Int32)), .val (.int v2)] [(.int (own_max (own_max (0 : Int32) (v0 + (1 : Int32))) (v1 + (1 : Int32))))])
  refine own_go (fun _ => XS.iload X8.here hx rfl (hb hby d2_34) rfl) ?_
  show own_G p e below Φ T8 (mkF m 36 #[.val (.ref a1), .val (.ref ar), .val (.int (own_max (own_max (0 : Int32) (v0 + (1 : Int32))) (v1 + (1 : Int32)))), .val (.ref ar), .val (.int (3 : Int32)), .val (.int (2 : Int32)), .val (.int v2)] [(.int v2), (.int (own_max (own_max (0 : Int32) (v0 + (1 : Int32))) (v1 + (1 : Int32))))])
  refine own_go (fun _ => XS.iconst X8.here hx rfl (hb hby d2_36)) ?_
  show own_G p e below Φ T8 (mkF m 37 #[.val (.ref a1), .val (.ref ar), .val (.int (own_max (own_max (0 : Int32) (v0 + (1 : Int32))) (v1 + (1 : Int32)))), .val (.ref ar), .val (.int (3 : Int32)), .val (.int (2 : Int32)), .val (.int v2)] [(.int (1 : Int32)), (.int v2), (.int (own_max (own_max (0 : Int32) (v0 + (1 : Int32))) (v1 + (1 : Int32))))])
  refine own_go (fun _ => XS.iadd X8.here hx rfl (hb hby d2_37) rfl) ?_
  show own_G p e below Φ T8 (mkF m 38 #[.val (.ref a1), .val (.ref ar), .val (.int (own_max (own_max (0 : Int32) (v0 + (1 : Int32))) (v1 + (1 : Int32)))), .val (.ref ar), .val (.int (3 : Int32)), .val (.int (2 : Int32)), .val (.int v2)] [(.int (v2 + (1 : Int32))), (.int (own_max (own_max (0 : Int32) (v0 + (1 : Int32))) (v1 + (1 : Int32))))])
  obtain ⟨_, _, ⟨T10, zL10, zk10, zn10⟩, -, X10, ⟨Lc10, hQ10, l10, y10, z10⟩, st10⟩ := Jvm.LawKit.callS X8 hx (y := (⟨"java/lang/Math", "max", "(II)I"⟩ : MethodName)) hown (mvT hZ (wd_28 hw)) (mvT hZ (wd_2 hw)) (mvT hZ (wd_3 hw)) (mvT hZ (wd_4 hw)) (by decide) (backOf (W := 0) (rmM l Z a0 hw [] (own_max (own_max (0 : Int32) (v0 + (1 : Int32))) (v1 + (1 : Int32))) (v2 + (1 : Int32)) h2 n0 Zp2 ) hZ (wd_4 hw) (wd_3 hw) (by decide) (by decide)) (g := (mkF m 38 #[.val (.ref a1), .val (.ref ar), .val (.int (own_max (own_max (0 : Int32) (v0 + (1 : Int32))) (v1 + (1 : Int32)))), .val (.ref ar), .val (.int (3 : Int32)), .val (.int (2 : Int32)), .val (.int v2)] [(.int (v2 + (1 : Int32))), (.int (own_max (own_max (0 : Int32) (v0 + (1 : Int32))) (v1 + (1 : Int32))))])) rfl (by rw [hml]; rfl) (argsL := [(.int (own_max (own_max (0 : Int32) (v0 + (1 : Int32))) (v1 + (1 : Int32)))), (.int (v2 + (1 : Int32)))]) (rest := []) (lenOf pd_0 rfl) rfl (by show 2 * 0 + _ ≤ _; exact Nat.le_of_eq rfl) (hb hby d2_38) (fun _ _ => ⟨rfl, hs8, (by decide : 0 + 0 ≤ _), (by decide : 0 + 0 ≤ _)⟩)
  dsimp only [Pt.U, Pt.locs, Pt.cells, Pt.slots] at X10 l10 y10 z10 st10 hQ10
  subst l10 y10 z10
  obtain ⟨rfl, N10q, hs10⟩ := hQ10
  have N10 := Fr.app N8 N10q
  refine own_go st10 ?_
  show own_G p e below Φ T10 (mkF m 41 #[.val (.ref a1), .val (.ref ar), .val (.int (own_max (own_max (0 : Int32) (v0 + (1 : Int32))) (v1 + (1 : Int32)))), .val (.ref ar), .val (.int (3 : Int32)), .val (.int (2 : Int32)), .val (.int v2)] [(.int (own_max (own_max (own_max (0 : Int32) (v0 + (1 : Int32))) (v1 + (1 : Int32))) (v2 + (1 : Int32))))])
  refine own_go (fun _ => XS.istoreN X10.here hx rfl (hb hby d2_41) rfl (l' := #[.val (.ref a1), .val (.ref ar), .val (.int (own_max (own_max (own_max (0 : Int32) (v0 + (1 : Int32))) (v1 + (1 : Int32))) (v2 + (1 : Int32)))), .val (.ref ar), .val (.int (3 : Int32)), .val (.int (2 : Int32)), .val (.int v2)]) rfl) ?_
  show own_G p e below Φ T10 (mkF m 42 #[.val (.ref a1), .val (.ref ar), .val (.int (own_max (own_max (own_max (0 : Int32) (v0 + (1 : Int32))) (v1 + (1 : Int32))) (v2 + (1 : Int32)))), .val (.ref ar), .val (.int (3 : Int32)), .val (.int (2 : Int32)), .val (.int v2)] [])
  refine own_go (fun _ => XS.iinc X10.here hx rfl (hb hby d2_42) rfl (l' := #[.val (.ref a1), .val (.ref ar), .val (.int (own_max (own_max (own_max (0 : Int32) (v0 + (1 : Int32))) (v1 + (1 : Int32))) (v2 + (1 : Int32)))), .val (.ref ar), .val (.int (3 : Int32)), .val (.int (3 : Int32)), .val (.int v2)]) rfl) ?_
  show own_G p e below Φ T10 (mkF m 45 #[.val (.ref a1), .val (.ref ar), .val (.int (own_max (own_max (own_max (0 : Int32) (v0 + (1 : Int32))) (v1 + (1 : Int32))) (v2 + (1 : Int32)))), .val (.ref ar), .val (.int (3 : Int32)), .val (.int (3 : Int32)), .val (.int v2)] [])
  refine own_go (fun _ => XS.goto X10.here hx rfl (pc0 := 45) (pc' := 20) rfl (hb hby d2_45) (by decide) (by decide)) ?_
  show own_G p e below Φ T10 (mkF m 20 #[.val (.ref a1), .val (.ref ar), .val (.int (own_max (own_max (own_max (0 : Int32) (v0 + (1 : Int32))) (v1 + (1 : Int32))) (v2 + (1 : Int32)))), .val (.ref ar), .val (.int (3 : Int32)), .val (.int (3 : Int32)), .val (.int v2)] [])
  refine own_go (fun _ => XS.iload X10.here hx rfl (hb hby d2_20) rfl) ?_
  show own_G p e below Φ T10 (mkF m 22 #[.val (.ref a1), .val (.ref ar), .val (.int (own_max (own_max (own_max (0 : Int32) (v0 + (1 : Int32))) (v1 + (1 : Int32))) (v2 + (1 : Int32)))), .val (.ref ar), .val (.int (3 : Int32)), .val (.int (3 : Int32)), .val (.int v2)] [(.int (3 : Int32))])
  refine own_go (fun _ => XS.iload X10.here hx rfl (hb hby d2_22) rfl) ?_
  show own_G p e below Φ T10 (mkF m 24 #[.val (.ref a1), .val (.ref ar), .val (.int (own_max (own_max (own_max (0 : Int32) (v0 + (1 : Int32))) (v1 + (1 : Int32))) (v2 + (1 : Int32)))), .val (.ref ar), .val (.int (3 : Int32)), .val (.int (3 : Int32)), .val (.int v2)] [(.int (3 : Int32)), (.int (3 : Int32))])
  refine own_go (fun _ => XS.icmpYes X10.here hx rfl (pc0 := 24) (pc' := 48) rfl (hb hby d2_24) rfl (Jvm.Free.XT.ii_ge_t (by decide : ¬ ((3 : Int32) < (3 : Int32)))) (by decide) (by decide)) ?_
  show own_G p e below Φ T10 (mkF m 48 #[.val (.ref a1), .val (.ref ar), .val (.int (own_max (own_max (own_max (0 : Int32) (v0 + (1 : Int32))) (v1 + (1 : Int32))) (v2 + (1 : Int32)))), .val (.ref ar), .val (.int (3 : Int32)), .val (.int (3 : Int32)), .val (.int v2)] [])
  refine own_go (fun _ => XS.aloadN X10.here hx rfl (hb hby d2_48) rfl rfl) ?_
  show own_G p e below Φ T10 (mkF m 49 #[.val (.ref a1), .val (.ref ar), .val (.int (own_max (own_max (own_max (0 : Int32) (v0 + (1 : Int32))) (v1 + (1 : Int32))) (v2 + (1 : Int32)))), .val (.ref ar), .val (.int (3 : Int32)), .val (.int (3 : Int32)), .val (.int v2)] [(.ref a1)])
  refine own_go (fun _ => XS.iloadN X10.here hx rfl (hb hby d2_49) rfl) ?_
  show own_G p e below Φ T10 (mkF m 50 #[.val (.ref a1), .val (.ref ar), .val (.int (own_max (own_max (own_max (0 : Int32) (v0 + (1 : Int32))) (v1 + (1 : Int32))) (v2 + (1 : Int32)))), .val (.ref ar), .val (.int (3 : Int32)), .val (.int (3 : Int32)), .val (.int v2)] [(.int (own_max (own_max (own_max (0 : Int32) (v0 + (1 : Int32))) (v1 + (1 : Int32))) (v2 + (1 : Int32)))), (.ref a1)])
  have f11 : Exa Z h2 a1 "com/example/edgewarden/edgewarden/graph/Likeness" := E_a1.wr W2
  have f12 : Fld Z h2 a1 "com/example/edgewarden/edgewarden/graph/Likeness" "m_nClassCount" "I" u1 := F_m_nClassCount_a1.other W2 (Or.inr (sl_0 hw))
  obtain ⟨T13, h13, X13, e13, W13, st13⟩ := putF X10 hx hZ hown (host := "") (Or.inl (wd_17 hw)) Via.refl hs10 f12 f11 (Or.inr ⟨(wd_18 hw), rfl, hnm⟩) (wd_7 hw) (ty := .int) (by decide) rfl rfl (g := (mkF m 50 #[.val (.ref a1), .val (.ref ar), .val (.int (own_max (own_max (own_max (0 : Int32) (v0 + (1 : Int32))) (v1 + (1 : Int32))) (v2 + (1 : Int32)))), .val (.ref ar), .val (.int (3 : Int32)), .val (.int (3 : Int32)), .val (.int v2)] [(.int (own_max (own_max (own_max (0 : Int32) (v0 + (1 : Int32))) (v1 + (1 : Int32))) (v2 + (1 : Int32)))), (.ref a1)])) rfl rfl (hb hby d2_50)
  refine own_go st13 ?_
  have N13 := Fr.snoc X13 N10 g_a1
  have K13 := K2.wr W13 (Or.inl (List.mem_of_getElem? (i := 0) rfl))
  have Zp13 : n0 ≤ h13.size := Nat.le_trans Zp2 (Keep.of_wr W13).1
  have f13w := f12.same W13
  show own_G p e below Φ T13 (mkF m 53 #[.val (.ref a1), .val (.ref ar), .val (.int (own_max (own_max (own_max (0 : Int32) (v0 + (1 : Int32))) (v1 + (1 : Int32))) (v2 + (1 : Int32)))), .val (.ref ar), .val (.int (3 : Int32)), .val (.int (3 : Int32)), .val (.int v2)] [])
  have f14 : Exa Z h13 a1 "com/example/edgewarden/edgewarden/graph/Likeness" := f11.wr W13
  have f15 : Fld Z h13 a1 "com/example/edgewarden/edgewarden/graph/Likeness" "m_aClasses" "[I" (.ref ar) := f2w.other W13 (Or.inr (sl_1 hw))
  rw [hΦ]
  refine own_ret X13 (v := none) (fun _ => rfl) (BodyLoose.notSynchronized Bd) (fun fs hr => X13.returnOut hx Bd.returns (hb hby d2_53) hr) ?_ (by decide) (by decide)
  rw [e13]
  exact ⟨rfl, N13, K13, f14, f15, f13w⟩
theorem ef_rmI4 (m : MethodId) (a1 : Addr) (ar : Addr) : entryFrame m #[(.ref a1), (.ref ar)] 7 = mkF m 0 #[.val (.ref a1), .val (.ref ar), .unset, .unset, .unset, .unset, .unset] [] := by first | (simp [entryFrame, mkF, argsToLocals, Value.category]; done) | rfl
def Q_rmI4 (Z : State) (a1 : Addr) (ar : Addr) (ka : ClassId) (v0 : Int32) (v1 : Int32) (v2 : Int32) (v3 : Int32) (u0 : Value) (u1 : Value) (h0 : Heap) (n0 : Nat) (v : Option Value) (h : Heap) (L : List Loc) : Prop := v = none ∧ Fr n0 L ∧ Keep h0 h [a1] ∧ Exa Z h a1 "com/example/edgewarden/edgewarden/graph/Likeness" ∧ Fld Z h a1 "com/example/edgewarden/edgewarden/graph/Likeness" "m_aClasses" "[I" (.ref ar) ∧ Fld Z h a1 "com/example/edgewarden/edgewarden/graph/Likeness" "m_nClassCount" "I" (.int (own_max (own_max (own_max (own_max (0 : Int32) (v0 + (1 : Int32))) (v1 + (1 : Int32))) (v2 + (1 : Int32))) (v3 + (1 : Int32))))
set_option maxRecDepth 65536 in
set_option maxHeartbeats 40000000 in
theorem rmI4 (l : Launch) (Z : State) (a0 : Array Value) (hw : ∀ d ∈ tables_1, d.before a0 Z = true) (ws : List Jvm.Cond) (a1 : Addr) (ar : Addr) (ka : ClassId) (v0 : Int32) (v1 : Int32) (v2 : Int32) (v3 : Int32) (u0 : Value) (u1 : Value) (h0 : Heap) (n0 : Nat) (Z0 : n0 ≤ h0.size) (E_a1 : Exa Z h0 a1 "com/example/edgewarden/edgewarden/graph/Likeness") (F_m_aClasses_a1 : Fld Z h0 a1 "com/example/edgewarden/edgewarden/graph/Likeness" "m_aClasses" "[I" u0) (F_m_nClassCount_a1 : Fld Z h0 a1 "com/example/edgewarden/edgewarden/graph/Likeness" "m_nClassCount" "I" u1) (g_a1 : n0 ≤ a1) (V_ar : Arv Z h0 ar ka .int (4 : Int32) [(.int v0), (.int v1), (.int v2), (.int v3)] (.int (0 : Int32))) (ne_ar_a1 : ar ≠ a1) :
    MetFree l (⟨"com/example/edgewarden/edgewarden/graph/Likeness", "<init>", "([I)V"⟩ : MethodName) (head1 (Jvm.Cond.code (⟨"com/example/edgewarden/edgewarden/graph/Likeness", "<init>", "([I)V"⟩ : MethodName) prog_57_method_3_code 7 none :: ws) ({ frames := 1, cells := 0, slots := 0, locals := 13 } : Room)) (fun a U => a = #[(.ref a1), (.ref ar)] ∧ Z.Warmed39 U.vm ∧ U.heap = h0) (fun _ _ _ _ _ => True) (fun _ U o U' => ∃ v L, o = .returned v ∧ Q_rmI4 Z a1 ar ka v0 v1 v2 v3 u0 u1 h0 n0 v U'.heap L ∧ FrameEnd U o U' L ({ frames := 1, cells := 0, slots := 0, locals := 13 } : Room).cells ({ frames := 1, cells := 0, slots := 0, locals := 13 } : Room).slots) := by
  refine MetFree.of_bodySF (plainFor_of_name pn_0) hisR ?_
  intro p e s m args below meth c s₁ Bd hml0 hP hK
  obtain ⟨rfl, hZ, hh⟩ := hP
  have hx := Bd.exec
  have hby := Bd.bytes
  have hml : c.maxLocals = 7 := hml0
  have hown : s.vm.findClass "com/example/edgewarden/edgewarden/graph/Likeness" = some m.cls := findClass_of_methodNamed Bd.named
  have hnm := (name_of_methodNamed Bd.named Bd.method).1
  have X0 : Stand p l e ({ frames := 1, cells := 0, slots := 0, locals := 13 } : Room) s m #[(.ref a1), (.ref ar)] below meth c s₁ [] 0 0 := Stand.of_body Bd
  have e0 : s₁.heap = h0 := by rw [← hh, Bd.state]; rfl
  have N0 := Fr.nil n0
  have K0 : Keep h0 h0 [a1] := Keep.refl _ _
  suffices G0 : own_G p e below (own_E s below (Q_rmI4 Z a1 ar ka v0 v1 v2 v3 u0 u1 h0 n0) ({ frames := 1, cells := 0, slots := 0, locals := 13 } : Room).cells ({ frames := 1, cells := 0, slots := 0, locals := 13 } : Room).slots) s₁ (mkF m 0 #[.val (.ref a1), .val (.ref ar), .unset, .unset, .unset, .unset, .unset] []) by
    obtain ⟨zt, zst, zo, zq1, zq2, zq3⟩ := G0
    exact ⟨zt, zo, castTop (ef_rmI4 m a1 ar) zst, zq1, zq2, zq3⟩
  obtain ⟨Φ, hΦ⟩ : ∃ Φ, Φ = own_E s below (Q_rmI4 Z a1 ar ka v0 v1 v2 v3 u0 u1 h0 n0) ({ frames := 1, cells := 0, slots := 0, locals := 13 } : Room).cells ({ frames := 1, cells := 0, slots := 0, locals := 13 } : Room).slots := ⟨_, rfl⟩
  rw [← hΦ]
  show own_G p e below Φ s₁ (mkF m 0 #[.val (.ref a1), .val (.ref ar), .unset, .unset, .unset, .unset, .unset] [])
  refine own_go (fun _ => XS.aloadN X0.here hx rfl (hb hby d2_0) rfl rfl) ?_
  show own_G p e below Φ s₁ (mkF m 1 #[.val (.ref a1), .val (.ref ar), .unset, .unset, .unset, .unset, .unset] [(.ref a1)])
  obtain ⟨T1, X1, e1, st1⟩ := initO X0 hx hZ hown (wd_12 hw) (wd_13 hw) (wd_14 hw) e0 (g := (mkF m 1 #[.val (.ref a1), .val (.ref ar), .unset, .unset, .unset, .unset, .unset] [(.ref a1)])) rfl (by rw [hml]; rfl) rfl (hb hby d2_1) (by decide) (W := 0) (by show 2 * 0 + _ ≤ _; exact Nat.le_of_eq rfl) (by decide)
  refine own_go st1 ?_
  show own_G p e below Φ T1 (mkF m 4 #[.val (.ref a1), .val (.ref ar), .unset, .unset, .unset, .unset, .unset] [])
  refine own_go (fun _ => XS.aloadN X1.here hx rfl (hb hby d2_4) rfl rfl) ?_
  show own_G p e below Φ T1 (mkF m 5 #[.val (.ref a1), .val (.ref ar), .unset, .unset, .unset, .unset, .unset] [(.ref a1)])
  refine own_go (fun _ => XS.aloadN X1.here hx rfl (hb hby d2_5) rfl rfl) ?_
  show own_G p e below Φ T1 (mkF m 6 #[.val (.ref a1), .val (.ref ar), .unset, .unset, .unset, .unset, .unset] [(.ref ar), (.ref a1)])
  obtain ⟨T2, h2, X2, e2, W2, st2⟩ := putF X1 hx hZ hown (host := "") (Or.inl (wd_15 hw)) Via.refl e1 F_m_aClasses_a1 E_a1 (Or.inr ⟨(wd_16 hw), rfl, hnm⟩) (wd_7 hw) (ty := (.array .int)) (by decide) rfl rfl (g := (mkF m 6 #[.val (.ref a1), .val (.ref ar), .unset, .unset, .unset, .unset, .unset] [(.ref ar), (.ref a1)])) rfl rfl (hb hby d2_6)
  refine own_go st2 ?_
  have N2 := Fr.snoc X2 N0 g_a1
  have K2 := K0.wr W2 (Or.inl (List.mem_of_getElem? (i := 0) rfl))
  have Zp2 : n0 ≤ h2.size := Nat.le_trans Z0 (Keep.of_wr W2).1
  have f2w := F_m_aClasses_a1.same W2
  show own_G p e below Φ T2 (mkF m 9 #[.val (.ref a1), .val (.ref ar), .unset, .unset, .unset, .unset, .unset] [])
  refine own_go (fun _ => XS.iconst X2.here hx rfl (hb hby d2_9)) ?_
  show own_G p e below Φ T2 (mkF m 10 #[.val (.ref a1), .val (.ref ar), .unset, .unset, .unset, .unset, .unset] [(.int (0 : Int32))])
  refine own_go (fun _ => XS.istoreN X2.here hx rfl (hb hby d2_10) rfl (l' := #[.val (.ref a1), .val (.ref ar), .val (.int (0 : Int32)), .unset, .unset, .unset, .unset]) rfl) ?_
  show own_G p e below Φ T2 (mkF m 11 #[.val (.ref a1), .val (.ref ar), .val (.int (0 : Int32)), .unset, .unset, .unset, .unset] [])
  refine own_go (fun _ => XS.aloadN X2.here hx rfl (hb hby d2_11) rfl rfl) ?_
  show own_G p e below Φ T2 (mkF m 12 #[.val (.ref a1), .val (.ref ar), .val (.int (0 : Int32)), .unset, .unset, .unset, .unset] [(.ref ar)])
  refine own_go (fun _ => XS.astoreN X2.here hx rfl (hb hby d2_12) rfl rfl (l' := #[.val (.ref a1), .val (.ref ar), .val (.int (0 : Int32)), .val (.ref ar), .unset, .unset, .unset]) rfl) ?_
  show own_G p e below Φ T2 (mkF m 13 #[.val (.ref a1), .val (.ref ar), .val (.int (0 : Int32)), .val (.ref ar), .unset, .unset, .unset] [])
  refine own_go (fun _ => XS.aloadN X2.here hx rfl (hb hby d2_13) rfl rfl) ?_
  show own_G p e below Φ T2 (mkF m 14 #[.val (.ref a1), .val (.ref ar), .val (.int (0 : Int32)), .val (.ref ar), .unset, .unset, .unset] [(.ref ar)])
  have f3 : Arv Z h2 ar ka .int (4 : Int32) [(.int v0), (.int v1), (.int v2), (.int v3)] (.int (0 : Int32)) := V_ar.other W2 ne_ar_a1
  obtain ⟨cl4, Ar4, q4, S4, M4, H4, G4⟩ := id f3
  refine own_go (fun _ => X2.arraylength hx (by rw [e2]; exact Ar4.1) (State.isArrayOf_alike hZ.alike Ar4.2.1) (g := (mkF m 14 #[.val (.ref a1), .val (.ref ar), .val (.int (0 : Int32)), .val (.ref ar), .unset, .unset, .unset] [(.ref ar)])) rfl rfl (hb hby d2_14) _) ?_
  rw [len_of S4 M4]
  show own_G p e below Φ T2 (mkF m 15 #[.val (.ref a1), .val (.ref ar), .val (.int (0 : Int32)), .val (.ref ar), .unset, .unset, .unset] [(.int (4 : Int32))])
  refine own_go (fun _ => XS.istore X2.here hx rfl (hb hby d2_15) rfl (l' := #[.val (.ref a1), .val (.ref ar), .val (.int (0 : Int32)), .val (.ref ar), .val (.int (4 : Int32)), .unset, .unset]) rfl) ?_
  show own_G p e below Φ T2 (mkF m 17 #[.val (.ref a1), .val (.ref ar), .val (.int (0 : Int32)), .val (.ref ar), .val (.int (4 : Int32)), .unset, .unset] [])
  refine own_go (fun _ => XS.iconst X2.here hx rfl (hb hby d2_17)) ?_
  show own_G p e below Φ T2 (mkF m 18 #[.val (.ref a1), .val (.ref ar), .val (.int (0 : Int32)), .val (.ref ar), .val (.int (4 : Int32)), .unset, .unset] [(.int (0 : Int32))])
  refine own_go (fun _ => XS.istore X2.here hx rfl (hb hby d2_18) rfl (l' := #[.val (.ref a1), .val (.ref ar), .val (.int (0 : Int32)), .val (.ref ar), .val (.int (4 : Int32)), .val (.int (0 : Int32)), .unset]) rfl) ?_
  show own_G p e below Φ T2 (mkF m 20 #[.val (.ref a1), .val (.ref ar), .val (.int (0 : Int32)), .val (.ref ar), .val (.int (4 : Int32)), .val (.int (0 : Int32)), .unset] [])
  refine own_go (fun _ => XS.iload X2.here hx rfl (hb hby d2_20) rfl) ?_
  show own_G p e below Φ T2 (mkF m 22 #[.val (.ref a1), .val (.ref ar), .val (.int (0 : Int32)), .val (.ref ar), .val (.int (4 : Int32)), .val (.int (0 : Int32)), .unset] [(.int (0 : Int32))])
  refine own_go (fun _ => XS.iload X2.here hx rfl (hb hby d2_22) rfl) ?_
  show own_G p e below Φ T2 (mkF m 24 #[.val (.ref a1), .val (.ref ar), .val (.int (0 : Int32)), .val (.ref ar), .val (.int (4 : Int32)), .val (.int (0 : Int32)), .unset] [(.int (4 : Int32)), (.int (0 : Int32))])
  refine own_go (fun _ => XS.icmpNo X2.here hx rfl (hb hby d2_24) rfl (Jvm.Free.XT.ii_ge_f (by decide : ((0 : Int32) < (4 : Int32))))) ?_
  show own_G p e below Φ T2 (mkF m 27 #[.val (.ref a1), .val (.ref ar), .val (.int (0 : Int32)), .val (.ref ar), .val (.int (4 : Int32)), .val (.int (0 : Int32)), .unset] [])
  refine own_go (fun _ => XS.aloadN X2.here hx rfl (hb hby d2_27) rfl rfl) ?_
  show own_G p e below Φ T2 (mkF m 28 #[.val (.ref a1), .val (.ref ar), .val (.int (0 : Int32)), .val (.ref ar), .val (.int (4 : Int32)), .val (.int (0 : Int32)), .unset] [(.ref ar)])
  refine own_go (fun _ => XS.iload X2.here hx rfl (hb hby d2_28) rfl) ?_
  show own_G p e below Φ T2 (mkF m 30 #[.val (.ref a1), .val (.ref ar), .val (.int (0 : Int32)), .val (.ref ar), .val (.int (4 : Int32)), .val (.int (0 : Int32)), .unset] [(.int (0 : Int32)), (.ref ar)])
  obtain ⟨cl5, Ar5, q5, S5, M5, H5, G5⟩ := id f3
  have hin5 : ¬ ((0 : Int32) < 0 ∨ cl5.slots.size ≤ ((0 : Int32)).toNatClampNeg) := inb_of S5 ⟨by decide, by decide⟩
  refine own_go (fun _ => X2.iaload hx (j := (0 : Int32)) (v := (.int v0)) (by rw [e2]; exact Ar5.1) (State.isArrayOf_alike hZ.alike Ar5.2.1) Ar5.2.2 hin5 (H5.at hin5 rfl) (g := (mkF m 30 #[.val (.ref a1), .val (.ref ar), .val (.int (0 : Int32)), .val (.ref ar), .val (.int (4 : Int32)), .val (.int (0 : Int32)), .unset] [(.int (0 : Int32)), (.ref ar)])) rfl rfl (hb hby d2_30) _) ?_
  show own_G p e below Φ T2 (mkF m 31 #[.val (.ref a1), .val (.ref ar), .val (.int (0 : Int32)), .val (.ref ar), .val (.int (4 : Int32)), .val (.int (0 : Int32)), .unset] [(.int v0)])
  refine own_go (fun _ => XS.istore X2.here hx rfl (hb hby d2_31) rfl (l' := #[.val (.ref a1), .val (.ref ar), .val (.int (0 : Int32)), .val (.ref ar), .val (.int (4 : Int32)), .val (.int (0 : Int32)), .val (.int v0)]) rfl) ?_
  show own_G p e below Φ T2 (mkF m 33 #[.val (.ref a1), .val (.ref ar), .val (.int (0 : Int32)), .val (.ref ar), .val (.int (4 : Int32)), .val (.int (0 : Int32)), .val (.int v0)] [])
  refine own_go (fun _ => XS.iloadN X2.here hx rfl (hb hby d2_33) rfl) ?_
  show own_G p e below Φ T2 (mkF m 34 #[.val (.ref a1), .val (.ref ar), .val (.int (0 : Int32)), .val (.ref ar), .val (.int (4 : Int32)), .val (.int (0 : Int32)), .val (.int v0)] [(.int (0 : Int32))])
  refine own_go (fun _ => XS.iload X2.here hx rfl (hb hby d2_34) rfl) ?_
  show own_G p e below Φ T2 (mkF m 36 #[.val (.ref a1), .val (.ref ar), .val (.int (0 : Int32)), .val (.ref ar), .val (.int (4 : Int32)), .val (.int (0 : Int32)), .val (.int v0)] [(.int v0), (.int (0 : Int32))])
  refine own_go (fun _ => XS.iconst X2.here hx rfl (hb hby d2_36)) ?_
  show own_G p e below Φ T2 (mkF m 37 #[.val (.ref a1), .val (.ref ar), .val (.int (0 : Int32)), .val (.ref ar), .val (.int (4 : Int32)), .val (.int (0 : Int32)), .val (.int v0)] [(.int (1 : Int32)), (.int v0), (.int (0 : Int32))])
  refine own_go (fun _ => XS.iadd X2.here hx rfl (hb hby d2_37) rfl) ?_
  show own_G p e below Φ T2 (mkF m 38 #[.val (.ref a1), .val (.ref ar), .val (.int (0 : Int32)), .val (.ref ar), .val (.int (4 : Int32)), .val (.int (0 : Int32)), .val (.int v0)] [(.int (v0 + (1 : Int32))), (.int (0 : Int32))])
  obtain ⟨_, _, ⟨T6, zL6, zk6, zn6⟩, -, X6, ⟨Lc6, hQ6, l6, y6, z6⟩, st6⟩ := Jvm.LawKit.callS X2 hx (y := (⟨"java/lang/Math", "max", "(II)I"⟩ : MethodName)) hown (mvT hZ (wd_28 hw)) (mvT hZ (wd_2 hw)) (mvT hZ (wd_3 hw)) (mvT hZ (wd_4 hw)) (by decide) (backOf (W := 0) (rmM l Z a0 hw [] (0 : Int32) (v0 + (1 : Int32)) h2 n0 Zp2 ) hZ (wd_4 hw) (wd_3 hw) (by decide) (by decide)) (g := (mkF m 38 #[.val (.ref a1), .val (.ref ar), .val (.int (0 : Int32)), .val (.ref ar), .val (.int (4 : Int32)), .val (.int (0 : Int32)), .val (.int v0)] [(.int (v0 + (1 : Int32))), (.int (0 : Int32))])) rfl (by rw [hml]; rfl) (argsL := [(.int (0 : Int32)), (.int (v0 + (1 : Int32)))]) (rest := []) (lenOf pd_0 rfl) rfl (by show 2 * 0 + _ ≤ _; exact Nat.le_of_eq rfl) (hb hby d2_38) (fun _ _ => ⟨rfl, e2, (by decide : 0 + 0 ≤ _), (by decide : 0 + 0 ≤ _)⟩)
  dsimp only [Pt.U, Pt.locs, Pt.cells, Pt.slots] at X6 l6 y6 z6 st6 hQ6
  subst l6 y6 z6
  obtain ⟨rfl, N6q, hs6⟩ := hQ6
  have N6 := Fr.app N2 N6q
  refine own_go st6 ?_
  show own_G p e below Φ T6 (mkF m 41 #[.val (.ref a1), .val (.ref ar), .val (.int (0 : Int32)), .val (.ref ar), .val (.int (4 : Int32)), .val (.int (0 : Int32)), .val (.int v0)] [(.int (own_max (0 : Int32) (v0 + (1 : Int32))))])
  refine own_go (fun _ => XS.istoreN X6.here hx rfl (hb hby d2_41) rfl (l' := #[.val (.ref a1), .val (.ref ar), .val (.int (own_max (0 : Int32) (v0 + (1 : Int32)))), .val (.ref ar), .val (.int (4 : Int32)), .val (.int (0 : Int32)), .val (.int v0)]) rfl) ?_
  show own_G p e below Φ T6 (mkF m 42 #[.val (.ref a1), .val (.ref ar), .val (.int (own_max (0 : Int32) (v0 + (1 : Int32)))), .val (.ref ar), .val (.int (4 : Int32)), .val (.int (0 : Int32)), .val (.int v0)] [])
  refine own_go (fun _ => XS.iinc X6.here hx rfl (hb hby d2_42) rfl (l' := #[.val (.ref a1), .val (.ref ar), .val (.int (own_max (0 : Int32) (v0 + (1 : Int32)))), .val (.ref ar), .val (.int (4 : Int32)), .val (.int (1 : Int32)), .val (.int v0)]) rfl) ?_
  show own_G p e below Φ T6 (mkF m 45 #[.val (.ref a1), .val (.ref ar), .val (.int (own_max (0 : Int32) (v0 + (1 : Int32)))), .val (.ref ar), .val (.int (4 : Int32)), .val (.int (1 : Int32)), .val (.int v0)] [])
  refine own_go (fun _ => XS.goto X6.here hx rfl (pc0 := 45) (pc' := 20) rfl (hb hby d2_45) (by decide) (by decide)) ?_
  show own_G p e below Φ T6 (mkF m 20 #[.val (.ref a1), .val (.ref ar), .val (.int (own_max (0 : Int32) (v0 + (1 : Int32)))), .val (.ref ar), .val (.int (4 : Int32)), .val (.int (1 : Int32)), .val (.int v0)] [])
  refine own_go (fun _ => XS.iload X6.here hx rfl (hb hby d2_20) rfl) ?_
  show own_G p e below Φ T6 (mkF m 22 #[.val (.ref a1), .val (.ref ar), .val (.int (own_max (0 : Int32) (v0 + (1 : Int32)))), .val (.ref ar), .val (.int (4 : Int32)), .val (.int (1 : Int32)), .val (.int v0)] [(.int (1 : Int32))])
  refine own_go (fun _ => XS.iload X6.here hx rfl (hb hby d2_22) rfl) ?_
  show own_G p e below Φ T6 (mkF m 24 #[.val (.ref a1), .val (.ref ar), .val (.int (own_max (0 : Int32) (v0 + (1 : Int32)))), .val (.ref ar), .val (.int (4 : Int32)), .val (.int (1 : Int32)), .val (.int v0)] [(.int (4 : Int32)), (.int (1 : Int32))])
  refine own_go (fun _ => XS.icmpNo X6.here hx rfl (hb hby d2_24) rfl (Jvm.Free.XT.ii_ge_f (by decide : ((1 : Int32) < (4 : Int32))))) ?_
  show own_G p e below Φ T6 (mkF m 27 #[.val (.ref a1), .val (.ref ar), .val (.int (own_max (0 : Int32) (v0 + (1 : Int32)))), .val (.ref ar), .val (.int (4 : Int32)), .val (.int (1 : Int32)), .val (.int v0)] [])
  refine own_go (fun _ => XS.aloadN X6.here hx rfl (hb hby d2_27) rfl rfl) ?_
  show own_G p e below Φ T6 (mkF m 28 #[.val (.ref a1), .val (.ref ar), .val (.int (own_max (0 : Int32) (v0 + (1 : Int32)))), .val (.ref ar), .val (.int (4 : Int32)), .val (.int (1 : Int32)), .val (.int v0)] [(.ref ar)])
  refine own_go (fun _ => XS.iload X6.here hx rfl (hb hby d2_28) rfl) ?_
  show own_G p e below Φ T6 (mkF m 30 #[.val (.ref a1), .val (.ref ar), .val (.int (own_max (0 : Int32) (v0 + (1 : Int32)))), .val (.ref ar), .val (.int (4 : Int32)), .val (.int (1 : Int32)), .val (.int v0)] [(.int (1 : Int32)), (.ref ar)])
  obtain ⟨cl7, Ar7, q7, S7, M7, H7, G7⟩ := id f3
  have hin7 : ¬ ((1 : Int32) < 0 ∨ cl7.slots.size ≤ ((1 : Int32)).toNatClampNeg) := inb_of S7 ⟨by decide, by decide⟩
  refine own_go (fun _ => X6.iaload hx (j := (1 : Int32)) (v := (.int v1)) (by rw [hs6]; exact Ar7.1) (State.isArrayOf_alike hZ.alike Ar7.2.1) Ar7.2.2 hin7 (H7.at hin7 rfl) (g := (mkF m 30 #[.val (.ref a1), .val (.ref ar), .val (.int (own_max (0 : Int32) (v0 + (1 : Int32)))), .val (.ref ar), .val (.int (4 : Int32)), .val (.int (1 : Int32)), .val (.int v0)] [(.int (1 : Int32)), (.ref ar)])) rfl rfl (hb hby d2_30) _) ?_
  show own_G p e below Φ T6 (mkF m 31 #[.val (.ref a1), .val (.ref ar), .val (.int (own_max (0 : Int32) (v0 + (1 : Int32)))), .val (.ref ar), .val (.int (4 : Int32)), .val (.int (1 : Int32)), .val (.int v0)] [(.int v1)])
  refine own_go (fun _ => XS.istore X6.here hx rfl (hb hby d2_31) rfl (l' := #[.val (.ref a1), .val (.ref ar), .val (.int (own_max (0 : Int32) (v0 + (1 : Int32)))), .val (.ref ar), .val (.int (4 : Int32)), .val (.int (1 : Int32)), .val (.int v1)]) rfl) ?_
  show own_G p e below Φ T6 (mkF m 33 #[.val (.ref a1), .val (.ref ar), .val (.int (own_max (0 : Int32) (v0 + (1 : Int32)))), .val (.ref ar), .val (.int (4 : Int32)), .val (.int (1 : Int32)), .val (.int v1)] [])
  refine own_go (fun _ => XS.iloadN X6.here hx rfl (hb hby d2_33) rfl) ?_
  show own_G p e below Φ T6 (mkF m 34 #[.val (.ref a1), .val (.ref ar), .val (.int (own_max (0 : Int32) (v0 + (1 : Int32)))), .val (.ref ar), .val (.int (4 : Int32)), .val (.int (1 : Int32)), .val (.int v1)] [(.int (own_max (0 : Int32) (v0 + (1 : Int32))))])
  refine own_go (fun _ => XS.iload X6.here hx rfl (hb hby d2_34) rfl) ?_
  show own_G p e below Φ T6 (mkF m 36 #[.val (.ref a1), .val (.ref ar), .val (.int (own_max (0 : Int32) (v0 + (1 : Int32)))), .val (.ref ar), .val (.int (4 : Int32)), .val (.int (1 : Int32)), .val (.int v1)] [(.int v1), (.int (own_max (0 : Int32) (v0 + (1 : Int32))))])
  refine own_go (fun _ => XS.iconst X6.here hx rfl (hb hby d2_36)) ?_
  show own_G p e below Φ T6 (mkF m 37 #[.val (.ref a1), .val (.ref ar), .val (.int (own_max (0 : Int32) (v0 + (1 : Int32)))), .val (.ref ar), .val (.int (4 : Int32)), .val (.int (1 : Int32)), .val (.int v1)] [(.int (1 : Int32)), (.int v1), (.int (own_max (0 : Int32) (v0 + (1 : Int32))))])
  refine own_go (fun _ => XS.iadd X6.here hx rfl (hb hby d2_37) rfl) ?_
  show own_G p e below Φ T6 (mkF m 38 #[.val (.ref a1), .val (.ref ar), .val (.int (own_max (0 : Int32) (v0 + (1 : Int32)))), .val (.ref ar), .val (.int (4 : Int32)), .val (.int (1 : Int32)), .val (.int v1)] [(.int (v1 + (1 : Int32))), (.int (own_max (0 : Int32) (v0 + (1 : Int32))))])
  obtain ⟨_, _, ⟨T8, zL8, zk8, zn8⟩, -, X8, ⟨Lc8, hQ8, l8, y8, z8⟩, st8⟩ := Jvm.LawKit.callS X6 hx (y := (⟨"java/lang/Math", "max", "(II)I"⟩ : MethodName)) hown (mvT hZ (wd_28 hw)) (mvT hZ (wd_2 hw)) (mvT hZ (wd_3 hw)) (mvT hZ (wd_4 hw)) (by decide) (backOf (W := 0) (rmM l Z a0 hw [] (own_max (0 : Int32) (v0 + (1 : Int32))) (v1 + (1 : Int32)) h2 n0 Zp2 ) hZ (wd_4 hw) (wd_3 hw) (by decide) (by decide)) (g := (mkF m 38 #[.val (.ref a1), .val (.ref ar), .val (.int (own_max (0 : Int32) (v0 + (1 : Int32)))), .val (.ref ar), .val (.int (4 : Int32)), .val (.int (1 : Int32)), .val (.int v1)] [(.int (v1 + (1 : Int32))), (.int (own_max (0 : Int32) (v0 + (1 : Int32))))])) rfl (by rw [hml]; rfl) (argsL := [(.int (own_max (0 : Int32) (v0 + (1 : Int32)))), (.int (v1 + (1 : Int32)))]) (rest := []) (lenOf pd_0 rfl) rfl (by show 2 * 0 + _ ≤ _; exact Nat.le_of_eq rfl) (hb hby d2_38) (fun _ _ => ⟨rfl, hs6, (by decide : 0 + 0 ≤ _), (by decide : 0 + 0 ≤ _)⟩)
  dsimp only [Pt.U, Pt.locs, Pt.cells, Pt.slots] at X8 l8 y8 z8 st8 hQ8
  subst l8 y8 z8
  obtain ⟨rfl, N8q, hs8⟩ := hQ8
  have N8 := Fr.app N6 N8q
  refine own_go st8 ?_
  show own_G p e below Φ T8 (mkF m 41 #[.val (.ref a1), .val (.ref ar), .val (.int (own_max (0 : Int32) (v0 + (1 : Int32)))), .val (.ref ar), .val (.int (4 : Int32)), .val (.int (1 : Int32)), .val (.int v1)] [(.int (own_max (own_max (0 : Int32) (v0 + (1 : Int32))) (v1 + (1 : Int32))))])
  refine own_go (fun _ => XS.istoreN X8.here hx rfl (hb hby d2_41) rfl (l' := #[.val (.ref a1), .val (.ref ar), .val (.int (own_max (own_max (0 : Int32) (v0 + (1 : Int32))) (v1 + (1 : Int32)))), .val (.ref ar), .val (.int (4 : Int32)), .val (.int (1 : Int32)), .val (.int v1)]) rfl) ?_
  show own_G p e below Φ T8 (mkF m 42 #[.val (.ref a1), .val (.ref ar), .val (.int (own_max (own_max (0 : Int32) (v0 + (1 : Int32))) (v1 + (1 : Int32)))), .val (.ref ar), .val (.int (4 : Int32)), .val (.int (1 : Int32)), .val (.int v1)] [])
  refine own_go (fun _ => XS.iinc X8.here hx rfl (hb hby d2_42) rfl (l' := #[.val (.ref a1), .val (.ref ar), .val (.int (own_max (own_max (0 : Int32) (v0 + (1 : Int32))) (v1 + (1 : Int32)))), .val (.ref ar), .val (.int (4 : Int32)), .val (.int (2 : Int32)), .val (.int v1)]) rfl) ?_
  show own_G p e below Φ T8 (mkF m 45 #[.val (.ref a1), .val (.ref ar), .val (.int (own_max (own_max (0 : Int32) (v0 + (1 : Int32))) (v1 + (1 : Int32)))), .val (.ref ar), .val (.int (4 : Int32)), .val (.int (2 : Int32)), .val (.int v1)] [])
  refine own_go (fun _ => XS.goto X8.here hx rfl (pc0 := 45) (pc' := 20) rfl (hb hby d2_45) (by decide) (by decide)) ?_
  show own_G p e below Φ T8 (mkF m 20 #[.val (.ref a1), .val (.ref ar), .val (.int (own_max (own_max (0 : Int32) (v0 + (1 : Int32))) (v1 + (1 : Int32)))), .val (.ref ar), .val (.int (4 : Int32)), .val (.int (2 : Int32)), .val (.int v1)] [])
  refine own_go (fun _ => XS.iload X8.here hx rfl (hb hby d2_20) rfl) ?_
  show own_G p e below Φ T8 (mkF m 22 #[.val (.ref a1), .val (.ref ar), .val (.int (own_max (own_max (0 : Int32) (v0 + (1 : Int32))) (v1 + (1 : Int32)))), .val (.ref ar), .val (.int (4 : Int32)), .val (.int (2 : Int32)), .val (.int v1)] [(.int (2 : Int32))])
  refine own_go (fun _ => XS.iload X8.here hx rfl (hb hby d2_22) rfl) ?_
  show own_G p e below Φ T8 (mkF m 24 #[.val (.ref a1), .val (.ref ar), .val (.int (own_max (own_max (0 : Int32) (v0 + (1 : Int32))) (v1 + (1 : Int32)))), .val (.ref ar), .val (.int (4 : Int32)), .val (.int (2 : Int32)), .val (.int v1)] [(.int (4 : Int32)), (.int (2 : Int32))])
  refine own_go (fun _ => XS.icmpNo X8.here hx rfl (hb hby d2_24) rfl (Jvm.Free.XT.ii_ge_f (by decide : ((2 : Int32) < (4 : Int32))))) ?_
  show own_G p e below Φ T8 (mkF m 27 #[.val (.ref a1), .val (.ref ar), .val (.int (own_max (own_max (0 : Int32) (v0 + (1 : Int32))) (v1 + (1 : Int32)))), .val (.ref ar), .val (.int (4 : Int32)), .val (.int (2 : Int32)), .val (.int v1)] [])
  refine own_go (fun _ => XS.aloadN X8.here hx rfl (hb hby d2_27) rfl rfl) ?_
  show own_G p e below Φ T8 (mkF m 28 #[.val (.ref a1), .val (.ref ar), .val (.int (own_max (own_max (0 : Int32) (v0 + (1 : Int32))) (v1 + (1 : Int32)))), .val (.ref ar), .val (.int (4 : Int32)), .val (.int (2 : Int32)), .val (.int v1)] [(.ref ar)])
  refine own_go (fun _ => XS.iload X8.here hx rfl (hb hby d2_28) rfl) ?_
  show own_G p e below Φ T8 (mkF m 30 #[.val (.ref a1), .val (.ref ar), .val (.int (own_max (own_max (0 : Int32) (v0 + (1 : Int32))) (v1 + (1 : Int32)))), .val (.ref ar), .val (.int (4 : Int32)), .val (.int (2 : Int32)), .val (.int v1)] [(.int (2 : Int32)), (.ref ar)])
  obtain ⟨cl9, Ar9, q9, S9, M9, H9, G9⟩ := id f3
  have hin9 : ¬ ((2 : Int32) < 0 ∨ cl9.slots.size ≤ ((2 : Int32)).toNatClampNeg) := inb_of S9 ⟨by decide, by decide⟩
  refine own_go (fun _ => X8.iaload hx (j := (2 : Int32)) (v := (.int v2)) (by rw [hs8]; exact Ar9.1) (State.isArrayOf_alike hZ.alike Ar9.2.1) Ar9.2.2 hin9 (H9.at hin9 rfl) (g := (mkF m 30 #[.val (.ref a1), .val (.ref ar), .val (.int (own_max (own_max (0 : Int32) (v0 + (1 : Int32))) (v1 + (1 : Int32)))), .val (.ref ar), .val (.int (4 : Int32)), .val (.int (2 : Int32)), .val (.int v1)] [(.int (2 : Int32)), (.ref ar)])) rfl rfl (hb hby d2_30) _) ?_
  show own_G p e below Φ T8 (mkF m 31 #[.val (.ref a1), .val (.ref ar), .val (.int (own_max (own_max (0 : Int32) (v0 + (1 : Int32))) (v1 + (1 : Int32)))), .val (.ref ar), .val (.int (4 : Int32)), .val (.int (2 : Int32)), .val (.int v1)] [(.int v2)])
  refine own_go (fun _ => XS.istore X8.here hx rfl (hb hby d2_31) rfl (l' := #[.val (.ref a1), .val (.ref ar), .val (.int (own_max (own_max (0 : Int32) (v0 + (1 : Int32))) (v1 + (1 : Int32)))), .val (.ref ar), .val (.int (4 : Int32)), .val (.int (2 : Int32)), .val (.int v2)]) rfl) ?_
  show own_G p e below Φ T8 (mkF m 33 #[.val (.ref a1), .val (.ref ar), .val (.int (own_max (own_max (0 : Int32) (v0 + (1 : Int32))) (v1 + (1 : Int32)))), .val (.ref ar), .val (.int (4 : Int32)), .val (.int (2 : Int32)), .val (.int v2)] [])
  refine own_go (fun _ => XS.iloadN X8.here hx rfl (hb hby d2_33) rfl) ?_
  show own_G p e below Φ T8 (mkF m 34 #[.val (.ref a1), .val (.ref ar), .val (.int (own_max (own_max (0 : Int32) (v0 + (1 : Int32))) (v1 + (1 : Int32)))), .val (.ref ar), .val (.int (4 : Int32)), .val (.int (2 : Int32)), .val (.int v2)] [(.int (own_max (own_max (0 : Int32) (v0 + (1 : Int32))) (v1 + (1 : Int32))))])
  refine own_go (fun _ => XS.iload X8.here hx rfl (hb hby d2_34) rfl) ?_
  show own_G p e below Φ T8 (mkF m 36 #[.val (.ref a1), .val (.ref ar), .val (.int (own_max (own_max (0 : Int32) (v0 + (1 : Int32))) (v1 + (1 : Int32)))), .val (.ref ar), .val (.int (4 : Int32)), .val (.int (2 : Int32)), .val (.int v2)] [(.int v2), (.int (own_max (own_max (0 : Int32) (v0 + (1 : Int32))) (v1 + (1 : Int32))))])
  refine own_go (fun _ => XS.iconst X8.here hx rfl (hb hby d2_36)) ?_
  show own_G p e below Φ T8 (mkF m 37 #[.val (.ref a1), .val (.ref ar), .val (.int (own_max (own_max (0 : Int32) (v0 + (1 : Int32))) (v1 + (1 : Int32)))), .val (.ref ar), .val (.int (4 : Int32)), .val (.int (2 : Int32)), .val (.int v2)] [(.int (1 : Int32)), (.int v2), (.int (own_max (own_max (0 : Int32) (v0 + (1 : Int32))) (v1 + (1 : Int32))))])
  refine own_go (fun _ => XS.iadd X8.here hx rfl (hb hby d2_37) rfl) ?_
  show own_G p e below Φ T8 (mkF m 38 #[.val (.ref a1), .val (.ref ar), .val (.int (own_max (own_max (0 : Int32) (v0 + (1 : Int32))) (v1 + (1 : Int32)))), .val (.ref ar), .val (.int (4 : Int32)), .val (.int (2 : Int32)), .val (.int v2)] [(.int (v2 + (1 : Int32))), (.int (own_max (own_max (0 : Int32) (v0 + (1 : Int32))) (v1 + (1 : Int32))))])
  obtain ⟨_, _, ⟨T10, zL10, zk10, zn10⟩, -, X10, ⟨Lc10, hQ10, l10, y10, z10⟩, st10⟩ := Jvm.LawKit.callS X8 hx (y := (⟨"java/lang/Math", "max", "(II)I"⟩ : MethodName)) hown (mvT hZ (wd_28 hw)) (mvT hZ (wd_2 hw)) (mvT hZ (wd_3 hw)) (mvT hZ (wd_4 hw)) (by decide) (backOf (W := 0) (rmM l Z a0 hw [] (own_max (own_max (0 : Int32) (v0 + (1 : Int32))) (v1 + (1 : Int32))) (v2 + (1 : Int32)) h2 n0 Zp2 ) hZ (wd_4 hw) (wd_3 hw) (by decide) (by decide)) (g := (mkF m 38 #[.val (.ref a1), .val (.ref ar), .val (.int (own_max (own_max (0 : Int32) (v0 + (1 : Int32))) (v1 + (1 : Int32)))), .val (.ref ar), .val (.int (4 : Int32)), .val (.int (2 : Int32)), .val (.int v2)] [(.int (v2 + (1 : Int32))), (.int (own_max (own_max (0 : Int32) (v0 + (1 : Int32))) (v1 + (1 : Int32))))])) rfl (by rw [hml]; rfl) (argsL := [(.int (own_max (own_max (0 : Int32) (v0 + (1 : Int32))) (v1 + (1 : Int32)))), (.int (v2 + (1 : Int32)))]) (rest := []) (lenOf pd_0 rfl) rfl (by show 2 * 0 + _ ≤ _; exact Nat.le_of_eq rfl) (hb hby d2_38) (fun _ _ => ⟨rfl, hs8, (by decide : 0 + 0 ≤ _), (by decide : 0 + 0 ≤ _)⟩)
  dsimp only [Pt.U, Pt.locs, Pt.cells, Pt.slots] at X10 l10 y10 z10 st10 hQ10
  subst l10 y10 z10
  obtain ⟨rfl, N10q, hs10⟩ := hQ10
  have N10 := Fr.app N8 N10q
  refine own_go st10 ?_
  show own_G p e below Φ T10 (mkF m 41 #[.val (.ref a1), .val (.ref ar), .val (.int (own_max (own_max (0 : Int32) (v0 + (1 : Int32))) (v1 + (1 : Int32)))), .val (.ref ar), .val (.int (4 : Int32)), .val (.int (2 : Int32)), .val (.int v2)] [(.int (own_max (own_max (own_max (0 : Int32) (v0 + (1 : Int32))) (v1 + (1 : Int32))) (v2 + (1 : Int32))))])
  refine own_go (fun _ => XS.istoreN X10.here hx rfl (hb hby d2_41) rfl (l' := #[.val (.ref a1), .val (.ref ar), .val (.int (own_max (own_max (own_max (0 : Int32) (v0 + (1 : Int32))) (v1 + (1 : Int32))) (v2 + (1 : Int32)))), .val (.ref ar), .val (.int (4 : Int32)), .val (.int (2 : Int32)), .val (.int v2)]) rfl) ?_
  show own_G p e below Φ T10 (mkF m 42 #[.val (.ref a1), .val (.ref ar), .val (.int (own_max (own_max (own_max (0 : Int32) (v0 + (1 : Int32))) (v1 + (1 : Int32))) (v2 + (1 : Int32)))), .val (.ref ar), .val (.int (4 : Int32)), .val (.int (2 : Int32)), .val (.int v2)] [])
  refine own_go (fun _ => XS.iinc X10.here hx rfl (hb hby d2_42) rfl (l' := #[.val (.ref a1), .val (.ref ar), .val (.int (own_max (own_max (own_max (0 : Int32) (v0 + (1 : Int32))) (v1 + (1 : Int32))) (v2 + (1 : Int32)))), .val (.ref ar), .val (.int (4 : Int32)), .val (.int (3 : Int32)), .val (.int v2)]) rfl) ?_
  show own_G p e below Φ T10 (mkF m 45 #[.val (.ref a1), .val (.ref ar), .val (.int (own_max (own_max (own_max (0 : Int32) (v0 + (1 : Int32))) (v1 + (1 : Int32))) (v2 + (1 : Int32)))), .val (.ref ar), .val (.int (4 : Int32)), .val (.int (3 : Int32)), .val (.int v2)] [])
  refine own_go (fun _ => XS.goto X10.here hx rfl (pc0 := 45) (pc' := 20) rfl (hb hby d2_45) (by decide) (by decide)) ?_
  show own_G p e below Φ T10 (mkF m 20 #[.val (.ref a1), .val (.ref ar), .val (.int (own_max (own_max (own_max (0 : Int32) (v0 + (1 : Int32))) (v1 + (1 : Int32))) (v2 + (1 : Int32)))), .val (.ref ar), .val (.int (4 : Int32)), .val (.int (3 : Int32)), .val (.int v2)] [])
  refine own_go (fun _ => XS.iload X10.here hx rfl (hb hby d2_20) rfl) ?_
  show own_G p e below Φ T10 (mkF m 22 #[.val (.ref a1), .val (.ref ar), .val (.int (own_max (own_max (own_max (0 : Int32) (v0 + (1 : Int32))) (v1 + (1 : Int32))) (v2 + (1 : Int32)))), .val (.ref ar), .val (.int (4 : Int32)), .val (.int (3 : Int32)), .val (.int v2)] [(.int (3 : Int32))])
  refine own_go (fun _ => XS.iload X10.here hx rfl (hb hby d2_22) rfl) ?_
  show own_G p e below Φ T10 (mkF m 24 #[.val (.ref a1), .val (.ref ar), .val (.int (own_max (own_max (own_max (0 : Int32) (v0 + (1 : Int32))) (v1 + (1 : Int32))) (v2 + (1 : Int32)))), .val (.ref ar), .val (.int (4 : Int32)), .val (.int (3 : Int32)), .val (.int v2)] [(.int (4 : Int32)), (.int (3 : Int32))])
  refine own_go (fun _ => XS.icmpNo X10.here hx rfl (hb hby d2_24) rfl (Jvm.Free.XT.ii_ge_f (by decide : ((3 : Int32) < (4 : Int32))))) ?_
  show own_G p e below Φ T10 (mkF m 27 #[.val (.ref a1), .val (.ref ar), .val (.int (own_max (own_max (own_max (0 : Int32) (v0 + (1 : Int32))) (v1 + (1 : Int32))) (v2 + (1 : Int32)))), .val (.ref ar), .val (.int (4 : Int32)), .val (.int (3 : Int32)), .val (.int v2)] [])
  refine own_go (fun _ => XS.aloadN X10.here hx rfl (hb hby d2_27) rfl rfl) ?_
  show own_G p e below Φ T10 (mkF m 28 #[.val (.ref a1), .val (.ref ar), .val (.int (own_max (own_max (own_max (0 : Int32) (v0 + (1 : Int32))) (v1 + (1 : Int32))) (v2 + (1 : Int32)))), .val (.ref ar), .val (.int (4 : Int32)), .val (.int (3 : Int32)), .val (.int v2)] [(.ref ar)])
  refine own_go (fun _ => XS.iload X10.here hx rfl (hb hby d2_28) rfl) ?_
  show own_G p e below Φ T10 (mkF m 30 #[.val (.ref a1), .val (.ref ar), .val (.int (own_max (own_max (own_max (0 : Int32) (v0 + (1 : Int32))) (v1 + (1 : Int32))) (v2 + (1 : Int32)))), .val (.ref ar), .val (.int (4 : Int32)), .val (.int (3 : Int32)), .val (.int v2)] [(.int (3 : Int32)), (.ref ar)])
  obtain ⟨cl11, Ar11, q11, S11, M11, H11, G11⟩ := id f3
  have hin11 : ¬ ((3 : Int32) < 0 ∨ cl11.slots.size ≤ ((3 : Int32)).toNatClampNeg) := inb_of S11 ⟨by decide, by decide⟩
  refine own_go (fun _ => X10.iaload hx (j := (3 : Int32)) (v := (.int v3)) (by rw [hs10]; exact Ar11.1) (State.isArrayOf_alike hZ.alike Ar11.2.1) Ar11.2.2 hin11 (H11.at hin11 rfl) (g := (mkF m 30 #[.val (.ref a1), .val (.ref ar), .val (.int (own_max (own_max (own_max (0 : Int32) (v0 + (1 : Int32))) (v1 + (1 : Int32))) (v2 + (1 : Int32)))), .val (.ref ar), .val (.int (4 : Int32)), .val (.int (3 : Int32)), .val (.int v2)] [(.int (3 : Int32)), (.ref ar)])) rfl rfl (hb hby d2_30) _) ?_
  show own_G p e below Φ T10 (mkF m 31 #[.val (.ref a1), .val (.ref ar), .val (.int (own_max (own_max (own_max (0 : Int32) (v0 + (1 : Int32))) (v1 + (1 : Int32))) (v2 + (1 : Int32)))), .val (.ref ar), .val (.int (4 : Int32)), .val (.int (3 : Int32)), .val (.int v2)] [(.int v3)])
  refine own_go (fun _ => XS.istore X10.here hx rfl (hb hby d2_31) rfl (l' := #[.val (.ref a1), .val (.ref ar), .val (.int (own_max (own_max (own_max (0 : Int32) (v0 + (1 : Int32))) (v1 + (1 : Int32))) (v2 + (1 : Int32)))), .val (.ref ar), .val (.int (4 : Int32)), .val (.int (3 : Int32)), .val (.int v3)]) rfl) ?_
  show own_G p e below Φ T10 (mkF m 33 #[.val (.ref a1), .val (.ref ar), .val (.int (own_max (own_max (own_max (0 : Int32) (v0 + (1 : Int32))) (v1 + (1 : Int32))) (v2 + (1 : Int32)))), .val (.ref ar), .val (.int (4 : Int32)), .val (.int (3 : Int32)), .val (.int v3)] [])
  refine own_go (fun _ => XS.iloadN X10.here hx rfl (hb hby d2_33) rfl) ?_
  show own_G p e below Φ T10 (mkF m 34 #[.val (.ref a1), .val (.ref ar), .val (.int (own_max (own_max (own_max (0 : Int32) (v0 + (1 : Int32))) (v1 + (1 : Int32))) (v2 + (1 : Int32)))), .val (.ref ar), .val (.int (4 : Int32)), .val (.int (3 : Int32)), .val (.int v3)] [(.int (own_max (own_max (own_max (0 : Int32) (v0 + (1 : Int32))) (v1 + (1 : Int32))) (v2 + (1 : Int32))))])
  refine own_go (fun _ => XS.iload X10.here hx rfl (hb hby d2_34) rfl) ?_
  show own_G p e below Φ T10 (mkF m 36 #[.val (.ref a1), .val (.ref ar), .val (.int (own_max (own_max (own_max (0 : Int32) (v0 + (1 : Int32))) (v1 + (1 : Int32))) (v2 + (1 : Int32)))), .val (.ref ar), .val (.int (4 : Int32)), .val (.int (3 : Int32)), .val (.int v3)] [(.int v3), (.int (own_max (own_max (own_max (0 : Int32) (v0 + (1 : Int32))) (v1 + (1 : Int32))) (v2 + (1 : Int32))))])
  refine own_go (fun _ => XS.iconst X10.here hx rfl (hb hby d2_36)) ?_
  show own_G p e below Φ T10 (mkF m 37 #[.val (.ref a1), .val (.ref ar), .val (.int (own_max (own_max (own_max (0 : Int32) (v0 + (1 : Int32))) (v1 + (1 : Int32))) (v2 + (1 : Int32)))), .val (.ref ar), .val (.int (4 : Int32)), .val (.int (3 : Int32)), .val (.int v3)] [(.int (1 : Int32)), (.int v3), (.int (own_max (own_max (own_max (0 : Int32) (v0 + (1 : Int32))) (v1 + (1 : Int32))) (v2 + (1 : Int32))))])
  refine own_go (fun _ => XS.iadd X10.here hx rfl (hb hby d2_37) rfl) ?_
  show own_G p e below Φ T10 (mkF m 38 #[.val (.ref a1), .val (.ref ar), .val (.int (own_max (own_max (own_max (0 : Int32) (v0 + (1 : Int32))) (v1 + (1 : Int32))) (v2 + (1 : Int32)))), .val (.ref ar), .val (.int (4 : Int32)), .val (.int (3 : Int32)), .val (.int v3)] [(.int (v3 + (1 : Int32))), (.int (own_max (own_max (own_max (0 : Int32) (v0 + (1 : Int32))) (v1 + (1 : Int32))) (v2 + (1 : Int32))))])
  obtain ⟨_, _, ⟨T12, zL12, zk12, zn12⟩, -, X12, ⟨Lc12, hQ12, l12, y12, z12⟩, st12⟩ := Jvm.LawKit.callS X10 hx (y := (⟨"java/lang/Math", "max", "(II)I"⟩ : MethodName)) hown (mvT hZ (wd_28 hw)) (mvT hZ (wd_2 hw)) (mvT hZ (wd_3 hw)) (mvT hZ (wd_4 hw)) (by decide) (backOf (W := 0) (rmM l Z a0 hw [] (own_max (own_max (own_max (0 : Int32) (v0 + (1 : Int32))) (v1 + (1 : Int32))) (v2 + (1 : Int32))) (v3 + (1 : Int32)) h2 n0 Zp2 ) hZ (wd_4 hw) (wd_3 hw) (by decide) (by decide)) (g := (mkF m 38 #[.val (.ref a1), .val (.ref ar), .val (.int (own_max (own_max (own_max (0 : Int32) (v0 + (1 : Int32))) (v1 + (1 : Int32))) (v2 + (1 : Int32)))), .val (.ref ar), .val (.int (4 : Int32)), .val (.int (3 : Int32)), .val (.int v3)] [(.int (v3 + (1 : Int32))), (.int (own_max (own_max (own_max (0 : Int32) (v0 + (1 : Int32))) (v1 + (1 : Int32))) (v2 + (1 : Int32))))])) rfl (by rw [hml]; rfl) (argsL := [(.int (own_max (own_max (own_max (0 : Int32) (v0 + (1 : Int32))) (v1 + (1 : Int32))) (v2 + (1 : Int32)))), (.int (v3 + (1 : Int32)))]) (rest := []) (lenOf pd_0 rfl) rfl (by show 2 * 0 + _ ≤ _; exact Nat.le_of_eq rfl) (hb hby d2_38) (fun _ _ => ⟨rfl, hs10, (by decide : 0 + 0 ≤ _), (by decide : 0 + 0 ≤ _)⟩)
  dsimp only [Pt.U, Pt.locs, Pt.cells, Pt.slots] at X12 l12 y12 z12 st12 hQ12
  subst l12 y12 z12
  obtain ⟨rfl, N12q, hs12⟩ := hQ12
  have N12 := Fr.app N10 N12q
  refine own_go st12 ?_
  show own_G p e below Φ T12 (mkF m 41 #[.val (.ref a1), .val (.ref ar), .val (.int (own_max (own_max (own_max (0 : Int32) (v0 + (1 : Int32))) (v1 + (1 : Int32))) (v2 + (1 : Int32)))), .val (.ref ar), .val (.int (4 : Int32)), .val (.int (3 : Int32)), .val (.int v3)] [(.int (own_max (own_max (own_max (own_max (0 : Int32) (v0 + (1 : Int32))) (v1 + (1 : Int32))) (v2 + (1 : Int32))) (v3 + (1 : Int32))))])
  refine own_go (fun _ => XS.istoreN X12.here hx rfl (hb hby d2_41) rfl (l' := #[.val (.ref a1), .val (.ref ar), .val (.int (own_max (own_max (own_max (own_max (0 : Int32) (v0 + (1 : Int32))) (v1 + (1 : Int32))) (v2 + (1 : Int32))) (v3 + (1 : Int32)))), .val (.ref ar), .val (.int (4 : Int32)), .val (.int (3 : Int32)), .val (.int v3)]) rfl) ?_
  show own_G p e below Φ T12 (mkF m 42 #[.val (.ref a1), .val (.ref ar), .val (.int (own_max (own_max (own_max (own_max (0 : Int32) (v0 + (1 : Int32))) (v1 + (1 : Int32))) (v2 + (1 : Int32))) (v3 + (1 : Int32)))), .val (.ref ar), .val (.int (4 : Int32)), .val (.int (3 : Int32)), .val (.int v3)] [])
  refine own_go (fun _ => XS.iinc X12.here hx rfl (hb hby d2_42) rfl (l' := #[.val (.ref a1), .val (.ref ar), .val (.int (own_max (own_max (own_max (own_max (0 : Int32) (v0 + (1 : Int32))) (v1 + (1 : Int32))) (v2 + (1 : Int32))) (v3 + (1 : Int32)))), .val (.ref ar), .val (.int (4 : Int32)), .val (.int (4 : Int32)), .val (.int v3)]) rfl) ?_
  show own_G p e below Φ T12 (mkF m 45 #[.val (.ref a1), .val (.ref ar), .val (.int (own_max (own_max (own_max (own_max (0 : Int32) (v0 + (1 : Int32))) (v1 + (1 : Int32))) (v2 + (1 : Int32))) (v3 + (1 : Int32)))), .val (.ref ar), .val (.int (4 : Int32)), .val (.int (4 : Int32)), .val (.int v3)] [])
  refine own_go (fun _ => XS.goto X12.here hx rfl (pc0 := 45) (pc' := 20) rfl (hb hby d2_45) (by decide) (by decide)) ?_
  show own_G p e below Φ T12 (mkF m 20 #[.val (.ref a1), .val (.ref ar), .val (.int (own_max (own_max (own_max (own_max (0 : Int32) (v0 + (1 : Int32))) (v1 + (1 : Int32))) (v2 + (1 : Int32))) (v3 + (1 : Int32)))), .val (.ref ar), .val (.int (4 : Int32)), .val (.int (4 : Int32)), .val (.int v3)] [])
  refine own_go (fun _ => XS.iload X12.here hx rfl (hb hby d2_20) rfl) ?_
  show own_G p e below Φ T12 (mkF m 22 #[.val (.ref a1), .val (.ref ar), .val (.int (own_max (own_max (own_max (own_max (0 : Int32) (v0 + (1 : Int32))) (v1 + (1 : Int32))) (v2 + (1 : Int32))) (v3 + (1 : Int32)))), .val (.ref ar), .val (.int (4 : Int32)), .val (.int (4 : Int32)), .val (.int v3)] [(.int (4 : Int32))])
  refine own_go (fun _ => XS.iload X12.here hx rfl (hb hby d2_22) rfl) ?_
  show own_G p e below Φ T12 (mkF m 24 #[.val (.ref a1), .val (.ref ar), .val (.int (own_max (own_max (own_max (own_max (0 : Int32) (v0 + (1 : Int32))) (v1 + (1 : Int32))) (v2 + (1 : Int32))) (v3 + (1 : Int32)))), .val (.ref ar), .val (.int (4 : Int32)), .val (.int (4 : Int32)), .val (.int v3)] [(.int (4 : Int32)), (.int (4 : Int32))])
  refine own_go (fun _ => XS.icmpYes X12.here hx rfl (pc0 := 24) (pc' := 48) rfl (hb hby d2_24) rfl (Jvm.Free.XT.ii_ge_t (by decide : ¬ ((4 : Int32) < (4 : Int32)))) (by decide) (by decide)) ?_
  show own_G p e below Φ T12 (mkF m 48 #[.val (.ref a1), .val (.ref ar), .val (.int (own_max (own_max (own_max (own_max (0 : Int32) (v0 + (1 : Int32))) (v1 + (1 : Int32))) (v2 + (1 : Int32))) (v3 + (1 : Int32)))), .val (.ref ar), .val (.int (4 : Int32)), .val (.int (4 : Int32)), .val (.int v3)] [])
  refine own_go (fun _ => XS.aloadN X12.here hx rfl (hb hby d2_48) rfl rfl) ?_
  show own_G p e below Φ T12 (mkF m 49 #[.val (.ref a1), .val (.ref ar), .val (.int (own_max (own_max (own_max (own_max (0 : Int32) (v0 + (1 : Int32))) (v1 + (1 : Int32))) (v2 + (1 : Int32))) (v3 + (1 : Int32)))), .val (.ref ar), .val (.int (4 : Int32)), .val (.int (4 : Int32)), .val (.int v3)] [(.ref a1)])
  refine own_go (fun _ => XS.iloadN X12.here hx rfl (hb hby d2_49) rfl) ?_
  show own_G p e below Φ T12 (mkF m 50 #[.val (.ref a1), .val (.ref ar), .val (.int (own_max (own_max (own_max (own_max (0 : Int32) (v0 + (1 : Int32))) (v1 + (1 : Int32))) (v2 + (1 : Int32))) (v3 + (1 : Int32)))), .val (.ref ar), .val (.int (4 : Int32)), .val (.int (4 : Int32)), .val (.int v3)] [(.int (own_max (own_max (own_max (own_max (0 : Int32) (v0 + (1 : Int32))) (v1 + (1 : Int32))) (v2 + (1 : Int32))) (v3 + (1 : Int32)))), (.ref a1)])
  have f13 : Exa Z h2 a1 "com/example/edgewarden/edgewarden/graph/Likeness" := E_a1.wr W2
  have f14 : Fld Z h2 a1 "com/example/edgewarden/edgewarden/graph/Likeness" "m_nClassCount" "I" u1 := F_m_nClassCount_a1.other W2 (Or.inr (sl_0 hw))
  obtain ⟨T15, h15, X15, e15, W15, st15⟩ := putF X12 hx hZ hown (host := "") (Or.inl (wd_17 hw)) Via.refl hs12 f14 f13 (Or.inr ⟨(wd_18 hw), rfl, hnm⟩) (wd_7 hw) (ty := .int) (by decide) rfl rfl (g := (mkF m 50 #[.val (.ref a1), .val (.ref ar), .val (.int (own_max (own_max (own_max (own_max (0 : Int32) (v0 + (1 : Int32))) (v1 + (1 : Int32))) (v2 + (1 : Int32))) (v3 + (1 : Int32)))), .val (.ref ar), .val (.int (4 : Int32)), .val (.int (4 : Int32)), .val (.int v3)] [(.int (own_max (own_max (own_max (own_max (0 : Int32) (v0 + (1 : Int32))) (v1 + (1 : Int32))) (v2 + (1 : Int32))) (v3 + (1 : Int32)))), (.ref a1)])) rfl rfl (hb hby d2_50)
  refine own_go st15 ?_
  have N15 := Fr.snoc X15 N12 g_a1
  have K15 := K2.wr W15 (Or.inl (List.mem_of_getElem? (i := 0) rfl))
  have Zp15 : n0 ≤ h15.size := Nat.le_trans Zp2 (Keep.of_wr W15).1
  have f15w := f14.same W15
  show own_G p e below Φ T15 (mkF m 53 #[.val (.ref a1), .val (.ref ar), .val (.int (own_max (own_max (own_max (own_max (0 : Int32) (v0 + (1 : Int32))) (v1 + (1 : Int32))) (v2 + (1 : Int32))) (v3 + (1 : Int32)))), .val (.ref ar), .val (.int (4 : Int32)), .val (.int (4 : Int32)), .val (.int v3)] [])
  have f16 : Exa Z h15 a1 "com/example/edgewarden/edgewarden/graph/Likeness" := f13.wr W15
  have f17 : Fld Z h15 a1 "com/example/edgewarden/edgewarden/graph/Likeness" "m_aClasses" "[I" (.ref ar) := f2w.other W15 (Or.inr (sl_1 hw))
  rw [hΦ]
  refine own_ret X15 (v := none) (fun _ => rfl) (BodyLoose.notSynchronized Bd) (fun fs hr => X15.returnOut hx Bd.returns (hb hby d2_53) hr) ?_ (by decide) (by decide)
  rw [e15]
  exact ⟨rfl, N15, K15, f16, f17, f15w⟩
theorem ef_rmI5 (m : MethodId) (a1 : Addr) (ar : Addr) : entryFrame m #[(.ref a1), (.ref ar)] 7 = mkF m 0 #[.val (.ref a1), .val (.ref ar), .unset, .unset, .unset, .unset, .unset] [] := by first | (simp [entryFrame, mkF, argsToLocals, Value.category]; done) | rfl
def Q_rmI5 (Z : State) (a1 : Addr) (ar : Addr) (ka : ClassId) (v0 : Int32) (v1 : Int32) (v2 : Int32) (v3 : Int32) (v4 : Int32) (u0 : Value) (u1 : Value) (h0 : Heap) (n0 : Nat) (v : Option Value) (h : Heap) (L : List Loc) : Prop := v = none ∧ Fr n0 L ∧ Keep h0 h [a1] ∧ Exa Z h a1 "com/example/edgewarden/edgewarden/graph/Likeness" ∧ Fld Z h a1 "com/example/edgewarden/edgewarden/graph/Likeness" "m_aClasses" "[I" (.ref ar) ∧ Fld Z h a1 "com/example/edgewarden/edgewarden/graph/Likeness" "m_nClassCount" "I" (.int (own_max (own_max (own_max (own_max (own_max (0 : Int32) (v0 + (1 : Int32))) (v1 + (1 : Int32))) (v2 + (1 : Int32))) (v3 + (1 : Int32))) (v4 + (1 : Int32))))
set_option maxRecDepth 65536 in
set_option maxHeartbeats 40000000 in
theorem rmI5 (l : Launch) (Z : State) (a0 : Array Value) (hw : ∀ d ∈ tables_1, d.before a0 Z = true) (ws : List Jvm.Cond) (a1 : Addr) (ar : Addr) (ka : ClassId) (v0 : Int32) (v1 : Int32) (v2 : Int32) (v3 : Int32) (v4 : Int32) (u0 : Value) (u1 : Value) (h0 : Heap) (n0 : Nat) (Z0 : n0 ≤ h0.size) (E_a1 : Exa Z h0 a1 "com/example/edgewarden/edgewarden/graph/Likeness") (F_m_aClasses_a1 : Fld Z h0 a1 "com/example/edgewarden/edgewarden/graph/Likeness" "m_aClasses" "[I" u0) (F_m_nClassCount_a1 : Fld Z h0 a1 "com/example/edgewarden/edgewarden/graph/Likeness" "m_nClassCount" "I" u1) (g_a1 : n0 ≤ a1) (V_ar : Arv Z h0 ar ka .int (5 : Int32) [(.int v0), (.int v1), (.int v2), (.int v3), (.int v4)] (.int (0 : Int32))) (ne_ar_a1 : ar ≠ a1) :
    MetFree l (⟨"com/example/edgewarden/edgewarden/graph/Likeness", "<init>", "([I)V"⟩ : MethodName) (head1 (Jvm.Cond.code (⟨"com/example/edgewarden/edgewarden/graph/Likeness", "<init>", "([I)V"⟩ : MethodName) prog_57_method_3_code 7 none :: ws) ({ frames := 1, cells := 0, slots := 0, locals := 13 } : Room)) (fun a U => a = #[(.ref a1), (.ref ar)] ∧ Z.Warmed39 U.vm ∧ U.heap = h0) (fun _ _ _ _ _ => True) (fun _ U o U' => ∃ v L, o = .returned v ∧ Q_rmI5 Z a1 ar ka v0 v1 v2 v3 v4 u0 u1 h0 n0 v U'.heap L ∧ FrameEnd U o U' L ({ frames := 1, cells := 0, slots := 0, locals := 13 } : Room).cells ({ frames := 1, cells := 0, slots := 0, locals := 13 } : Room).slots) := by
  refine MetFree.of_bodySF (plainFor_of_name pn_0) hisR ?_
  intro p e s m args below meth c s₁ Bd hml0 hP hK
  obtain ⟨rfl, hZ, hh⟩ := hP
  have hx := Bd.exec
  have hby := Bd.bytes
  have hml : c.maxLocals = 7 := hml0
  have hown : s.vm.findClass "com/example/edgewarden/edgewarden/graph/Likeness" = some m.cls := findClass_of_methodNamed Bd.named
  have hnm := (name_of_methodNamed Bd.named Bd.method).1
  have X0 : Stand p l e ({ frames := 1, cells := 0, slots := 0, locals := 13 } : Room) s m #[(.ref a1), (.ref ar)] below meth c s₁ [] 0 0 := Stand.of_body Bd
  have e0 : s₁.heap = h0 := by rw [← hh, Bd.state]; rfl
  have N0 := Fr.nil n0
  have K0 : Keep h0 h0 [a1] := Keep.refl _ _
  suffices G0 : own_G p e below (own_E s below (Q_rmI5 Z a1 ar ka v0 v1 v2 v3 v4 u0 u1 h0 n0) ({ frames := 1, cells := 0, slots := 0, locals := 13 } : Room).cells ({ frames := 1, cells := 0, slots := 0, locals := 13 } : Room).slots) s₁ (mkF m 0 #[.val (.ref a1), .val (.ref ar), .unset, .unset, .unset, .unset, .unset] []) by
    obtain ⟨zt, zst, zo, zq1, zq2, zq3⟩ := G0
    exact ⟨zt, zo, castTop (ef_rmI5 m a1 ar) zst, zq1, zq2, zq3⟩
  obtain ⟨Φ, hΦ⟩ : ∃ Φ, Φ = own_E s below (Q_rmI5 Z a1 ar ka v0 v1 v2 v3 v4 u0 u1 h0 n0) ({ frames := 1, cells := 0, slots := 0, locals := 13 } : Room).cells ({ frames := 1, cells := 0, slots := 0, locals := 13 } : Room).slots := ⟨_, rfl⟩
  rw [← hΦ]
  show own_G p e below Φ s₁ (mkF m 0 #[.val (.ref a1), .val (.ref ar), .unset, .unset, .unset, .unset, .unset] [])
  refine own_go (fun _ => XS.aloadN X0.here hx rfl (hb hby d2_0) rfl rfl) ?_
  show own_G p e below Φ s₁ (mkF m 1 #[.val (.ref a1), .val (.ref ar), .unset, .unset, .unset, .unset, .unset] [(.ref a1)])
  obtain ⟨T1, X1, e1, st1⟩ := initO X0 hx hZ hown (wd_12 hw) (wd_13 hw) (wd_14 hw) e0 (g := (mkF m 1 #[.val (.ref a1), .val (.ref ar), .unset, .unset, .unset, .unset, .unset] [(.ref a1)])) rfl (by rw [hml]; rfl) rfl (hb hby d2_1) (by decide) (W := 0) (by show 2 * 0 + _ ≤ _; exact Nat.le_of_eq rfl) (by decide)
  refine own_go st1 ?_
  show own_G p e below Φ T1 (mkF m 4 #[.val (.ref a1), .val (.ref ar), .unset, .unset, .unset, .unset, .unset] [])
  refine own_go (fun _ => XS.aloadN X1.here hx rfl (hb hby d2_4) rfl rfl) ?_
  show own_G p e below Φ T1 (mkF m 5 #[.val (.ref a1), .val (.ref ar), .unset, .unset, .unset, .unset, .unset] [(.ref a1)])
  refine own_go (fun _ => XS.aloadN X1.here hx rfl (hb hby d2_5) rfl rfl) ?_
  show own_G p e below Φ T1 (mkF m 6 #[.val (.ref a1), .val (.ref ar), .unset, .unset, .unset, .unset, .unset] [(.ref ar), (.ref a1)])
  obtain ⟨T2, h2, X2, e2, W2, st2⟩ := putF X1 hx hZ hown (host := "") (Or.inl (wd_15 hw)) Via.refl e1 F_m_aClasses_a1 E_a1 (Or.inr ⟨(wd_16 hw), rfl, hnm⟩) (wd_7 hw) (ty := (.array .int)) (by decide) rfl rfl (g := (mkF m 6 #[.val (.ref a1), .val (.ref ar), .unset, .unset, .unset, .unset, .unset] [(.ref ar), (.ref a1)])) rfl rfl (hb hby d2_6)
  refine own_go st2 ?_
  have N2 := Fr.snoc X2 N0 g_a1
  have K2 := K0.wr W2 (Or.inl (List.mem_of_getElem? (i := 0) rfl))
  have Zp2 : n0 ≤ h2.size := Nat.le_trans Z0 (Keep.of_wr W2).1
  have f2w := F_m_aClasses_a1.same W2
  show own_G p e below Φ T2 (mkF m 9 #[.val (.ref a1), .val (.ref ar), .unset, .unset, .unset, .unset, .unset] [])
  refine own_go (fun _ => XS.iconst X2.here hx rfl (hb hby d2_9)) ?_
  show own_G p e below Φ T2 (mkF m 10 #[.val (.ref a1), .val (.ref ar), .unset, .unset, .unset, .unset, .unset] [(.int (0 : Int32))])
  refine own_go (fun _ => XS.istoreN X2.here hx rfl (hb hby d2_10) rfl (l' := #[.val (.ref a1), .val (.ref ar), .val (.int (0 : Int32)), .unset, .unset, .unset, .unset]) rfl) ?_
  show own_G p e below Φ T2 (mkF m 11 #[.val (.ref a1), .val (.ref ar), .val (.int (0 : Int32)), .unset, .unset, .unset, .unset] [])
  refine own_go (fun _ => XS.aloadN X2.here hx rfl (hb hby d2_11) rfl rfl) ?_
  show own_G p e below Φ T2 (mkF m 12 #[.val (.ref a1), .val (.ref ar), .val (.int (0 : Int32)), .unset, .unset, .unset, .unset] [(.ref ar)])
  refine own_go (fun _ => XS.astoreN X2.here hx rfl (hb hby d2_12) rfl rfl (l' := #[.val (.ref a1), .val (.ref ar), .val (.int (0 : Int32)), .val (.ref ar), .unset, .unset, .unset]) rfl) ?_
  show own_G p e below Φ T2 (mkF m 13 #[.val (.ref a1), .val (.ref ar), .val (.int (0 : Int32)), .val (.ref ar), .unset, .unset, .unset] [])
  refine own_go (fun _ => XS.aloadN X2.here hx rfl (hb hby d2_13) rfl rfl) ?_
  show own_G p e below Φ T2 (mkF m 14 #[.val (.ref a1), .val (.ref ar), .val (.int (0 : Int32)), .val (.ref ar), .unset, .unset, .unset] [(.ref ar)])
  have f3 : Arv Z h2 ar ka .int (5 : Int32) [(.int v0), (.int v1), (.int v2), (.int v3), (.int v4)] (.int (0 : Int32)) := V_ar.other W2 ne_ar_a1
  obtain ⟨cl4, Ar4, q4, S4, M4, H4, G4⟩ := id f3
  refine own_go (fun _ => X2.arraylength hx (by rw [e2]; exact Ar4.1) (State.isArrayOf_alike hZ.alike Ar4.2.1) (g := (mkF m 14 #[.val (.ref a1), .val (.ref ar), .val (.int (0 : Int32)), .val (.ref ar), .unset, .unset, .unset] [(.ref ar)])) rfl rfl (hb hby d2_14) _) ?_
  rw [len_of S4 M4]
  show own_G p e below Φ T2 (mkF m 15 #[.val (.ref a1), .val (.ref ar), .val (.int (0 : Int32)), .val (.ref ar), .unset, .unset, .unset] [(.int (5 : Int32))])
  refine own_go (fun _ => XS.istore X2.here hx rfl (hb hby d2_15) rfl (l' := #[.val (.ref a1), .val (.ref ar), .val (.int (0 : Int32)), .val (.ref ar), .val (.int (5 : Int32)), .unset, .unset]) rfl) ?_
  show own_G p e below Φ T2 (mkF m 17 #[.val (.ref a1), .val (.ref ar), .val (.int (0 : Int32)), .val (.ref ar), .val (.int (5 : Int32)), .unset, .unset] [])
  refine own_go (fun _ => XS.iconst X2.here hx rfl (hb hby d2_17)) ?_
  show own_G p e below Φ T2 (mkF m 18 #[.val (.ref a1), .val (.ref ar), .val (.int (0 : Int32)), .val (.ref ar), .val (.int (5 : Int32)), .unset, .unset] [(.int (0 : Int32))])
  refine own_go (fun _ => XS.istore X2.here hx rfl (hb hby d2_18) rfl (l' := #[.val (.ref a1), .val (.ref ar), .val (.int (0 : Int32)), .val (.ref ar), .val (.int (5 : Int32)), .val (.int (0 : Int32)), .unset]) rfl) ?_
  show own_G p e below Φ T2 (mkF m 20 #[.val (.ref a1), .val (.ref ar), .val (.int (0 : Int32)), .val (.ref ar), .val (.int (5 : Int32)), .val (.int (0 : Int32)), .unset] [])
  refine own_go (fun _ => XS.iload X2.here hx rfl (hb hby d2_20) rfl) ?_
  show own_G p e below Φ T2 (mkF m 22 #[.val (.ref a1), .val (.ref ar), .val (.int (0 : Int32)), .val (.ref ar), .val (.int (5 : Int32)), .val (.int (0 : Int32)), .unset] [(.int (0 : Int32))])
  refine own_go (fun _ => XS.iload X2.here hx rfl (hb hby d2_22) rfl) ?_
  show own_G p e below Φ T2 (mkF m 24 #[.val (.ref a1), .val (.ref ar), .val (.int (0 : Int32)), .val (.ref ar), .val (.int (5 : Int32)), .val (.int (0 : Int32)), .unset] [(.int (5 : Int32)), (.int (0 : Int32))])
  refine own_go (fun _ => XS.icmpNo X2.here hx rfl (hb hby d2_24) rfl (Jvm.Free.XT.ii_ge_f (by decide : ((0 : Int32) < (5 : Int32))))) ?_
  show own_G p e below Φ T2 (mkF m 27 #[.val (.ref a1), .val (.ref ar), .val (.int (0 : Int32)), .val (.ref ar), .val (.int (5 : Int32)), .val (.int (0 : Int32)), .unset] [])
  refine own_go (fun _ => XS.aloadN X2.here hx rfl (hb hby d2_27) rfl rfl) ?_
  show own_G p e below Φ T2 (mkF m 28 #[.val (.ref a1), .val (.ref ar), .val (.int (0 : Int32)), .val (.ref ar), .val (.int (5 : Int32)), .val (.int (0 : Int32)), .unset] [(.ref ar)])
  refine own_go (fun _ => XS.iload X2.here hx rfl (hb hby d2_28) rfl) ?_
  show own_G p e below Φ T2 (mkF m 30 #[.val (.ref a1), .val (.ref ar), .val (.int (0 : Int32)), .val (.ref ar), .val (.int (5 : Int32)), .val (.int (0 : Int32)), .unset] [(.int (0 : Int32)), (.ref ar)])
  obtain ⟨cl5, Ar5, q5, S5, M5, H5, G5⟩ := id f3
  have hin5 : ¬ ((0 : Int32) < 0 ∨ cl5.slots.size ≤ ((0 : Int32)).toNatClampNeg) := inb_of S5 ⟨by decide, by decide⟩
  refine own_go (fun _ => X2.iaload hx (j := (0 : Int32)) (v := (.int v0)) (by rw [e2]; exact Ar5.1) (State.isArrayOf_alike hZ.alike Ar5.2.1) Ar5.2.2 hin5 (H5.at hin5 rfl) (g := (mkF m 30 #[.val (.ref a1), .val (.ref ar), .val (.int (0 : Int32)), .val (.ref ar), .val (.int (5 : Int32)), .val (.int (0 : Int32)), .unset] [(.int (0 : Int32)), (.ref ar)])) rfl rfl (hb hby d2_30) _) ?_
  show own_G p e below Φ T2 (mkF m 31 #[.val (.ref a1), .val (.ref ar), .val (.int (0 : Int32)), .val (.ref ar), .val (.int (5 : Int32)), .val (.int (0 : Int32)), .unset] [(.int v0)])
  refine own_go (fun _ => XS.istore X2.here hx rfl (hb hby d2_31) rfl (l' := #[.val (.ref a1), .val (.ref ar), .val (.int (0 : Int32)), .val (.ref ar), .val (.int (5 : Int32)), .val (.int (0 : Int32)), .val (.int v0)]) rfl) ?_
  show own_G p e below Φ T2 (mkF m 33 #[.val (.ref a1), .val (.ref ar), .val (.int (0 : Int32)), .val (.ref ar), .val (.int (5 : Int32)), .val (.int (0 : Int32)), .val (.int v0)] [])
  refine own_go (fun _ => XS.iloadN X2.here hx rfl (hb hby d2_33) rfl) ?_
  show own_G p e below Φ T2 (mkF m 34 #[.val (.ref a1), .val (.ref ar), .val (.int (0 : Int32)), .val (.ref ar), .val (.int (5 : Int32)), .val (.int (0 : Int32)), .val (.int v0)] [(.int (0 : Int32))])
  refine own_go (fun _ => XS.iload X2.here hx rfl (hb hby d2_34) rfl) ?_
  show own_G p e below Φ T2 (mkF m 36 #[.val (.ref a1), .val (.ref ar), .val (.int (0 : Int32)), .val (.ref ar), .val (.int (5 : Int32)), .val (.int (0 : Int32)), .val (.int v0)] [(.int v0), (.int (0 : Int32))])
  refine own_go (fun _ => XS.iconst X2.here hx rfl (hb hby d2_36)) ?_
  show own_G p e below Φ T2 (mkF m 37 #[.val (.ref a1), .val (.ref ar), .val (.int (0 : Int32)), .val (.ref ar), .val (.int (5 : Int32)), .val (.int (0 : Int32)), .val (.int v0)] [(.int (1 : Int32)), (.int v0), (.int (0 : Int32))])
  refine own_go (fun _ => XS.iadd X2.here hx rfl (hb hby d2_37) rfl) ?_
  show own_G p e below Φ T2 (mkF m 38 #[.val (.ref a1), .val (.ref ar), .val (.int (0 : Int32)), .val (.ref ar), .val (.int (5 : Int32)), .val (.int (0 : Int32)), .val (.int v0)] [(.int (v0 + (1 : Int32))), (.int (0 : Int32))])
  obtain ⟨_, _, ⟨T6, zL6, zk6, zn6⟩, -, X6, ⟨Lc6, hQ6, l6, y6, z6⟩, st6⟩ := Jvm.LawKit.callS X2 hx (y := (⟨"java/lang/Math", "max", "(II)I"⟩ : MethodName)) hown (mvT hZ (wd_28 hw)) (mvT hZ (wd_2 hw)) (mvT hZ (wd_3 hw)) (mvT hZ (wd_4 hw)) (by decide) (backOf (W := 0) (rmM l Z a0 hw [] (0 : Int32) (v0 + (1 : Int32)) h2 n0 Zp2 ) hZ (wd_4 hw) (wd_3 hw) (by decide) (by decide)) (g := (mkF m 38 #[.val (.ref a1), .val (.ref ar), .val (.int (0 : Int32)), .val (.ref ar), .val (.int (5 : Int32)), .val (.int (0 : Int32)), .val (.int v0)] [(.int (v0 + (1 : Int32))), (.int (0 : Int32))])) rfl (by rw [hml]; rfl) (argsL := [(.int (0 : Int32)), (.int (v0 + (1 : Int32)))]) (rest := []) (lenOf pd_0 rfl) rfl (by show 2 * 0 + _ ≤ _; exact Nat.le_of_eq rfl) (hb hby d2_38) (fun _ _ => ⟨rfl, e2, (by decide : 0 + 0 ≤ _), (by decide : 0 + 0 ≤ _)⟩)
  dsimp only [Pt.U, Pt.locs, Pt.cells, Pt.slots] at X6 l6 y6 z6 st6 hQ6
  subst l6 y6 z6
  obtain ⟨rfl, N6q, hs6⟩ := hQ6
  have N6 := Fr.app N2 N6q
  refine own_go st6 ?_
  show own_G p e below Φ T6 (mkF m 41 #[.val (.ref a1), .val (.ref ar), .val (.int (0 : Int32)), .val (.ref ar), .val (.int (5 : Int32)), .val (.int (0 : Int32)), .val (.int v0)] [(.int (own_max (0 : Int32) (v0 + (1 : Int32))))])
  refine own_go (fun _ => XS.istoreN X6.here hx rfl (hb hby d2_41) rfl (l' := #[.val (.ref a1), .val (.ref ar), .val (.int (own_max (0 : Int32) (v0 + (1 : Int32)))), .val (.ref ar), .val (.int (5 : Int32)), .val (.int (0 : Int32)), .val (.int v0)]) rfl) ?_
  show own_G p e below Φ T6 (mkF m 42 #[.val (.ref a1), .val (.ref ar), .val (.int (own_max (0 : Int32) (v0 + (1 : Int32)))), .val (.ref ar), .val (.int (5 : Int32)), .val (.int (0 : Int32)), .val (.int v0)] [])
  refine own_go (fun _ => XS.iinc X6.here hx rfl (hb hby d2_42) rfl (l' := #[.val (.ref a1), .val (.ref ar), .val (.int (own_max (0 : Int32) (v0 + (1 : Int32)))), .val (.ref ar), .val (.int (5 : Int32)), .val (.int (1 : Int32)), .val (.int v0)]) rfl) ?_
  show own_G p e below Φ T6 (mkF m 45 #[.val (.ref a1), .val (.ref ar), .val (.int (own_max (0 : Int32) (v0 + (1 : Int32)))), .val (.ref ar), .val (.int (5 : Int32)), .val (.int (1 : Int32)), .val (.int v0)] [])
  refine own_go (fun _ => XS.goto X6.here hx rfl (pc0 := 45) (pc' := 20) rfl (hb hby d2_45) (by decide) (by decide)) ?_
  show own_G p e below Φ T6 (mkF m 20 #[.val (.ref a1), .val (.ref ar), .val (.int (own_max (0 : Int32) (v0 + (1 : Int32)))), .val (.ref ar), .val (.int (5 : Int32)), .val (.int (1 : Int32)), .val (.int v0)] [])
  refine own_go (fun _ => XS.iload X6.here hx rfl (hb hby d2_20) rfl) ?_
  show own_G p e below Φ T6 (mkF m 22 #[.val (.ref a1), .val (.ref ar), .val (.int (own_max (0 : Int32) (v0 + (1 : Int32)))), .val (.ref ar), .val (.int (5 : Int32)), .val (.int (1 : Int32)), .val (.int v0)] [(.int (1 : Int32))])
  refine own_go (fun _ => XS.iload X6.here hx rfl (hb hby d2_22) rfl) ?_
  show own_G p e below Φ T6 (mkF m 24 #[.val (.ref a1), .val (.ref ar), .val (.int (own_max (0 : Int32) (v0 + (1 : Int32)))), .val (.ref ar), .val (.int (5 : Int32)), .val (.int (1 : Int32)), .val (.int v0)] [(.int (5 : Int32)), (.int (1 : Int32))])
  refine own_go (fun _ => XS.icmpNo X6.here hx rfl (hb hby d2_24) rfl (Jvm.Free.XT.ii_ge_f (by decide : ((1 : Int32) < (5 : Int32))))) ?_
  show own_G p e below Φ T6 (mkF m 27 #[.val (.ref a1), .val (.ref ar), .val (.int (own_max (0 : Int32) (v0 + (1 : Int32)))), .val (.ref ar), .val (.int (5 : Int32)), .val (.int (1 : Int32)), .val (.int v0)] [])
  refine own_go (fun _ => XS.aloadN X6.here hx rfl (hb hby d2_27) rfl rfl) ?_
  show own_G p e below Φ T6 (mkF m 28 #[.val (.ref a1), .val (.ref ar), .val (.int (own_max (0 : Int32) (v0 + (1 : Int32)))), .val (.ref ar), .val (.int (5 : Int32)), .val (.int (1 : Int32)), .val (.int v0)] [(.ref ar)])
  refine own_go (fun _ => XS.iload X6.here hx rfl (hb hby d2_28) rfl) ?_
  show own_G p e below Φ T6 (mkF m 30 #[.val (.ref a1), .val (.ref ar), .val (.int (own_max (0 : Int32) (v0 + (1 : Int32)))), .val (.ref ar), .val (.int (5 : Int32)), .val (.int (1 : Int32)), .val (.int v0)] [(.int (1 : Int32)), (.ref ar)])
  obtain ⟨cl7, Ar7, q7, S7, M7, H7, G7⟩ := id f3
  have hin7 : ¬ ((1 : Int32) < 0 ∨ cl7.slots.size ≤ ((1 : Int32)).toNatClampNeg) := inb_of S7 ⟨by decide, by decide⟩
  refine own_go (fun _ => X6.iaload hx (j := (1 : Int32)) (v := (.int v1)) (by rw [hs6]; exact Ar7.1) (State.isArrayOf_alike hZ.alike Ar7.2.1) Ar7.2.2 hin7 (H7.at hin7 rfl) (g := (mkF m 30 #[.val (.ref a1), .val (.ref ar), .val (.int (own_max (0 : Int32) (v0 + (1 : Int32)))), .val (.ref ar), .val (.int (5 : Int32)), .val (.int (1 : Int32)), .val (.int v0)] [(.int (1 : Int32)), (.ref ar)])) rfl rfl (hb hby d2_30) _) ?_
  show own_G p e below Φ T6 (mkF m 31 #[.val (.ref a1), .val (.ref ar), .val (.int (own_max (0 : Int32) (v0 + (1 : Int32)))), .val (.ref ar), .val (.int (5 : Int32)), .val (.int (1 : Int32)), .val (.int v0)] [(.int v1)])
  refine own_go (fun _ => XS.istore X6.here hx rfl (hb hby d2_31) rfl (l' := #[.val (.ref a1), .val (.ref ar), .val (.int (own_max (0 : Int32) (v0 + (1 : Int32)))), .val (.ref ar), .val (.int (5 : Int32)), .val (.int (1 : Int32)), .val (.int v1)]) rfl) ?_
  show own_G p e below Φ T6 (mkF m 33 #[.val (.ref a1), .val (.ref ar), .val (.int (own_max (0 : Int32) (v0 + (1 : Int32)))), .val (.ref ar), .val (.int (5 : Int32)), .val (.int (1 : Int32)), .val (.int v1)] [])
  refine own_go (fun _ => XS.iloadN X6.here hx rfl (hb hby d2_33) rfl) ?_
  show own_G p e below Φ T6 (mkF m 34 #[.val (.ref a1), .val (.ref ar), .val (.int (own_max (0 : Int32) (v0 + (1 : Int32)))), .val (.ref ar), .val (.int (5 : Int32)), .val (.int (1 : Int32)), .val (.int v1)] [(.int (own_max (0 : Int32) (v0 + (1 : Int32))))])
  refine own_go (fun _ => XS.iload X6.here hx rfl (hb hby d2_34) rfl) ?_
  show own_G p e below Φ T6 (mkF m 36 #[.val (.ref a1), .val (.ref ar), .val (.int (own_max (0 : Int32) (v0 + (1 : Int32)))), .val (.ref ar), .val (.int (5 : Int32)), .val (.int (1 : Int32)), .val (.int v1)] [(.int v1), (.int (own_max (0 : Int32) (v0 + (1 : Int32))))])
  refine own_go (fun _ => XS.iconst X6.here hx rfl (hb hby d2_36)) ?_
  show own_G p e below Φ T6 (mkF m 37 #[.val (.ref a1), .val (.ref ar), .val (.int (own_max (0 : Int32) (v0 + (1 : Int32)))), .val (.ref ar), .val (.int (5 : Int32)), .val (.int (1 : Int32)), .val (.int v1)] [(.int (1 : Int32)), (.int v1), (.int (own_max (0 : Int32) (v0 + (1 : Int32))))])
  refine own_go (fun _ => XS.iadd X6.here hx rfl (hb hby d2_37) rfl) ?_
  show own_G p e below Φ T6 (mkF m 38 #[.val (.ref a1), .val (.ref ar), .val (.int (own_max (0 : Int32) (v0 + (1 : Int32)))), .val (.ref ar), .val (.int (5 : Int32)), .val (.int (1 : Int32)), .val (.int v1)] [(.int (v1 + (1 : Int32))), (.int (own_max (0 : Int32) (v0 + (1 : Int32))))])
  obtain ⟨_, _, ⟨T8, zL8, zk8, zn8⟩, -, X8, ⟨Lc8, hQ8, l8, y8, z8⟩, st8⟩ := Jvm.LawKit.callS X6 hx (y := (⟨"java/lang/Math", "max", "(II)I"⟩ : MethodName)) hown (mvT hZ (wd_28 hw)) (mvT hZ (wd_2 hw)) (mvT hZ (wd_3 hw)) (mvT hZ (wd_4 hw)) (by decide) (backOf (W := 0) (rmM l Z a0 hw [] (own_max (0 : Int32) (v0 + (1 : Int32))) (v1 + (1 : Int32)) h2 n0 Zp2 ) hZ (wd_4 hw) (wd_3 hw) (by decide) (by decide)) (g := (mkF m 38 #[.val (.ref a1), .val (.ref ar), .val (.int (own_max (0 : Int32) (v0 + (1 : Int32)))), .val (.ref ar), .val (.int (5 : Int32)), .val (.int (1 : Int32)), .val (.int v1)] [(.int (v1 + (1 : Int32))), (.int (own_max (0 : Int32) (v0 + (1 : Int32))))])) rfl (by rw [hml]; rfl) (argsL := [(.int (own_max (0 : Int32) (v0 + (1 : Int32)))), (.int (v1 + (1 : Int32)))]) (rest := []) (lenOf pd_0 rfl) rfl (by show 2 * 0 + _ ≤ _; exact Nat.le_of_eq rfl) (hb hby d2_38) (fun _ _ => ⟨rfl, hs6, (by decide : 0 + 0 ≤ _), (by decide : 0 + 0 ≤ _)⟩)
  dsimp only [Pt.U, Pt.locs, Pt.cells, Pt.slots] at X8 l8 y8 z8 st8 hQ8
  subst l8 y8 z8
  obtain ⟨rfl, N8q, hs8⟩ := hQ8
  have N8 := Fr.app N6 N8q
  refine own_go st8 ?_
  show own_G p e below Φ T8 (mkF m 41 #[.val (.ref a1), .val (.ref ar), .val (.int (own_max (0 : Int32) (v0 + (1 : Int32)))), .val (.ref ar), .val (.int (5 : Int32)), .val (.int (1 : Int32)), .val (.int v1)] [(.int (own_max (own_max (0 : Int32) (v0 + (1 : Int32))) (v1 + (1 : Int32))))])
  refine own_go (fun _ => XS.istoreN X8.here hx rfl (hb hby d2_41) rfl (l' := #[.val (.ref a1), .val (.ref ar), .val (.int (own_max (own_max (0 : Int32) (v0 + (1 : Int32))) (v1 + (1 : Int32)))), .val (.ref ar), .val (.int (5 : Int32)), .val (.int (1 : Int32)), .val (.int v1)]) rfl) ?_
  show own_G p e below Φ T8 (mkF m 42 #[.val (.ref a1), .val (.ref ar), .val (.int (own_max (own_max (0 : Int32) (v0 + (1 : Int32))) (v1 + (1 : Int32)))), .val (.ref ar), .val (.int (5 : Int32)), .val (.int (1 : Int32)), .val (.int v1)] [])
  refine own_go (fun _ => XS.iinc X8.here hx rfl (hb hby d2_42) rfl (l' := #[.val (.ref a1), .val (.ref ar), .val (.int (own_max (own_max (0 : Int32) (v0 + (1 : Int32))) (v1 + (1 : Int32)))), .val (.ref ar), .val (.int (5 : Int32)), .val (.int (2 : Int32)), .val (.int v1)]) rfl) ?_
  show own_G p e below Φ T8 (mkF m 45 #[.val (.ref a1), .val (.ref ar), .val (.int (own_max (own_max (0 : Int32) (v0 + (1 : Int32))) (v1 + (1 : Int32)))), .val (.ref ar), .val (.int (5 : Int32)), .val (.int (2 : Int32)), .val (.int v1)] [])
  refine own_go (fun _ => XS.goto X8.here hx rfl (pc0 := 45) (pc' := 20) rfl (hb hby d2_45) (by decide) (by decide)) ?_
  show own_G p e below Φ T8 (mkF m 20 #[.val (.ref a1), .val (.ref ar), .val (.int (own_max (own_max (0 : Int32) (v0 + (1 : Int32))) (v1 + (1 : Int32)))), .val (.ref ar), .val (.int (5 : Int32)), .val (.int (2 : Int32)), .val (.int v1)] [])
  refine own_go (fun _ => XS.iload X8.here hx rfl (hb hby d2_20) rfl) ?_
  show own_G p e below Φ T8 (mkF m 22 #[.val (.ref a1), .val (.ref ar), .val (.int (own_max (own_max (0 : Int32) (v0 + (1 : Int32))) (v1 + (1 : Int32)))), .val (.ref ar), .val (.int (5 : Int32)), .val (.int (2 : Int32)), .val (.int v1)] [(.int (2 : Int32))])
  refine own_go (fun _ => XS.iload X8.here hx rfl (hb hby d2_22) rfl) ?_
  show own_G p e below Φ T8 (mkF m 24 #[.val (.ref a1), .val (.ref ar), .val (.int (own_max (own_max (0 : Int32) (v0 + (1 : Int32))) (v1 + (1 : Int32)))), .val (.ref ar), .val (.int (5 : Int32)), .val (.int (2 : Int32)), .val (.int v1)] [(.int (5 : Int32)), (.int (2 : Int32))])
  refine own_go (fun _ => XS.icmpNo X8.here hx rfl (hb hby d2_24) rfl (Jvm.Free.XT.ii_ge_f (by decide : ((2 : Int32) < (5 : Int32))))) ?_
  show own_G p e below Φ T8 (mkF m 27 #[.val (.ref a1), .val (.ref ar), .val (.int (own_max (own_max (0 : Int32) (v0 + (1 : Int32))) (v1 + (1 : Int32)))), .val (.ref ar), .val (.int (5 : Int32)), .val (.int (2 : Int32)), .val (.int v1)] [])
  refine own_go (fun _ => XS.aloadN X8.here hx rfl (hb hby d2_27) rfl rfl) ?_
  show own_G p e below Φ T8 (mkF m 28 #[.val (.ref a1), .val (.ref ar), .val (.int (own_max (own_max (0 : Int32) (v0 + (1 : Int32))) (v1 + (1 : Int32)))), .val (.ref ar), .val (.int (5 : Int32)), .val (.int (2 : Int32)), .val (.int v1)] [(.ref ar)])
  refine own_go (fun _ => XS.iload X8.here hx rfl (hb hby d2_28) rfl) ?_
  show own_G p e below Φ T8 (mkF m 30 #[.val (.ref a1), .val (.ref ar), .val (.int (own_max (own_max (0 : Int32) (v0 + (1 : Int32))) (v1 + (1 : Int32)))), .val (.ref ar), .val (.int (5 : Int32)), .val (.int (2 : Int32)), .val (.int v1)] [(.int (2 : Int32)), (.ref ar)])
  obtain ⟨cl9, Ar9, q9, S9, M9, H9, G9⟩ := id f3
  have hin9 : ¬ ((2 : Int32) < 0 ∨ cl9.slots.size ≤ ((2 : Int32)).toNatClampNeg) := inb_of S9 ⟨by decide, by decide⟩
  refine own_go (fun _ => X8.iaload hx (j := (2 : Int32)) (v := (.int v2)) (by rw [hs8]; exact Ar9.1) (State.isArrayOf_alike hZ.alike Ar9.2.1) Ar9.2.2 hin9 (H9.at hin9 rfl) (g := (mkF m 30 #[.val (.ref a1), .val (.ref ar), .val (.int (own_max (own_max (0 : Int32) (v0 + (1 : Int32))) (v1 + (1 : Int32)))), .val (.ref ar), .val (.int (5 : Int32)), .val (.int (2 : Int32)), .val (.int v1)] [(.int (2 : Int32)), (.ref ar)])) rfl rfl (hb hby d2_30) _) ?_
  show own_G p e below Φ T8 (mkF m 31 #[.val (.ref a1), .val (.ref ar), .val (.int (own_max (own_max (0 : Int32) (v0 + (1 : Int32))) (v1 + (1 : Int32)))), .val (.ref ar), .val (.int (5 : Int32)), .val (.int (2 : Int32)), .val (.int v1)] [(.int v2)])
  refine own_go (fun _ => XS.istore X8.here hx rfl (hb hby d2_31) rfl (l' := #[.val (.ref a1), .val (.ref ar), .val (.int (own_max (own_max (0 : Int32) (v0 + (1 : Int32))) (v1 + (1 : Int32)))), .val (.ref ar), .val (.int (5 : Int32)), .val (.int (2 : Int32)), .val (.int v2)]) rfl) ?_
  show own_G p e below Φ T8 (mkF m 33 #[.val (.ref a1), .val (.ref ar), .val (.int (own_max (own_max (0 : Int32) (v0 + (1 : Int32))) (v1 + (1 : Int32)))), .val (.ref ar), .val (.int (5 : Int32)), .val (.int (2 : Int32)), .val (.int v2)] [])
  refine own_go (fun _ => XS.iloadN X8.here hx rfl (hb hby d2_33) rfl) ?_
  show own_G p e below Φ T8 (mkF m 34 #[.val (.ref a1), .val (.ref ar), .val (.int (own_max (own_max (0 : Int32) (v0 + (1 : Int32))) (v1 + (1 : Int32)))), .val (.ref ar), .val (.int (5 : Int32)), .val (.int (2 : Int32)), .val (.int v2)] [(.int (own_max (own_max (0 : Int32) (v0 + (1 : Int32))) (v1 + (1 : Int32))))])
  refine own_go (fun _ => XS.iload X8.here hx rfl (hb hby d2_34) rfl) ?_
  show own_G p e below Φ T8 (mkF m 36 #[.val (.ref a1), .val (.ref ar), .val (.int (own_max (own_max (0 : Int32) (v0 + (1 : Int32))) (v1 + (1 : Int32)))), .val (.ref ar), .val (.int (5 : Int32)), .val (.int (2 : Int32)), .val (.int v2)] [(.int v2), (.int (own_max (own_max (0 : Int32) (v0 + (1 : Int32))) (v1 + (1 : Int32))))])
  refine own_go (fun _ => XS.iconst X8.here hx rfl (hb hby d2_36)) ?_
  show own_G p e below Φ T8 (mkF m 37 #[.val (.ref a1), .val (.ref ar), .val (.int (own_max (own_max (0 : Int32) (v0 + (1 : Int32))) (v1 + (1 : Int32)))), .val (.ref ar), .val (.int (5 : Int32)), .val (.int (2 : Int32)), .val (.int v2)] [(.int (1 : Int32)), (.int v2), (.int (own_max (own_max (0 : Int32) (v0 + (1 : Int32))) (v1 + (1 : Int32))))])
  refine own_go (fun _ => XS.iadd X8.here hx rfl (hb hby d2_37) rfl) ?_
  show own_G p e below Φ T8 (mkF m 38 #[.val (.ref a1), .val (.ref ar), .val (.int (own_max (own_max (0 : Int32) (v0 + (1 : Int32))) (v1 + (1 : Int32)))), .val (.ref ar), .val (.int (5 : Int32)), .val (.int (2 : Int32)), .val (.int v2)] [(.int (v2 + (1 : Int32))), (.int (own_max (own_max (0 : Int32) (v0 + (1 : Int32))) (v1 + (1 : Int32))))])
  obtain ⟨_, _, ⟨T10, zL10, zk10, zn10⟩, -, X10, ⟨Lc10, hQ10, l10, y10, z10⟩, st10⟩ := Jvm.LawKit.callS X8 hx (y := (⟨"java/lang/Math", "max", "(II)I"⟩ : MethodName)) hown (mvT hZ (wd_28 hw)) (mvT hZ (wd_2 hw)) (mvT hZ (wd_3 hw)) (mvT hZ (wd_4 hw)) (by decide) (backOf (W := 0) (rmM l Z a0 hw [] (own_max (own_max (0 : Int32) (v0 + (1 : Int32))) (v1 + (1 : Int32))) (v2 + (1 : Int32)) h2 n0 Zp2 ) hZ (wd_4 hw) (wd_3 hw) (by decide) (by decide)) (g := (mkF m 38 #[.val (.ref a1), .val (.ref ar), .val (.int (own_max (own_max (0 : Int32) (v0 + (1 : Int32))) (v1 + (1 : Int32)))), .val (.ref ar), .val (.int (5 : Int32)), .val (.int (2 : Int32)), .val (.int v2)] [(.int (v2 + (1 : Int32))), (.int (own_max (own_max (0 : Int32) (v0 + (1 : Int32))) (v1 + (1 : Int32))))])) rfl (by rw [hml]; rfl) (argsL := [(.int (own_max (own_max (0 : Int32) (v0 + (1 : Int32))) (v1 + (1 : Int32)))), (.int (v2 + (1 : Int32)))]) (rest := []) (lenOf pd_0 rfl) rfl (by show 2 * 0 + _ ≤ _; exact Nat.le_of_eq rfl) (hb hby d2_38) (fun _ _ => ⟨rfl, hs8, (by decide : 0 + 0 ≤ _), (by decide : 0 + 0 ≤ _)⟩)
  dsimp only [Pt.U, Pt.locs, Pt.cells, Pt.slots] at X10 l10 y10 z10 st10 hQ10
  subst l10 y10 z10
  obtain ⟨rfl, N10q, hs10⟩ := hQ10
  have N10 := Fr.app N8 N10q
  refine own_go st10 ?_
  show own_G p e below Φ T10 (mkF m 41 #[.val (.ref a1), .val (.ref ar), .val (.int (own_max (own_max (0 : Int32) (v0 + (1 : Int32))) (v1 + (1 : Int32)))), .val (.ref ar), .val (.int (5 : Int32)), .val (.int (2 : Int32)), .val (.int v2)] [(.int (own_max (own_max (own_max (0 : Int32) (v0 + (1 : Int32))) (v1 + (1 : Int32))) (v2 + (1 : Int32))))])
  refine own_go (fun _ => XS.istoreN X10.here hx rfl (hb hby d2_41) rfl (l' := #[.val (.ref a1), .val (.ref ar), .val (.int (own_max (own_max (own_max (0 : Int32) (v0 + (1 : Int32))) (v1 + (1 : Int32))) (v2 + (1 : Int32)))), .val (.ref ar), .val (.int (5 : Int32)), .val (.int (2 : Int32)), .val (.int v2)]) rfl) ?_
  show own_G p e below Φ T10 (mkF m 42 #[.val (.ref a1), .val (.ref ar), .val (.int (own_max (own_max (own_max (0 : Int32) (v0 + (1 : Int32))) (v1 + (1 : Int32))) (v2 + (1 : Int32)))), .val (.ref ar), .val (.int (5 : Int32)), .val (.int (2 : Int32)), .val (.int v2)] [])
  refine own_go (fun _ => XS.iinc X10.here hx rfl (hb hby d2_42) rfl (l' := #[.val (.ref a1), .val (.ref ar), .val (.int (own_max (own_max (own_max (0 : Int32) (v0 + (1 : Int32))) (v1 + (1 : Int32))) (v2 + (1 : Int32)))), .val (.ref ar), .val (.int (5 : Int32)), .val (.int (3 : Int32)), .val (.int v2)]) rfl) ?_
  show own_G p e below Φ T10 (mkF m 45 #[.val (.ref a1), .val (.ref ar), .val (.int (own_max (own_max (own_max (0 : Int32) (v0 + (1 : Int32))) (v1 + (1 : Int32))) (v2 + (1 : Int32)))), .val (.ref ar), .val (.int (5 : Int32)), .val (.int (3 : Int32)), .val (.int v2)] [])
  refine own_go (fun _ => XS.goto X10.here hx rfl (pc0 := 45) (pc' := 20) rfl (hb hby d2_45) (by decide) (by decide)) ?_
  show own_G p e below Φ T10 (mkF m 20 #[.val (.ref a1), .val (.ref ar), .val (.int (own_max (own_max (own_max (0 : Int32) (v0 + (1 : Int32))) (v1 + (1 : Int32))) (v2 + (1 : Int32)))), .val (.ref ar), .val (.int (5 : Int32)), .val (.int (3 : Int32)), .val (.int v2)] [])
  refine own_go (fun _ => XS.iload X10.here hx rfl (hb hby d2_20) rfl) ?_
  show own_G p e below Φ T10 (mkF m 22 #[.val (.ref a1), .val (.ref ar), .val (.int (own_max (own_max (own_max (0 : Int32) (v0 + (1 : Int32))) (v1 + (1 : Int32))) (v2 + (1 : Int32)))), .val (.ref ar), .val (.int (5 : Int32)), .val (.int (3 : Int32)), .val (.int v2)] [(.int (3 : Int32))])
  refine own_go (fun _ => XS.iload X10.here hx rfl (hb hby d2_22) rfl) ?_
  show own_G p e below Φ T10 (mkF m 24 #[.val (.ref a1), .val (.ref ar), .val (.int (own_max (own_max (own_max (0 : Int32) (v0 + (1 : Int32))) (v1 + (1 : Int32))) (v2 + (1 : Int32)))), .val (.ref ar), .val (.int (5 : Int32)), .val (.int (3 : Int32)), .val (.int v2)] [(.int (5 : Int32)), (.int (3 : Int32))])
  refine own_go (fun _ => XS.icmpNo X10.here hx rfl (hb hby d2_24) rfl (Jvm.Free.XT.ii_ge_f (by decide : ((3 : Int32) < (5 : Int32))))) ?_
  show own_G p e below Φ T10 (mkF m 27 #[.val (.ref a1), .val (.ref ar), .val (.int (own_max (own_max (own_max (0 : Int32) (v0 + (1 : Int32))) (v1 + (1 : Int32))) (v2 + (1 : Int32)))), .val (.ref ar), .val (.int (5 : Int32)), .val (.int (3 : Int32)), .val (.int v2)] [])
  refine own_go (fun _ => XS.aloadN X10.here hx rfl (hb hby d2_27) rfl rfl) ?_
  show own_G p e below Φ T10 (mkF m 28 #[.val (.ref a1), .val (.ref ar), .val (.int (own_max (own_max (own_max (0 : Int32) (v0 + (1 : Int32))) (v1 + (1 : Int32))) (v2 + (1 : Int32)))), .val (.ref ar), .val (.int (5 : Int32)), .val (.int (3 : Int32)), .val (.int v2)] [(.ref ar)])
  refine own_go (fun _ => XS.iload X10.here hx rfl (hb hby d2_28) rfl) ?_
  show own_G p e below Φ T10 (mkF m 30 #[.val (.ref a1), .val (.ref ar), .val (.int (own_max (own_max (own_max (0 : Int32) (v0 + (1 : Int32))) (v1 + (1 : Int32))) (v2 + (1 : Int32)))), .val (.ref ar), .val (.int (5 : Int32)), .val (.int (3 : Int32)), .val (.int v2)] [(.int (3 : Int32)), (.ref ar)])
  obtain ⟨cl11, Ar11, q11, S11, M11, H11, G11⟩ := id f3
  have hin11 : ¬ ((3 : Int32) < 0 ∨ cl11.slots.size ≤ ((3 : Int32)).toNatClampNeg) := inb_of S11 ⟨by decide, by decide⟩
  refine own_go (fun _ => X10.iaload hx (j := (3 : Int32)) (v := (.int v3)) (by rw [hs10]; exact Ar11.1) (State.isArrayOf_alike hZ.alike Ar11.2.1) Ar11.2.2 hin11 (H11.at hin11 rfl) (g := (mkF m 30 #[.val (.ref a1), .val (.ref ar), .val (.int (own_max (own_max (own_max (0 : Int32) (v0 + (1 : Int32))) (v1 + (1 : Int32))) (v2 + (1 : Int32)))), .val (.ref ar), .val (.int (5 : Int32)), .val (.int (3 : Int32)), .val (.int v2)] [(.int (3 : Int32)), (.ref ar)])) rfl rfl (hb hby d2_30) _) ?_
  show own_G p e below Φ T10 (mkF m 31 #[.val (.ref a1), .val (.ref ar), .val (.int (own_max (own_max (own_max (0 : Int32) (v0 + (1 : Int32))) (v1 + (1 : Int32))) (v2 + (1 : Int32)))), .val (.ref ar), .val (.int (5 : Int32)), .val (.int (3 : Int32)), .val (.int v2)] [(.int v3)])
  refine own_go (fun _ => XS.istore X10.here hx rfl (hb hby d2_31) rfl (l' := #[.val (.ref a1), .val (.ref ar), .val (.int (own_max (own_max (own_max (0 : Int32) (v0 + (1 : Int32))) (v1 + (1 : Int32))) (v2 + (1 : Int32)))), .val (.ref ar), .val (.int (5 : Int32)), .val (.int (3 : Int32)), .val (.int v3)]) rfl) ?_
  show own_G p e below Φ T10 (mkF m 33 #[.val (.ref a1), .val (.ref ar), .val (.int (own_max (own_max (own_max (0 : Int32) (v0 + (1 : Int32))) (v1 + (1 : Int32))) (v2 + (1 : Int32)))), .val (.ref ar), .val (.int (5 : Int32)), .val (.int (3 : Int32)), .val (.int v3)] [])
  refine own_go (fun _ => XS.iloadN X10.here hx rfl (hb hby d2_33) rfl) ?_
  show own_G p e below Φ T10 (mkF m 34 #[.val (.ref a1), .val (.ref ar), .val (.int (own_max (own_max (own_max (0 : Int32) (v0 + (1 : Int32))) (v1 + (1 : Int32))) (v2 + (1 : Int32)))), .val (.ref ar), .val (.int (5 : Int32)), .val (.int (3 : Int32)), .val (.int v3)] [(.int (own_max (own_max (own_max (0 : Int32) (v0 + (1 : Int32))) (v1 + (1 : Int32))) (v2 + (1 : Int32))))])
  refine own_go (fun _ => XS.iload X10.here hx rfl (hb hby d2_34) rfl) ?_
  show own_G p e below Φ T10 (mkF m 36 #[.val (.ref a1), .val (.ref ar), .val (.int (own_max (own_max (own_max (0 : Int32) (v0 + (1 : Int32))) (v1 + (1 : Int32))) (v2 + (1 : Int32)))), .val (.ref ar), .val (.int (5 : Int32)), .val (.int (3 : Int32)), .val (.int v3)] [(.int v3), (.int (own_max (own_max (own_max (0 : Int32) (v0 + (1 : Int32))) (v1 + (1 : Int32))) (v2 + (1 : Int32))))])
  refine own_go (fun _ => XS.iconst X10.here hx rfl (hb hby d2_36)) ?_
  show own_G p e below Φ T10 (mkF m 37 #[.val (.ref a1), .val (.ref ar), .val (.int (own_max (own_max (own_max (0 : Int32) (v0 + (1 : Int32))) (v1 + (1 : Int32))) (v2 + (1 : Int32)))), .val (.ref ar), .val (.int (5 : Int32)), .val (.int (3 : Int32)), .val (.int v3)] [(.int (1 : Int32)), (.int v3), (.int (own_max (own_max (own_max (0 : Int32) (v0 + (1 : Int32))) (v1 + (1 : Int32))) (v2 + (1 : Int32))))])
  refine own_go (fun _ => XS.iadd X10.here hx rfl (hb hby d2_37) rfl) ?_
  show own_G p e below Φ T10 (mkF m 38 #[.val (.ref a1), .val (.ref ar), .val (.int (own_max (own_max (own_max (0 : Int32) (v0 + (1 : Int32))) (v1 + (1 : Int32))) (v2 + (1 : Int32)))), .val (.ref ar), .val (.int (5 : Int32)), .val (.int (3 : Int32)), .val (.int v3)] [(.int (v3 + (1 : Int32))), (.int (own_max (own_max (own_max (0 : Int32) (v0 + (1 : Int32))) (v1 + (1 : Int32))) (v2 + (1 : Int32))))])
  obtain ⟨_, _, ⟨T12, zL12, zk12, zn12⟩, -, X12, ⟨Lc12, hQ12, l12, y12, z12⟩, st12⟩ := Jvm.LawKit.callS X10 hx (y := (⟨"java/lang/Math", "max", "(II)I"⟩ : MethodName)) hown (mvT hZ (wd_28 hw)) (mvT hZ (wd_2 hw)) (mvT hZ (wd_3 hw)) (mvT hZ (wd_4 hw)) (by decide) (backOf (W := 0) (rmM l Z a0 hw [] (own_max (own_max (own_max (0 : Int32) (v0 + (1 : Int32))) (v1 + (1 : Int32))) (v2 + (1 : Int32))) (v3 + (1 : Int32)) h2 n0 Zp2 ) hZ (wd_4 hw) (wd_3 hw) (by decide) (by decide)) (g := (mkF m 38 #[.val (.ref a1), .val (.ref ar), .val (.int (own_max (own_max (own_max (0 : Int32) (v0 + (1 : Int32))) (v1 + (1 : Int32))) (v2 + (1 : Int32)))), .val (.ref ar), .val (.int (5 : Int32)), .val (.int (3 : Int32)), .val (.int v3)] [(.int (v3 + (1 : Int32))), (.int (own_max (own_max (own_max (0 : Int32) (v0 + (1 : Int32))) (v1 + (1 : Int32))) (v2 + (1 : Int32))))])) rfl (by rw [hml]; rfl) (argsL := [(.int (own_max (own_max (own_max (0 : Int32) (v0 + (1 : Int32))) (v1 + (1 : Int32))) (v2 + (1 : Int32)))), (.int (v3 + (1 : Int32)))]) (rest := []) (lenOf pd_0 rfl) rfl (by show 2 * 0 + _ ≤ _; exact Nat.le_of_eq rfl) (hb hby d2_38) (fun _ _ => ⟨rfl, hs10, (by decide : 0 + 0 ≤ _), (by decide : 0 + 0 ≤ _)⟩)
  dsimp only [Pt.U, Pt.locs, Pt.cells, Pt.slots] at X12 l12 y12 z12 st12 hQ12
  subst l12 y12 z12
  obtain ⟨rfl, N12q, hs12⟩ := hQ12
  have N12 := Fr.app N10 N12q
  refine own_go st12 ?_
  show own_G p e below Φ T12 (mkF m 41 #[.val (.ref a1), .val (.ref ar), .val (.int (own_max (own_max (own_max (0 : Int32) (v0 + (1 : Int32))) (v1 + (1 : Int32))) (v2 + (1 : Int32)))), .val (.ref ar), .val (.int (5 : Int32)), .val (.int (3 : Int32)), .val (.int v3)] [(.int (own_max (own_max (own_max (own_max (0 : Int32) (v0 + (1 : Int32))) (v1 + (1 : Int32))) (v2 + (1 : Int32))) (v3 + (1 : Int32))))])
  refine own_go (fun _ => XS.istoreN X12.here hx rfl (hb hby d2_41) rfl (l' := #[.val (.ref a1), .val (.ref ar), .val (.int (own_max (own_max (own_max (own_max (0 : Int32) (v0 + (1 : Int32))) (v1 + (1 : Int32))) (v2 + (1 : Int32))) (v3 + (1 : Int32)))), .val (.ref ar), .val (.int (5 : Int32)), .val (.int (3 : Int32)), .val (.int v3)]) rfl) ?_
  show own_G p e below Φ T12 (mkF m 42 #[.val (.ref a1), .val (.ref ar), .val (.int (own_max (own_max (own_max (own_max (0 : Int32) (v0 + (1 : Int32))) (v1 + (1 : Int32))) (v2 + (1 : Int32))) (v3 + (1 : Int32)))), .val (.ref ar), .val (.int (5 : Int32)), .val (.int (3 : Int32)), .val (.int v3)] [])
  refine own_go (fun _ => XS.iinc X12.here hx rfl (hb hby d2_42) rfl (l' := #[.val (.ref a1), .val (.ref ar), .val (.int (own_max (own_max (own_max (own_max (0 : Int32) (v0 + (1 : Int32))) (v1 + (1 : Int32))) (v2 + (1 : Int32))) (v3 + (1 : Int32)))), .val (.ref ar), .val (.int (5 : Int32)), .val (.int (4 : Int32)), .val (.int v3)]) rfl) ?_
  show own_G p e below Φ T12 (mkF m 45 #[.val (.ref a1), .val (.ref ar), .val (.int (own_max (own_max (own_max (own_max (0 : Int32) (v0 + (1 : Int32))) (v1 + (1 : Int32))) (v2 + (1 : Int32))) (v3 + (1 : Int32)))), .val (.ref ar), .val (.int (5 : Int32)), .val (.int (4 : Int32)), .val (.int v3)] [])
  refine own_go (fun _ => XS.goto X12.here hx rfl (pc0 := 45) (pc' := 20) rfl (hb hby d2_45) (by decide) (by decide)) ?_
  show own_G p e below Φ T12 (mkF m 20 #[.val (.ref a1), .val (.ref ar), .val (.int (own_max (own_max (own_max (own_max (0 : Int32) (v0 + (1 : Int32))) (v1 + (1 : Int32))) (v2 + (1 : Int32))) (v3 + (1 : Int32)))), .val (.ref ar), .val (.int (5 : Int32)), .val (.int (4 : Int32)), .val (.int v3)] [])
  refine own_go (fun _ => XS.iload X12.here hx rfl (hb hby d2_20) rfl) ?_
  show own_G p e below Φ T12 (mkF m 22 #[.val (.ref a1), .val (.ref ar), .val (.int (own_max (own_max (own_max (own_max (0 : Int32) (v0 + (1 : Int32))) (v1 + (1 : Int32))) (v2 + (1 : Int32))) (v3 + (1 : Int32)))), .val (.ref ar), .val (.int (5 : Int32)), .val (.int (4 : Int32)), .val (.int v3)] [(.int (4 : Int32))])
  refine own_go (fun _ => XS.iload X12.here hx rfl (hb hby d2_22) rfl) ?_
  show own_G p e below Φ T12 (mkF m 24 #[.val (.ref a1), .val (.ref ar), .val (.int (own_max (own_max (own_max (own_max (0 : Int32) (v0 + (1 : Int32))) (v1 + (1 : Int32))) (v2 + (1 : Int32))) (v3 + (1 : Int32)))), .val (.ref ar), .val (.int (5 : Int32)), .val (.int (4 : Int32)), .val (.int v3)] [(.int (5 : Int32)), (.int (4 : Int32))])
  refine own_go (fun _ => XS.icmpNo X12.here hx rfl (hb hby d2_24) rfl (Jvm.Free.XT.ii_ge_f (by decide : ((4 : Int32) < (5 : Int32))))) ?_
  show own_G p e below Φ T12 (mkF m 27 #[.val (.ref a1), .val (.ref ar), .val (.int (own_max (own_max (own_max (own_max (0 : Int32) (v0 + (1 : Int32))) (v1 + (1 : Int32))) (v2 + (1 : Int32))) (v3 + (1 : Int32)))), .val (.ref ar), .val (.int (5 : Int32)), .val (.int (4 : Int32)), .val (.int v3)] [])
  refine own_go (fun _ => XS.aloadN X12.here hx rfl (hb hby d2_27) rfl rfl) ?_
  show own_G p e below Φ T12 (mkF m 28 #[.val (.ref a1), .val (.ref ar), .val (.int (own_max (own_max (own_max (own_max (0 : Int32) (v0 + (1 : Int32))) (v1 + (1 : Int32))) (v2 + (1 : Int32))) (v3 + (1 : Int32)))), .val (.ref ar), .val (.int (5 : Int32)), .val (.int (4 : Int32)), .val (.int v3)] [(.ref ar)])
  refine own_go (fun _ => XS.iload X12.here hx rfl (hb hby d2_28) rfl) ?_
  show own_G p e below Φ T12 (mkF m 30 #[.val (.ref a1), .val (.ref ar), .val (.int (own_max (own_max (own_max (own_max (0 : Int32) (v0 + (1 : Int32))) (v1 + (1 : Int32))) (v2 + (1 : Int32))) (v3 + (1 : Int32)))), .val (.ref ar), .val (.int (5 : Int32)), .val (.int (4 : Int32)), .val (.int v3)] [(.int (4 : Int32)), (.ref ar)])
  obtain ⟨cl13, Ar13, q13, S13, M13, H13, G13⟩ := id f3
  have hin13 : ¬ ((4 : Int32) < 0 ∨ cl13.slots.size ≤ ((4 : Int32)).toNatClampNeg) := inb_of S13 ⟨by decide, by decide⟩
  refine own_go (fun _ => X12.iaload hx (j := (4 : Int32)) (v := (.int v4)) (by rw [hs12]; exact Ar13.1) (State.isArrayOf_alike hZ.alike Ar13.2.1) Ar13.2.2 hin13 (H13.at hin13 rfl) (g := (mkF m 30 #[.val (.ref a1), .val (.ref ar), .val (.int (own_max (own_max (own_max (own_max (0 : Int32) (v0 + (1 : Int32))) (v1 + (1 : Int32))) (v2 + (1 : Int32))) (v3 + (1 : Int32)))), .val (.ref ar), .val (.int (5 : Int32)), .val (.int (4 : Int32)), .val (.int v3)] [(.int (4 : Int32)), (.ref ar)])) rfl rfl (hb hby d2_30) _) ?_
  show own_G p e below Φ T12 (mkF m 31 #[.val (.ref a1), .val (.ref ar), .val (.int (own_max (own_max (own_max (own_max (0 : Int32) (v0 + (1 : Int32))) (v1 + (1 : Int32))) (v2 + (1 : Int32))) (v3 + (1 : Int32)))), .val (.ref ar), .val (.int (5 : Int32)), .val (.int (4 : Int32)), .val (.int v3)] [(.int v4)])
  refine own_go (fun _ => XS.istore X12.here hx rfl (hb hby d2_31) rfl (l' := #[.val (.ref a1), .val (.ref ar), .val (.int (own_max (own_max (own_max (own_max (0 : Int32) (v0 + (1 : Int32))) (v1 + (1 : Int32))) (v2 + (1 : Int32))) (v3 + (1 : Int32)))), .val (.ref ar), .val (.int (5 : Int32)), .val (.int (4 : Int32)), .val (.int v4)]) rfl) ?_
  show own_G p e below Φ T12 (mkF m 33 #[.val (.ref a1), .val (.ref ar), .val (.int (own_max (own_max (own_max (own_max (0 : Int32) (v0 + (1 : Int32))) (v1 + (1 : Int32))) (v2 + (1 : Int32))) (v3 + (1 : Int32)))), .val (.ref ar), .val (.int (5 : Int32)), .val (.int (4 : Int32)), .val (.int v4)] [])
  refine own_go (fun _ => XS.iloadN X12.here hx rfl (hb hby d2_33) rfl) ?_
  show own_G p e below Φ T12 (mkF m 34 #[.val (.ref a1), .val (.ref ar), .val (.int (own_max (own_max (own_max (own_max (0 : Int32) (v0 + (1 : Int32))) (v1 + (1 : Int32))) (v2 + (1 : Int32))) (v3 + (1 : Int32)))), .val (.ref ar), .val (.int (5 : Int32)), .val (.int (4 : Int32)), .val (.int v4)] [(.int (own_max (own_max (own_max (own_max (0 : Int32) (v0 + (1 : Int32))) (v1 + (1 : Int32))) (v2 + (1 : Int32))) (v3 + (1 : Int32))))])
  refine own_go (fun _ => XS.iload X12.here hx rfl (hb hby d2_34) rfl) ?_
  show own_G p e below Φ T12 (mkF m 36 #[.val (.ref a1), .val (.ref ar), .val (.int (own_max (own_max (own_max (own_max (0 : Int32) (v0 + (1 : Int32))) (v1 + (1 : Int32))) (v2 + (1 : Int32))) (v3 + (1 : Int32)))), .val (.ref ar), .val (.int (5 : Int32)), .val (.int (4 : Int32)), .val (.int v4)] [(.int v4), (.int (own_max (own_max (own_max (own_max (0 : Int32) (v0 + (1 : Int32))) (v1 + (1 : Int32))) (v2 + (1 : Int32))) (v3 + (1 : Int32))))])
  refine own_go (fun _ => XS.iconst X12.here hx rfl (hb hby d2_36)) ?_
  show own_G p e below Φ T12 (mkF m 37 #[.val (.ref a1), .val (.ref ar), .val (.int (own_max (own_max (own_max (own_max (0 : Int32) (v0 + (1 : Int32))) (v1 + (1 : Int32))) (v2 + (1 : Int32))) (v3 + (1 : Int32)))), .val (.ref ar), .val (.int (5 : Int32)), .val (.int (4 : Int32)), .val (.int v4)] [(.int (1 : Int32)), (.int v4), (.int (own_max (own_max (own_max (own_max (0 : Int32) (v0 + (1 : Int32))) (v1 + (1 : Int32))) (v2 + (1 : Int32))) (v3 + (1 : Int32))))])
  refine own_go (fun _ => XS.iadd X12.here hx rfl (hb hby d2_37) rfl) ?_
  show own_G p e below Φ T12 (mkF m 38 #[.val (.ref a1), .val (.ref ar), .val (.int (own_max (own_max (own_max (own_max (0 : Int32) (v0 + (1 : Int32))) (v1 + (1 : Int32))) (v2 + (1 : Int32))) (v3 + (1 : Int32)))), .val (.ref ar), .val (.int (5 : Int32)), .val (.int (4 : Int32)), .val (.int v4)] [(.int (v4 + (1 : Int32))), (.int (own_max (own_max (own_max (own_max (0 : Int32) (v0 + (1 : Int32))) (v1 + (1 : Int32))) (v2 + (1 : Int32))) (v3 + (1 : Int32))))])
  obtain ⟨_, _, ⟨T14, zL14, zk14, zn14⟩, -, X14, ⟨Lc14, hQ14, l14, y14, z14⟩, st14⟩ := Jvm.LawKit.callS X12 hx (y := (⟨"java/lang/Math", "max", "(II)I"⟩ : MethodName)) hown (mvT hZ (wd_28 hw)) (mvT hZ (wd_2 hw)) (mvT hZ (wd_3 hw)) (mvT hZ (wd_4 hw)) (by decide) (backOf (W := 0) (rmM l Z a0 hw [] (own_max (own_max (own_max (own_max (0 : Int32) (v0 + (1 : Int32))) (v1 + (1 : Int32))) (v2 + (1 : Int32))) (v3 + (1 : Int32))) (v4 + (1 : Int32)) h2 n0 Zp2 ) hZ (wd_4 hw) (wd_3 hw) (by decide) (by decide)) (g := (mkF m 38 #[.val (.ref a1), .val (.ref ar), .val (.int (own_max (own_max (own_max (own_max (0 : Int32) (v0 + (1 : Int32))) (v1 + (1 : Int32))) (v2 + (1 : Int32))) (v3 + (1 : Int32)))), .val (.ref ar), .val (.int (5 : Int32)), .val (.int (4 : Int32)), .val (.int v4)] [(.int (v4 + (1 : Int32))), (.int (own_max (own_max (own_max (own_max (0 : Int32) (v0 + (1 : Int32))) (v1 + (1 : Int32))) (v2 + (1 : Int32))) (v3 + (1 : Int32))))])) rfl (by rw [hml]; rfl) (argsL := [(.int (own_max (own_max (own_max (own_max (0 : Int32) (v0 + (1 : Int32))) (v1 + (1 : Int32))) (v2 + (1 : Int32))) (v3 + (1 : Int32)))), (.int (v4 + (1 : Int32)))]) (rest := []) (lenOf pd_0 rfl) rfl (by show 2 * 0 + _ ≤ _; exact Nat.le_of_eq rfl) (hb hby d2_38) (fun _ _ => ⟨rfl, hs12, (by decide : 0 + 0 ≤ _), (by decide : 0 + 0 ≤ _)⟩)
  dsimp only [Pt.U, Pt.locs, Pt.cells, Pt.slots] at X14 l14 y14 z14 st14 hQ14
  subst l14 y14 z14
  obtain ⟨rfl, N14q, hs14⟩ := hQ14
  have N14 := Fr.app N12 N14q
  refine own_go st14 ?_
  show own_G p e below Φ T14 (mkF m 41 #[.val (.ref a1), .val (.ref ar), .val (.int (own_max (own_max (own_max (own_max (0 : Int32) (v0 + (1 : Int32))) (v1 + (1 : Int32))) (v2 + (1 : Int32))) (v3 + (1 : Int32)))), .val (.ref ar), .val (.int (5 : Int32)), .val (.int (4 : Int32)), .val (.int v4)] [(.int (own_max (own_max (own_max (own_max (own_max (0 : Int32) (v0 + (1 : Int32))) (v1 + (1 : Int32))) (v2 + (1 : Int32))) (v3 + (1 : Int32))) (v4 + (1 : Int32))))])
  refine own_go (fun _ => XS.istoreN X14.here hx rfl (hb hby d2_41) rfl (l' := #[.val (.ref a1), .val (.ref ar), .val (.int (own_max (own_max (own_max (own_max (own_max (0 : Int32) (v0 + (1 : Int32))) (v1 + (1 : Int32))) (v2 + (1 : Int32))) (v3 + (1 : Int32))) (v4 + (1 : Int32)))), .val (.ref ar), .val (.int (5 : Int32)), .val (.int (4 : Int32)), .val (.int v4)]) rfl) ?_
  show own_G p e below Φ T14 (mkF m 42 #[.val (.ref a1), .val (.ref ar), .val (.int (own_max (own_max (own_max (own_max (own_max (0 : Int32) (v0 + (1 : Int32))) (v1 + (1 : Int32))) (v2 + (1 : Int32))) (v3 + (1 : Int32))) (v4 + (1 : Int32)))), .val (.ref ar), .val (.int (5 : Int32)), .val (.int (4 : Int32)), .val (.int v4)] [])
  refine own_go (fun _ => XS.iinc X14.here hx rfl (hb hby d2_42) rfl (l' := #[.val (.ref a1), .val (.ref ar), .val (.int (own_max (own_max (own_max (own_max (own_max (0 : Int32) (v0 + (1 : Int32))) (v1 + (1 : Int32))) (v2 + (1 : Int32))) (v3 + (1 : Int32))) (v4 + (1 : Int32)))), .val (.ref ar), .val (.int (5 : Int32)), .val (.int (5 : Int32)), .val (.int v4)]) rfl) ?_
  show own_G p e below Φ T14 (mkF m 45 #[.val (.ref a1), .val (.ref ar), .val (.int (own_max (own_max (own_max (own_max (own_max (0 : Int32) (v0 + (1 : Int32))) (v1 + (1 : Int32))) (v2 + (1 : Int32))) (v3 + (1 : Int32))) (v4 + (1 : Int32)))), .val (.ref ar), .val (.int (5 : Int32)), .val (.int (5 : Int32)), .val (.int v4)] [])
  refine own_go (fun _ => XS.goto X14.here hx rfl (pc0 := 45) (pc' := 20) rfl (hb hby d2_45) (by decide) (by decide)) ?_
  show own_G p e below Φ T14 (mkF m 20 #[.val (.ref a1), .val (.ref ar), .val (.int (own_max (own_max (own_max (own_max (own_max (0 : Int32) (v0 + (1 : Int32))) (v1 + (1 : Int32))) (v2 + (1 : Int32))) (v3 + (1 : Int32))) (v4 + (1 : Int32)))), .val (.ref ar), .val (.int (5 : Int32)), .val (.int (5 : Int32)), .val (.int v4)] [])
  refine own_go (fun _ => XS.iload X14.here hx rfl (hb hby d2_20) rfl) ?_
  show own_G p e below Φ T14 (mkF m 22 #[.val (.ref a1), .val (.ref ar), .val (.int (own_max (own_max (own_max (own_max (own_max (0 : Int32) (v0 + (1 : Int32))) (v1 + (1 : Int32))) (v2 + (1 : Int32))) (v3 + (1 : Int32))) (v4 + (1 : Int32)))), .val (.ref ar), .val (.int (5 : Int32)), .val (.int (5 : Int32)), .val (.int v4)] [(.int (5 : Int32))])
  refine own_go (fun _ => XS.iload X14.here hx rfl (hb hby d2_22) rfl) ?_
  show own_G p e below Φ T14 (mkF m 24 #[.val (.ref a1), .val (.ref ar), .val (.int (own_max (own_max (own_max (own_max (own_max (0 : Int32) (v0 + (1 : Int32))) (v1 + (1 : Int32))) (v2 + (1 : Int32))) (v3 + (1 : Int32))) (v4 + (1 : Int32)))), .val (.ref ar), .val (.int (5 : Int32)), .val (.int (5 : Int32)), .val (.int v4)] [(.int (5 : Int32)), (.int (5 : Int32))])
  refine own_go (fun _ => XS.icmpYes X14.here hx rfl (pc0 := 24) (pc' := 48) rfl (hb hby d2_24) rfl (Jvm.Free.XT.ii_ge_t (by decide : ¬ ((5 : Int32) < (5 : Int32)))) (by decide) (by decide)) ?_
  show own_G p e below Φ T14 (mkF m 48 #[.val (.ref a1), .val (.ref ar), .val (.int (own_max (own_max (own_max (own_max (own_max (0 : Int32) (v0 + (1 : Int32))) (v1 + (1 : Int32))) (v2 + (1 : Int32))) (v3 + (1 : Int32))) (v4 + (1 : Int32)))), .val (.ref ar), .val (.int (5 : Int32)), .val (.int (5 : Int32)), .val (.int v4)] [])
  refine own_go (fun _ => XS.aloadN X14.here hx rfl (hb hby d2_48) rfl rfl) ?_
  show own_G p e below Φ T14 (mkF m 49 #[.val (.ref a1), .val (.ref ar), .val (.int (own_max (own_max (own_max (own_max (own_max (0 : Int32) (v0 + (1 : Int32))) (v1 + (1 : Int32))) (v2 + (1 : Int32))) (v3 + (1 : Int32))) (v4 + (1 : Int32)))), .val (.ref ar), .val (.int (5 : Int32)), .val (.int (5 : Int32)), .val (.int v4)] [(.ref a1)])
  refine own_go (fun _ => XS.iloadN X14.here hx rfl (hb hby d2_49) rfl) ?_
  show own_G p e below Φ T14 (mkF m 50 #[.val (.ref a1), .val (.ref ar), .val (.int (own_max (own_max (own_max (own_max (own_max (0 : Int32) (v0 + (1 : Int32))) (v1 + (1 : Int32))) (v2 + (1 : Int32))) (v3 + (1 : Int32))) (v4 + (1 : Int32)))), .val (.ref ar), .val (.int (5 : Int32)), .val (.int (5 : Int32)), .val (.int v4)] [(.int (own_max (own_max (own_max (own_max (own_max (0 : Int32) (v0 + (1 : Int32))) (v1 + (1 : Int32))) (v2 + (1 : Int32))) (v3 + (1 : Int32))) (v4 + (1 : Int32)))), (.ref a1)])
  have f15 : Exa Z h2 a1 "com/example/edgewarden/edgewarden/graph/Likeness" := E_a1.wr W2
  have f16 : Fld Z h2 a1 "com/example/edgewarden/edgewarden/graph/Likeness" "m_nClassCount" "I" u1 := F_m_nClassCount_a1.other W2 (Or.inr (sl_0 hw))
  obtain ⟨T17, h17, X17, e17, W17, st17⟩ := putF X14 hx hZ hown (host := "") (Or.inl (wd_17 hw)) Via.refl hs14 f16 f15 (Or.inr ⟨(wd_18 hw), rfl, hnm⟩) (wd_7 hw) (ty := .int) (by decide) rfl rfl (g := (mkF m 50 #[.val (.ref a1), .val (.ref ar), .val (.int (own_max (own_max (own_max (own_max (own_max (0 : Int32) (v0 + (1 : Int32))) (v1 + (1 : Int32))) (v2 + (1 : Int32))) (v3 + (1 : Int32))) (v4 + (1 : Int32)))), .val (.ref ar), .val (.int (5 : Int32)), .val (.int (5 : Int32)), .val (.int v4)] [(.int (own_max (own_max (own_max (own_max (own_max (0 : Int32) (v0 + (1 : Int32))) (v1 + (1 : Int32))) (v2 + (1 : Int32))) (v3 + (1 : Int32))) (v4 + (1 : Int32)))), (.ref a1)])) rfl rfl (hb hby d2_50)
  refine own_go st17 ?_
  have N17 := Fr.snoc X17 N14 g_a1
  have K17 := K2.wr W17 (Or.inl (List.mem_of_getElem? (i := 0) rfl))
  have Zp17 : n0 ≤ h17.size := Nat.le_trans Zp2 (Keep.of_wr W17).1
  have f17w := f16.same W17
  show own_G p e below Φ T17 (mkF m 53 #[.val (.ref a1), .val (.ref ar), .val (.int (own_max (own_max (own_max (own_max (own_max (0 : Int32) (v0 + (1 : Int32))) (v1 + (1 : Int32))) (v2 + (1 : Int32))) (v3 + (1 : Int32))) (v4 + (1 : Int32)))), .val (.ref ar), .val (.int (5 : Int32)), .val (.int (5 : Int32)), .val (.int v4)] [])
  have f18 : Exa Z h17 a1 "com/example/edgewarden/edgewarden/graph/Likeness" := f15.wr W17
  have f19 : Fld Z h17 a1 "com/example/edgewarden/edgewarden/graph/Likeness" "m_aClasses" "[I" (.ref ar) := f2w.other W17 (Or.inr (sl_1 hw))
  rw [hΦ]
  refine own_ret X17 (v := none) (fun _ => rfl) (BodyLoose.notSynchronized Bd) (fun fs hr => X17.returnOut hx Bd.returns (hb hby d2_53) hr) ?_ (by decide) (by decide)
  rw [e17]
  exact ⟨rfl, N17, K17, f18, f19, f17w⟩
theorem d4_0 : decode prog_57_method_8_code 0 = .ok (.aload_n 0, 1) := by decide +kernel
theorem d4_1 : decode prog_57_method_8_code 1 = .ok (.getfield 123, 3) := by decide +kernel
theorem d4_4 : decode prog_57_method_8_code 4 = .ok (.newarray .int, 2) := by decide +kernel
theorem wd_5 {Z : State} {a0 : Array Value} (hw : ∀ d ∈ tables_1, d.before a0 Z = true) : ((Jvm.Cond.arrayClass Jvm.ClassFile.FieldType.int) : Jvm.Cond).before a0 Z = true := hw _ (List.mem_of_getElem? (i := 5) rfl)
theorem d4_6 : decode prog_57_method_8_code 6 = .ok (.astore_n 1, 1) := by decide +kernel
theorem d4_7 : decode prog_57_method_8_code 7 = .ok (.aload_n 0, 1) := by decide +kernel
theorem d4_8 : decode prog_57_method_8_code 8 = .ok (.getfield 90, 3) := by decide +kernel
theorem d4_11 : decode prog_57_method_8_code 11 = .ok (.arraylength, 1) := by decide +kernel
theorem d4_12 : decode prog_57_method_8_code 12 = .ok (.iconst 1, 1) := by decide +kernel
theorem d4_13 : decode prog_57_method_8_code 13 = .ok (.isub, 1) := by decide +kernel
theorem d4_14 : decode prog_57_method_8_code 14 = .ok (.istore_n 2, 1) := by decide +kernel
theorem d4_15 : decode prog_57_method_8_code 15 = .ok (.iload_n 2, 1) := by decide +kernel
theorem d4_16 : decode prog_57_method_8_code 16 = .ok (.ifCond .lt 18, 3) := by decide +kernel
theorem d4_34 : decode prog_57_method_8_code 34 = .ok (.aload_n 1, 1) := by decide +kernel
theorem d4_35 : decode prog_57_method_8_code 35 = .ok (.areturn, 1) := by decide +kernel
theorem ef_rmS0 (m : MethodId) (a1 : Addr) : entryFrame m #[(.ref a1)] 3 = mkF m 0 #[.val (.ref a1), .unset, .unset] [] := by first | (simp [entryFrame, mkF, argsToLocals, Value.category]; done) | rfl
def Q_rmS0 (Z : State) (a1 : Addr) (ar : Addr) (ka : ClassId) (cnt : Int32) (h0 : Heap) (n0 : Nat) (v : Option Value) (h : Heap) (L : List Loc) : Prop := ∃ b : Addr, h0.size ≤ b ∧ ∃ kb : ClassId, v = some (.ref b) ∧ Fr n0 L ∧ Keep h0 h [] ∧ Arv Z h b kb .int cnt (own_vs (own_zeros cnt)) (.int (0 : Int32))
set_option maxRecDepth 65536 in
set_option maxHeartbeats 40000000 in
theorem rmS0 (l : Launch) (Z : State) (a0 : Array Value) (hw : ∀ d ∈ tables_1, d.before a0 Z = true) (ws : List Jvm.Cond) (a1 : Addr) (ar : Addr) (ka : ClassId) (cnt : Int32) (h0 : Heap) (n0 : Nat) (Z0 : n0 ≤ h0.size) (F_m_nClassCount_a1 : Fld Z h0 a1 "com/example/edgewarden/edgewarden/graph/Likeness" "m_nClassCount" "I" (.int cnt)) (F_m_aClasses_a1 : Fld Z h0 a1 "com/example/edgewarden/edgewarden/graph/Likeness" "m_aClasses" "[I" (.ref ar)) (V_ar : Arv Z h0 ar ka .int (0 : Int32) [] (.int (0 : Int32))) (hc0 : ¬ cnt < 0) (hc5 : cnt.toNatClampNeg ≤ 5) :
    MetFree l (⟨"com/example/edgewarden/edgewarden/graph/Likeness", "getFirstMembers", "()[I"⟩ : MethodName) (head1 (Jvm.Cond.code (⟨"com/example/edgewarden/edgewarden/graph/Likeness", "getFirstMembers", "()[I"⟩ : MethodName) prog_57_method_8_code 3 (some (.array .int)) :: ws) ({ frames := 0, cells := 1, slots := 5, locals := 0 } : Room)) (fun a U => a = #[(.ref a1)] ∧ Z.Warmed39 U.vm ∧ U.heap = h0) (fun _ _ _ _ _ => True) (fun _ U o U' => ∃ v L, o = .returned v ∧ Q_rmS0 Z a1 ar ka cnt h0 n0 v U'.heap L ∧ FrameEnd U o U' L ({ frames := 0, cells := 1, slots := 5, locals := 0 } : Room).cells ({ frames := 0, cells := 1, slots := 5, locals := 0 } : Room).slots) := by
  refine MetFree.of_bodySF (plainFor_of_name pn_0) hisR ?_
  intro p e s m args below meth c s₁ Bd hml0 hP hK
  obtain ⟨rfl, hZ, hh⟩ := hP
  have hx := Bd.exec
  have hby := Bd.bytes
  have hml : c.maxLocals = 3 := hml0
  have hown : s.vm.findClass "com/example/edgewarden/edgewarden/graph/Likeness" = some m.cls := findClass_of_methodNamed Bd.named
  have hnm := (name_of_methodNamed Bd.named Bd.method).1
  have X0 : Stand p l e ({ frames := 0, cells := 1, slots := 5, locals := 0 } : Room) s m #[(.ref a1)] below meth c s₁ [] 0 0 := Stand.of_body Bd
  have e0 : s₁.heap = h0 := by rw [← hh, Bd.state]; rfl
  have N0 := Fr.nil n0
  have K0 : Keep h0 h0 [] := Keep.refl _ _
  suffices G0 : own_G p e below (own_E s below (Q_rmS0 Z a1 ar ka cnt h0 n0) ({ frames := 0, cells := 1, slots := 5, locals := 0 } : Room).cells ({ frames := 0, cells := 1, slots := 5, locals := 0 } : Room).slots) s₁ (mkF m 0 #[.val (.ref a1), .unset, .unset] []) by
    obtain ⟨zt, zst, zo, zq1, zq2, zq3⟩ := G0
    exact ⟨zt, zo, castTop (ef_rmS0 m a1) zst, zq1, zq2, zq3⟩
  obtain ⟨Φ, hΦ⟩ : ∃ Φ, Φ = own_E s below (Q_rmS0 Z a1 ar ka cnt h0 n0) ({ frames := 0, cells := 1, slots := 5, locals := 0 } : Room).cells ({ frames := 0, cells := 1, slots := 5, locals := 0 } : Room).slots := ⟨_, rfl⟩
  rw [← hΦ]
  show own_G p e below Φ s₁ (mkF m 0 #[.val (.ref a1), .unset, .unset] [])
  refine own_go (fun _ => XS.aloadN X0.here hx rfl (hb hby d4_0) rfl rfl) ?_
  show own_G p e below Φ s₁ (mkF m 1 #[.val (.ref a1), .unset, .unset] [(.ref a1)])
  obtain ⟨T1, X1, e1, st1⟩ := getF X0 hx hZ hown (host := "") (Or.inl (wd_17 hw)) Via.refl e0 F_m_nClassCount_a1 (g := (mkF m 1 #[.val (.ref a1), .unset, .unset] [(.ref a1)])) rfl rfl (hb hby d4_1)
  refine own_go st1 ?_
  show own_G p e below Φ T1 (mkF m 4 #[.val (.ref a1), .unset, .unset] [(.int cnt)])
  obtain ⟨T2, h2, ka2, X2, e2, E2, A2, st2⟩ := newP (aty := .int) X1 hx hZ (wd_5 hw) e1 (g := (mkF m 4 #[.val (.ref a1), .unset, .unset] [(.int cnt)])) rfl (hb hby d4_4) rfl hc0 (cap := 5) hc5 (by decide) (by decide) (by decide)
  obtain ⟨ob2, g2⟩ : ∃ z, z = h0.size := ⟨_, rfl⟩
  rw [← g2] at A2 st2
  have ne_a1_ob2 : a1 ≠ ob2 := Nat.ne_of_lt (Nat.lt_of_lt_of_le F_m_nClassCount_a1.lt (Nat.le_of_eq g2.symm))
  have ne_ar_ob2 : ar ≠ ob2 := Nat.ne_of_lt (Nat.lt_of_lt_of_le V_ar.lt (Nat.le_of_eq g2.symm))
  have V2 : Arv Z h2 ob2 ka2 .int cnt (own_vs (own_zeros cnt)) (.int (0 : Int32)) := (Arv.new A2 hc0).pad (own_pad _)
  have g_ob2 : n0 ≤ ob2 := Nat.le_trans Z0 (Nat.le_of_eq g2.symm)
  have sz_ob2 : h0.size ≤ ob2 := Nat.le_trans K0.1 (Nat.le_of_eq g2.symm)
  have K2 := K0.ext E2
  have Zp2 : n0 ≤ h2.size := Nat.le_trans Z0 E2.1
  refine own_go st2 ?_
  show own_G p e below Φ T2 (mkF m 6 #[.val (.ref a1), .unset, .unset] [(.ref ob2)])
  refine own_go (fun _ => XS.astoreN X2.here hx rfl (hb hby d4_6) rfl rfl (l' := #[.val (.ref a1), .val (.ref ob2), .unset]) rfl) ?_
  show own_G p e below Φ T2 (mkF m 7 #[.val (.ref a1), .val (.ref ob2), .unset] [])
  refine own_go (fun _ => XS.aloadN X2.here hx rfl (hb hby d4_7) rfl rfl) ?_
  show own_G p e below Φ T2 (mkF m 8 #[.val (.ref a1), .val (.ref ob2), .unset] [(.ref a1)])
  have f3 : Fld Z h2 a1 "com/example/edgewarden/edgewarden/graph/Likeness" "m_aClasses" "[I" (.ref ar) := F_m_aClasses_a1.ext E2
  obtain ⟨T4, X4, e4, st4⟩ := getF X2 hx hZ hown (host := "") (Or.inl (wd_15 hw)) Via.refl e2 f3 (g := (mkF m 8 #[.val (.ref a1), .val (.ref ob2), .unset] [(.ref a1)])) rfl rfl (hb hby d4_8)
  refine own_go st4 ?_
  show own_G p e below Φ T4 (mkF m 11 #[.val (.ref a1), .val (.ref ob2), .unset] [(.ref ar)])
  have f5 : Arv Z h2 ar ka .int (0 : Int32) [] (.int (0 : Int32)) := V_ar.ext E2
  obtain ⟨cl6, Ar6, q6, S6, M6, H6, G6⟩ := id f5
  refine own_go (fun _ => X4.arraylength hx (by rw [e4]; exact Ar6.1) (State.isArrayOf_alike hZ.alike Ar6.2.1) (g := (mkF m 11 #[.val (.ref a1), .val (.ref ob2), .unset] [(.ref ar)])) rfl rfl (hb hby d4_11) _) ?_
  rw [len_of S6 M6]
  show own_G p e below Φ T4 (mkF m 12 #[.val (.ref a1), .val (.ref ob2), .unset] [(.int (0 : Int32))])
  refine own_go (fun _ => XS.iconst X4.here hx rfl (hb hby d4_12)) ?_
  show own_G p e below Φ T4 (mkF m 13 #[.val (.ref a1), .val (.ref ob2), .unset] [(.int (1 : Int32)), (.int (0 : Int32))])
  refine own_go (fun _ => XS.isub X4.here hx rfl (hb hby d4_13) rfl) ?_
  show own_G p e below Φ T4 (mkF m 14 #[.val (.ref a1), .val (.ref ob2), .unset] [(.int (-1 : Int32))])
  refine own_go (fun _ => XS.istoreN X4.here hx rfl (hb hby d4_14) rfl (l' := #[.val (.ref a1), .val (.ref ob2), .val (.int (-1 : Int32))]) rfl) ?_
  show own_G p e below Φ T4 (mkF m 15 #[.val (.ref a1), .val (.ref ob2), .val (.int (-1 : Int32))] [])
  refine own_go (fun _ => XS.iloadN X4.here hx rfl (hb hby d4_15) rfl) ?_
  show own_G p e below Φ T4 (mkF m 16 #[.val (.ref a1), .val (.ref ob2), .val (.int (-1 : Int32))] [(.int (-1 : Int32))])
  refine own_go (fun _ => XS.ifYes X4.here hx rfl (pc0 := 16) (pc' := 34) rfl (hb hby d4_16) rfl (Jvm.Free.XT.i0_lt_t (by decide : ((-1 : Int32) < (0 : Int32)))) (by decide) (by decide)) ?_
  show own_G p e below Φ T4 (mkF m 34 #[.val (.ref a1), .val (.ref ob2), .val (.int (-1 : Int32))] [])
  refine own_go (fun _ => XS.aloadN X4.here hx rfl (hb hby d4_34) rfl rfl) ?_
  show own_G p e below Φ T4 (mkF m 35 #[.val (.ref a1), .val (.ref ob2), .val (.int (-1 : Int32))] [(.ref ob2)])
  rw [hΦ]
  refine own_ret X4 (v := some (.ref ob2)) (fun h => by rw [Bd.returns] at h; cases h) (BodyLoose.notSynchronized Bd) (fun fs hr => retOut X4 hx Bd.returns rfl (Or.inr (Or.inr (Or.inr (Or.inr ⟨rfl, rfl, rfl⟩)))) (hb hby d4_35) hr) ?_ (by decide) (by decide)
  rw [e4]
  exact ⟨ob2, sz_ob2, ka2, rfl, N0, K2, V2⟩
theorem d4_19 : decode prog_57_method_8_code 19 = .ok (.aload_n 1, 1) := by decide +kernel
theorem d4_20 : decode prog_57_method_8_code 20 = .ok (.aload_n 0, 1) := by decide +kernel
theorem d4_21 : decode prog_57_method_8_code 21 = .ok (.getfield 90, 3) := by decide +kernel
theorem d4_24 : decode prog_57_method_8_code 24 = .ok (.iload_n 2, 1) := by decide +kernel
theorem d4_25 : decode prog_57_method_8_code 25 = .ok (.iaload, 1) := by decide +kernel
theorem d4_26 : decode prog_57_method_8_code 26 = .ok (.iload_n 2, 1) := by decide +kernel
theorem d4_27 : decode prog_57_method_8_code 27 = .ok (.iastore, 1) := by decide +kernel
theorem d4_28 : decode prog_57_method_8_code 28 = .ok (.iinc 2 (-1), 3) := by decide +kernel
theorem d4_31 : decode prog_57_method_8_code 31 = .ok (.goto (-16), 3) := by decide +kernel
theorem ef_rmS1 (m : MethodId) (a1 : Addr) : entryFrame m #[(.ref a1)] 3 = mkF m 0 #[.val (.ref a1), .unset, .unset] [] := by first | (simp [entryFrame, mkF, argsToLocals, Value.category]; done) | rfl
def Q_rmS1 (Z : State) (a1 : Addr) (ar : Addr) (ka : ClassId) (cnt : Int32) (v0 : Int32) (h0 : Heap) (n0 : Nat) (v : Option Value) (h : Heap) (L : List Loc) : Prop := ∃ b : Addr, h0.size ≤ b ∧ ∃ kb : ClassId, v = some (.ref b) ∧ Fr n0 L ∧ Keep h0 h [] ∧ Arv Z h b kb .int cnt (own_vs (own_put (own_zeros cnt) v0 (0 : Int32))) (.int (0 : Int32))
set_option maxRecDepth 65536 in
set_option maxHeartbeats 40000000 in
theorem rmS1 (l : Launch) (Z : State) (a0 : Array Value) (hw : ∀ d ∈ tables_1, d.before a0 Z = true) (ws : List Jvm.Cond) (a1 : Addr) (ar : Addr) (ka : ClassId) (cnt : Int32) (v0 : Int32) (h0 : Heap) (n0 : Nat) (Z0 : n0 ≤ h0.size) (F_m_nClassCount_a1 : Fld Z h0 a1 "com/example/edgewarden/edgewarden/graph/Likeness" "m_nClassCount" "I" (.int cnt)) (F_m_aClasses_a1 : Fld Z h0 a1 "com/example/edgewarden/edgewarden/graph/Likeness" "m_aClasses" "[I" (.ref ar)) (V_ar : Arv Z h0 ar ka .int (1 : Int32) [(.int v0)] (.int (0 : Int32))) (hc0 : ¬ cnt < 0) (hc5 : cnt.toNatClampNeg ≤ 5) (hv0 : ¬ v0 < 0 ∧ v0 < cnt) :
    MetFree l (⟨"com/example/edgewarden/edgewarden/graph/Likeness", "getFirstMembers", "()[I"⟩ : MethodName) (head1 (Jvm.Cond.code (⟨"com/example/edgewarden/edgewarden/graph/Likeness", "getFirstMembers", "()[I"⟩ : MethodName) prog_57_method_8_code 3 (some (.array .int)) :: ws) ({ frames := 0, cells := 1, slots := 5, locals := 0 } : Room)) (fun a U => a = #[(.ref a1)] ∧ Z.Warmed39 U.vm ∧ U.heap = h0) (fun _ _ _ _ _ => True) (fun _ U o U' => ∃ v L, o = .returned v ∧ Q_rmS1 Z a1 ar ka cnt v0 h0 n0 v U'.heap L ∧ FrameEnd U o U' L ({ frames := 0, cells := 1, slots := 5, locals := 0 } : Room).cells ({ frames := 0, cells := 1, slots := 5, locals := 0 } : Room).slots) := by
  refine MetFree.of_bodySF (plainFor_of_name pn_0) hisR ?_
  intro p e s m args below meth c s₁ Bd hml0 hP hK
  obtain ⟨rfl, hZ, hh⟩ := hP
  have hx := Bd.exec
  have hby := Bd.bytes
  have hml : c.maxLocals = 3 := hml0
  have hown : s.vm.findClass "com/example/edgewarden/edgewarden/graph/Likeness" = some m.cls := findClass_of_methodNamed Bd.named
  have hnm := (name_of_methodNamed Bd.named Bd.method).1
  have X0 : Stand p l e ({ frames := 0, cells := 1, slots := 5, locals := 0 } : Room) s m #[(.ref a1)] below meth c s₁ [] 0 0 := Stand.of_body Bd
  have e0 : s₁.heap = h0 := by rw [← hh, Bd.state]; rfl
  have N0 := Fr.nil n0
  have K0 : Keep h0 h0 [] := Keep.refl _ _
  suffices G0 : own_G p e below (own_E s below (Q_rmS1 Z a1 ar ka cnt v0 h0 n0) ({ frames := 0, cells := 1, slots := 5, locals := 0 } : Room).cells ({ frames := 0, cells := 1, slots := 5, locals := 0 } : Room).slots) s₁ (mkF m 0 #[.val (.ref a1), .unset, .unset] []) by
    obtain ⟨zt, zst, zo, zq1, zq2, zq3⟩ := G0
    exact ⟨zt, zo, castTop (ef_rmS1 m a1) zst, zq1, zq2, zq3⟩
  obtain ⟨Φ, hΦ⟩ : ∃ Φ, Φ = own_E s below (Q_rmS1 Z a1 ar ka cnt v0 h0 n0) ({ frames := 0, cells := 1, slots := 5, locals := 0 } : Room).cells ({ frames := 0, cells := 1, slots := 5, locals := 0 } : Room).slots := ⟨_, rfl⟩
  rw [← hΦ]
  show own_G p e below Φ s₁ (mkF m 0 #[.val (.ref a1), .unset, .unset] [])
  refine own_go (fun _ => XS.aloadN X0.here hx rfl (hb hby d4_0) rfl rfl) ?_
  show own_G p e below Φ s₁ (mkF m 1 #[.val (.ref a1), .unset, .unset] [(.ref a1)])
  obtain ⟨T1, X1, e1, st1⟩ := getF X0 hx hZ hown (host := "") (Or.inl (wd_17 hw)) Via.refl e0 F_m_nClassCount_a1 (g := (mkF m 1 #[.val (.ref a1), .unset, .unset] [(.ref a1)])) rfl rfl (hb hby d4_1)
  refine own_go st1 ?_
  show own_G p e below Φ T1 (mkF m 4 #[.val (.ref a1), .unset, .unset] [(.int cnt)])
  obtain ⟨T2, h2, ka2, X2, e2, E2, A2, st2⟩ := newP (aty := .int) X1 hx hZ (wd_5 hw) e1 (g := (mkF m 4 #[.val (.ref a1), .unset, .unset] [(.int cnt)])) rfl (hb hby d4_4) rfl hc0 (cap := 5) hc5 (by decide) (by decide) (by decide)
  obtain ⟨ob2, g2⟩ : ∃ z, z = h0.size := ⟨_, rfl⟩
  rw [← g2] at A2 st2
  have ne_a1_ob2 : a1 ≠ ob2 := Nat.ne_of_lt (Nat.lt_of_lt_of_le F_m_nClassCount_a1.lt (Nat.le_of_eq g2.symm))
  have ne_ar_ob2 : ar ≠ ob2 := Nat.ne_of_lt (Nat.lt_of_lt_of_le V_ar.lt (Nat.le_of_eq g2.symm))
  have V2 : Arv Z h2 ob2 ka2 .int cnt (own_vs (own_zeros cnt)) (.int (0 : Int32)) := (Arv.new A2 hc0).pad (own_pad _)
  have g_ob2 : n0 ≤ ob2 := Nat.le_trans Z0 (Nat.le_of_eq g2.symm)
  have sz_ob2 : h0.size ≤ ob2 := Nat.le_trans K0.1 (Nat.le_of_eq g2.symm)
  have K2 := K0.ext E2
  have Zp2 : n0 ≤ h2.size := Nat.le_trans Z0 E2.1
  refine own_go st2 ?_
  show own_G p e below Φ T2 (mkF m 6 #[.val (.ref a1), .unset, .unset] [(.ref ob2)])
  refine own_go (fun _ => XS.astoreN X2.here hx rfl (hb hby d4_6) rfl rfl (l' := #[.val (.ref a1), .val (.ref ob2), .unset]) rfl) ?_
  show own_G p e below Φ T2 (mkF m 7 #[.val (.ref a1), .val (.ref ob2), .unset] [])
  refine own_go (fun _ => XS.aloadN X2.here hx rfl (hb hby d4_7) rfl rfl) ?_
  show own_G p e below Φ T2 (mkF m 8 #[.val (.ref a1), .val (.ref ob2), .unset] [(.ref a1)])
  have f3 : Fld Z h2 a1 "com/example/edgewarden/edgewarden/graph/Likeness" "m_aClasses" "[I" (.ref ar) := F_m_aClasses_a1.ext E2
  obtain ⟨T4, X4, e4, st4⟩ := getF X2 hx hZ hown (host := "") (Or.inl (wd_15 hw)) Via.refl e2 f3 (g := (mkF m 8 #[.val (.ref a1), .val (.ref ob2), .unset] [(.ref a1)])) rfl rfl (hb hby d4_8)
  refine own_go st4 ?_
  show own_G p e below Φ T4 (mkF m 11 #[.val (.ref a1), .val (.ref ob2), .unset] [(.ref ar)])
  have f5 : Arv Z h2 ar ka .int (1 : Int32) [(.int v0)] (.int (0 : Int32)) := V_ar.ext E2
  obtain ⟨cl6, Ar6, q6, S6, M6, H6, G6⟩ := id f5
  refine own_go (fun _ => X4.arraylength hx (by rw [e4]; exact Ar6.1) (State.isArrayOf_alike hZ.alike Ar6.2.1) (g := (mkF m 11 #[.val (.ref a1), .val (.ref ob2), .unset] [(.ref ar)])) rfl rfl (hb hby d4_11) _) ?_
  rw [len_of S6 M6]
  show own_G p e below Φ T4 (mkF m 12 #[.val (.ref a1), .val (.ref ob2), .unset] [(.int (1 : Int32))])
  refine own_go (fun _ => XS.iconst X4.here hx rfl (hb hby d4_12)) ?_
  show own_G p e below Φ T4 (mkF m 13 #[.val (.ref a1), .val (.ref ob2), .unset] [(.int (1 : Int32)), (.int (1 : Int32))])
  refine own_go (fun _ => XS.isub X4.here hx rfl (hb hby d4_13) rfl) ?_
  show own_G p e below Φ T4 (mkF m 14 #[.val (.ref a1), .val (.ref ob2), .unset] [(.int (0 : Int32))])
  refine own_go (fun _ => XS.istoreN X4.here hx rfl (hb hby d4_14) rfl (l' := #[.val (.ref a1), .val (.ref ob2), .val (.int (0 : Int32))]) rfl) ?_
  show own_G p e below Φ T4 (mkF m 15 #[.val (.ref a1), .val (.ref ob2), .val (.int (0 : Int32))] [])
  refine own_go (fun _ => XS.iloadN X4.here hx rfl (hb hby d4_15) rfl) ?_
  show own_G p e below Φ T4 (mkF m 16 #[.val (.ref a1), .val (.ref ob2), .val (.int (0 : Int32))] [(.int (0 : Int32))])
  refine own_go (fun _ => XS.ifNo X4.here hx rfl (hb hby d4_16) rfl (Jvm.Free.XT.i0_lt_f (by decide : ¬ ((0 : Int32) < (0 : Int32))))) ?_
  show own_G p e below Φ T4 (mkF m 19 #[.val (.ref a1), .val (.ref ob2), .val (.int (0 : Int32))] [])
  refine own_go (fun _ => XS.aloadN X4.here hx rfl (hb hby d4_19) rfl rfl) ?_
  show own_G p e below Φ T4 (mkF m 20 #[.val (.ref a1), .val (.ref ob2), .val (.int (0 : Int32))] [(.ref ob2)])
  refine own_go (fun _ => XS.aloadN X4.here hx rfl (hb hby d4_20) rfl rfl) ?_
  show own_G p e below Φ T4 (mkF m 21 #[.val (.ref a1), .val (.ref ob2), .val (.int (0 : Int32))] [(.ref a1), (.ref ob2)])
  obtain ⟨T7, X7, e7, st7⟩ := getF X4 hx hZ hown (host := "") (Or.inl (wd_15 hw)) Via.refl e4 f3 (g := (mkF m 21 #[.val (.ref a1), .val (.ref ob2), .val (.int (0 : Int32))] [(.ref a1), (.ref ob2)])) rfl rfl (hb hby d4_21)
  refine own_go st7 ?_
  show own_G p e below Φ T7 (mkF m 24 #[.val (.ref a1), .val (.ref ob2), .val (.int (0 : Int32))] [(.ref ar), (.ref ob2)])
  refine own_go (fun _ => XS.iloadN X7.here hx rfl (hb hby d4_24) rfl) ?_
  show own_G p e below Φ T7 (mkF m 25 #[.val (.ref a1), .val (.ref ob2), .val (.int (0 : Int32))] [(.int (0 : Int32)), (.ref ar), (.ref ob2)])
  obtain ⟨cl8, Ar8, q8, S8, M8, H8, G8⟩ := id f5
  have hin8 : ¬ ((0 : Int32) < 0 ∨ cl8.slots.size ≤ ((0 : Int32)).toNatClampNeg) := inb_of S8 ⟨by decide, by decide⟩
  refine own_go (fun _ => X7.iaload hx (j := (0 : Int32)) (v := (.int v0)) (by rw [e7]; exact Ar8.1) (State.isArrayOf_alike hZ.alike Ar8.2.1) Ar8.2.2 hin8 (H8.at hin8 rfl) (g := (mkF m 25 #[.val (.ref a1), .val (.ref ob2), .val (.int (0 : Int32))] [(.int (0 : Int32)), (.ref ar), (.ref ob2)])) rfl rfl (hb hby d4_25) _) ?_
  show own_G p e below Φ T7 (mkF m 26 #[.val (.ref a1), .val (.ref ob2), .val (.int (0 : Int32))] [(.int v0), (.ref ob2)])
  refine own_go (fun _ => XS.iloadN X7.here hx rfl (hb hby d4_26) rfl) ?_
  show own_G p e below Φ T7 (mkF m 27 #[.val (.ref a1), .val (.ref ob2), .val (.int (0 : Int32))] [(.int (0 : Int32)), (.int v0), (.ref ob2)])
  obtain ⟨cl9, Ar9, q9, S9, M9, H9, G9⟩ := id V2
  have hin9 : ¬ (v0 < 0 ∨ cl9.slots.size ≤ (v0).toNatClampNeg) := inb_of S9 hv0
  obtain ⟨T9, h9, X9, e9, W9, st9⟩ := stI X7 hx hZ e7 Ar9 (j := v0) hin9 (g := (mkF m 27 #[.val (.ref a1), .val (.ref ob2), .val (.int (0 : Int32))] [(.int (0 : Int32)), (.int v0), (.ref ob2)])) rfl rfl (hb hby d4_27)
  refine own_go st9 ?_
  have V9 : Arv Z h9 ob2 ka2 .int cnt (own_vs (own_put (own_zeros cnt) v0 (0 : Int32))) (.int (0 : Int32)) := own_vs_set _ _ _ ▸ Arv.set Ar9 q9 S9 M9 H9 G9 rfl W9 _ rfl (by simp only [own_vs_len, own_put_len, own_zeros_len]; exact own_clamp hv0)
  have N9 := Fr.snoc X9 N0 g_ob2
  have K9 := K2.wr W9 (Or.inr sz_ob2)
  have Zp9 : n0 ≤ h9.size := Nat.le_trans Zp2 (Keep.of_wr W9).1
  show own_G p e below Φ T9 (mkF m 28 #[.val (.ref a1), .val (.ref ob2), .val (.int (0 : Int32))] [])
  refine own_go (fun _ => XS.iinc X9.here hx rfl (hb hby d4_28) rfl (l' := #[.val (.ref a1), .val (.ref ob2), .val (.int (-1 : Int32))]) rfl) ?_
  show own_G p e below Φ T9 (mkF m 31 #[.val (.ref a1), .val (.ref ob2), .val (.int (-1 : Int32))] [])
  refine own_go (fun _ => XS.goto X9.here hx rfl (pc0 := 31) (pc' := 15) rfl (hb hby d4_31) (by decide) (by decide)) ?_
  show own_G p e below Φ T9 (mkF m 15 #[.val (.ref a1), .val (.ref ob2), .val (.int (-1 : Int32))] [])
  refine own_go (fun _ => XS.iloadN X9.here hx rfl (hb hby d4_15) rfl) ?_
  show own_G p e below Φ T9 (mkF m 16 #[.val (.ref a1), .val (.ref ob2), .val (.int (-1 : Int32))] [(.int (-1 : Int32))])
  refine own_go (fun _ => XS.ifYes X9.here hx rfl (pc0 := 16) (pc' := 34) rfl (hb hby d4_16) rfl (Jvm.Free.XT.i0_lt_t (by decide : ((-1 : Int32) < (0 : Int32)))) (by decide) (by decide)) ?_
  show own_G p e below Φ T9 (mkF m 34 #[.val (.ref a1), .val (.ref ob2), .val (.int (-1 : Int32))] [])
  refine own_go (fun _ => XS.aloadN X9.here hx rfl (hb hby d4_34) rfl rfl) ?_
  show own_G p e below Φ T9 (mkF m 35 #[.val (.ref a1), .val (.ref ob2), .val (.int (-1 : Int32))] [(.ref ob2)])
  rw [hΦ]
  refine own_ret X9 (v := some (.ref ob2)) (fun h => by rw [Bd.returns] at h; cases h) (BodyLoose.notSynchronized Bd) (fun fs hr => retOut X9 hx Bd.returns rfl (Or.inr (Or.inr (Or.inr (Or.inr ⟨rfl, rfl, rfl⟩)))) (hb hby d4_35) hr) ?_ (by decide) (by decide)
  rw [e9]
  exact ⟨ob2, sz_ob2, ka2, rfl, N9, K9, V9⟩
theorem ef_rmS2 (m : MethodId) (a1 : Addr) : entryFrame m #[(.ref a1)] 3 = mkF m 0 #[.val (.ref a1), .unset, .unset] [] := by first | (simp [entryFrame, mkF, argsToLocals, Value.category]; done) | rfl
def Q_rmS2 (Z : State) (a1 : Addr) (ar : Addr) (ka : ClassId) (cnt : Int32) (v0 : Int32) (v1 : Int32) (h0 : Heap) (n0 : Nat) (v : Option Value) (h : Heap) (L : List Loc) : Prop := ∃ b : Addr, h0.size ≤ b ∧ ∃ kb : ClassId, v = some (.ref b) ∧ Fr n0 L ∧ Keep h0 h [] ∧ Arv Z h b kb .int cnt (own_vs (own_put (own_put (own_zeros cnt) v1 (1 : Int32)) v0 (0 : Int32))) (.int (0 : Int32))
set_option maxRecDepth 65536 in
set_option maxHeartbeats 40000000 in
theorem rmS2 (l : Launch) (Z : State) (a0 : Array Value) (hw : ∀ d ∈ tables_1, d.before a0 Z = true) (ws : List Jvm.Cond) (a1 : Addr) (ar : Addr) (ka : ClassId) (cnt : Int32) (v0 : Int32) (v1 : Int32) (h0 : Heap) (n0 : Nat) (Z0 : n0 ≤ h0.size) (F_m_nClassCount_a1 : Fld Z h0 a1 "com/example/edgewarden/edgewarden/graph/Likeness" "m_nClassCount" "I" (.int cnt)) (F_m_aClasses_a1 : Fld Z h0 a1 "com/example/edgewarden/edgewarden/graph/Likeness" "m_aClasses" "[I" (.ref ar)) (V_ar : Arv Z h0 ar ka .int (2 : Int32) [(.int v0), (.int v1)] (.int (0 : Int32))) (hc0 : ¬ cnt < 0) (hc5 : cnt.toNatClampNeg ≤ 5) (hv0 : ¬ v0 < 0 ∧ v0 < cnt) (hv1 : ¬ v1 < 0 ∧ v1 < cnt) :
    MetFree l (⟨"com/example/edgewarden/edgewarden/graph/Likeness", "getFirstMembers", "()[I"⟩ : MethodName) (head1 (Jvm.Cond.code (⟨"com/example/edgewarden/edgewarden/graph/Likeness", "getFirstMembers", "()[I"⟩ : MethodName) prog_57_method_8_code 3 (some (.array .int)) :: ws) ({ frames := 0, cells := 1, slots := 5, locals := 0 } : Room)) (fun a U => a = #[(.ref a1)] ∧ Z.Warmed39 U.vm ∧ U.heap = h0) (fun _ _ _ _ _ => True) (fun _ U o U' => ∃ v L, o = .returned v ∧ Q_rmS2 Z a1 ar ka cnt v0 v1 h0 n0 v U'.heap L ∧ FrameEnd U o U' L ({ frames := 0, cells := 1, slots := 5, locals := 0 } : Room).cells ({ frames := 0, cells := 1, slots := 5, locals := 0 } : Room).slots) := by
  refine MetFree.of_bodySF (plainFor_of_name pn_0) hisR ?_
  intro p e s m args below meth c s₁ Bd hml0 hP hK
  obtain ⟨rfl, hZ, hh⟩ := hP
  have hx := Bd.exec
  have hby := Bd.bytes
  have hml : c.maxLocals = 3 := hml0
  have hown : s.vm.findClass "com/example/edgewarden/edgewarden/graph/Likeness" = some m.cls := findClass_of_methodNamed Bd.named
  have hnm := (name_of_methodNamed Bd.named Bd.method).1
  have X0 : Stand p l e ({ frames := 0, cells := 1, slots := 5, locals := 0 } : Room) s m #[(.ref a1)] below meth c s₁ [] 0 0 := Stand.of_body Bd
  have e0 : s₁.heap = h0 := by rw [← hh, Bd.state]; rfl
  have N0 := Fr.nil n0
  have K0 : Keep h0 h0 [] := Keep.refl _ _
  suffices G0 : own_G p e below (own_E s below (Q_rmS2 Z a1 ar ka cnt v0 v1 h0 n0) ({ frames := 0, cells := 1, slots := 5, locals := 0 } : Room).cells ({ frames := 0, cells := 1, slots := 5, locals := 0 } : Room).slots) s₁ (mkF m 0 #[.val (.ref a1), .unset, .unset] []) by
    obtain ⟨zt, zst, zo, zq1, zq2, zq3⟩ := G0
    exact ⟨zt, zo, castTop (ef_rmS2 m a1) zst, zq1, zq2, zq3⟩
  obtain ⟨Φ, hΦ⟩ : ∃ Φ, Φ = own_E s below (Q_rmS2 Z a1 ar ka cnt v0 v1 h0 n0) ({ frames := 0, cells := 1, slots := 5, locals := 0 } : Room).cells ({ frames := 0, cells := 1, slots := 5, locals := 0 } : Room).slots := ⟨_, rfl⟩
  rw [← hΦ]
  show own_G p e below Φ s₁ (mkF m 0 #[.val (.ref a1), .unset, .unset] [])
  refine own_go (fun _ => XS.aloadN X0.here hx rfl (hb hby d4_0) rfl rfl) ?_
  show own_G p e below Φ s₁ (mkF m 1 #[.val (.ref a1), .unset, .unset] [(.ref a1)])
  obtain ⟨T1, X1, e1, st1⟩ := getF X0 hx hZ hown (host := "") (Or.inl (wd_17 hw)) Via.refl e0 F_m_nClassCount_a1 (g := (mkF m 1 #[.val (.ref a1), .unset, .unset] [(.ref a1)])) rfl rfl (hb hby d4_1)
  refine own_go st1 ?_
  show own_G p e below Φ T1 (mkF m 4 #[.val (.ref a1), .unset, .unset] [(.int cnt)])
  obtain ⟨T2, h2, ka2, X2, e2, E2, A2, st2⟩ := newP (aty := .int) X1 hx hZ (wd_5 hw) e1 (g := (mkF m 4 #[.val (.ref a1), .unset, .unset] [(.int cnt)])) rfl (hb hby d4_4) rfl hc0 (cap := 5) hc5 (by decide) (by decide) (by decide)
  obtain ⟨ob2, g2⟩ : ∃ z, z = h0.size := ⟨_, rfl⟩
  rw [← g2] at A2 st2
  have ne_a1_ob2 : a1 ≠ ob2 := Nat.ne_of_lt (Nat.lt_of_lt_of_le F_m_nClassCount_a1.lt (Nat.le_of_eq g2.symm))
  have ne_ar_ob2 : ar ≠ ob2 := Nat.ne_of_lt (Nat.lt_of_lt_of_le V_ar.lt (Nat.le_of_eq g2.symm))
  have V2 : Arv Z h2 ob2 ka2 .int cnt (own_vs (own_zeros cnt)) (.int (0 : Int32)) := (Arv.new A2 hc0).pad (own_pad _)
  have g_ob2 : n0 ≤ ob2 := Nat.le_trans Z0 (Nat.le_of_eq g2.symm)
  have sz_ob2 : h0.size ≤ ob2 := Nat.le_trans K0.1 (Nat.le_of_eq g2.symm)
  have K2 := K0.ext E2
  have Zp2 : n0 ≤ h2.size := Nat.le_trans Z0 E2.1
  refine own_go st2 ?_
  show own_G p e below Φ T2 (mkF m 6 #[.val (.ref a1), .unset, .unset] [(.ref ob2)])
  refine own_go (fun _ => XS.astoreN X2.here hx rfl (hb hby d4_6) rfl rfl (l' := #[.val (.ref a1), .val (.ref ob2), .unset]) rfl) ?_
  show own_G p e below Φ T2 (mkF m 7 #[.val (.ref a1), .val (.ref ob2), .unset] [])
  refine own_go (fun _ => XS.aloadN X2.here hx rfl (hb hby d4_7) rfl rfl) ?_
  show own_G p e below Φ T2 (mkF m 8 #[.val (.ref a1), .val (.ref ob2), .unset] [(.ref a1)])
  have f3 : Fld Z h2 a1 "com/example/edgewarden/edgewarden/graph/Likeness" "m_aClasses" "[I" (.ref ar) := F_m_aClasses_a1.ext E2
  obtain ⟨T4, X4, e4, st4⟩ := getF X2 hx hZ hown (host := "") (Or.inl (wd_15 hw)) Via.refl e2 f3 (g := (mkF m 8 #[.val (.ref a1), .val (.ref ob2), .unset] [(.ref a1)])) rfl rfl (hb hby d4_8)
  refine own_go st4 ?_
  show own_G p e below Φ T4 (mkF m 11 #[.val (.ref a1), .val (.ref ob2), .unset] [(.ref ar)])
  have f5 : Arv Z h2 ar ka .int (2 : Int32) [(.int v0), (.int v1)] (.int (0 : Int32)) := V_ar.ext E2
  obtain ⟨cl6, Ar6, q6, S6, M6, H6, G6⟩ := id f5
  refine own_go (fun _ => X4.arraylength hx (by rw [e4]; exact Ar6.1) (State.isArrayOf_alike hZ.alike Ar6.2.1) (g := (mkF m 11 #[.val (.ref a1), .val (.ref ob2), .unset] [(.ref ar)])) rfl rfl (hb hby d4_11) _) ?_
  rw [len_of S6 M6]
  show own_G p e below Φ T4 (mkF m 12 #[.val (.ref a1), .val (.ref ob2), .unset] [(.int (2 : Int32))])
  refine own_go (fun _ => XS.iconst X4.here hx rfl (hb hby d4_12)) ?_
  show own_G p e below Φ T4 (mkF m 13 #[.val (.ref a1), .val (.ref ob2), .unset] [(.int (1 : Int32)), (.int (2 : Int32))])
  refine own_go (fun _ => XS.isub X4.here hx rfl (hb hby d4_13) rfl) ?_
  show own_G p e below Φ T4 (mkF m 14 #[.val (.ref a1), .val (.ref ob2), .unset] [(.int (1 : Int32))])
  refine own_go (fun _ => XS.istoreN X4.here hx rfl (hb hby d4_14) rfl (l' := #[.val (.ref a1), .val (.ref ob2), .val (.int (1 : Int32))]) rfl) ?_
  show own_G p e below Φ T4 (mkF m 15 #[.val (.ref a1), .val (.ref ob2), .val (.int (1 : Int32))] [])
  refine own_go (fun _ => XS.iloadN X4.here hx rfl (hb hby d4_15) rfl) ?_
  show own_G p e below Φ T4 (mkF m 16 #[.val (.ref a1), .val (.ref ob2), .val (.int (1 : Int32))] [(.int (1 : Int32))])
  refine own_go (fun _ => XS.ifNo X4.here hx rfl (hb hby d4_16) rfl (Jvm.Free.XT.i0_lt_f (by decide : ¬ ((1 : Int32) < (0 : Int32))))) ?_
  show own_G p e below Φ T4 (mkF m 19 #[.val (.ref a1), .val (.ref ob2), .val (.int (1 : Int32))] [])
  refine own_go (fun _ => XS.aloadN X4.here hx rfl (hb hby d4_19) rfl rfl) ?_
  show own_G p e below Φ T4 (mkF m 20 #[.val (.ref a1), .val (.ref ob2), .val (.int (1 : Int32))] [(.ref ob2)])
  refine own_go (fun _ => XS.aloadN X4.here hx rfl (hb hby d4_20) rfl rfl) ?_
  show own_G p e below Φ T4 (mkF m 21 #[.val (.ref a1), .val (.ref ob2), .val (.int (1 : Int32))] [(.ref a1), (.ref ob2)])
  obtain ⟨T7, X7, e7, st7⟩ := getF X4 hx hZ hown (host := "") (Or.inl (wd_15 hw)) Via.refl e4 f3 (g := (mkF m 21 #[.val (.ref a1), .val (.ref ob2), .val (.int (1 : Int32))] [(.ref a1), (.ref ob2)])) rfl rfl (hb hby d4_21)
  refine own_go st7 ?_
  show own_G p e below Φ T7 (mkF m 24 #[.val (.ref a1), .val (.ref ob2), .val (.int (1 : Int32))] [(.ref ar), (.ref ob2)])
  refine own_go (fun _ => XS.iloadN X7.here hx rfl (hb hby d4_24) rfl) ?_
  show own_G p e below Φ T7 (mkF m 25 #[.val (.ref a1), .val (.ref ob2), .val (.int (1 : Int32))] [(.int (1 : Int32)), (.ref ar), (.ref ob2)])
  obtain ⟨cl8, Ar8, q8, S8, M8, H8, G8⟩ := id f5
  have hin8 : ¬ ((1 : Int32) < 0 ∨ cl8.slots.size ≤ ((1 : Int32)).toNatClampNeg) := inb_of S8 ⟨by decide, by decide⟩
  refine own_go (fun _ => X7.iaload hx (j := (1 : Int32)) (v := (.int v1)) (by rw [e7]; exact Ar8.1) (State.isArrayOf_alike hZ.alike Ar8.2.1) Ar8.2.2 hin8 (H8.at hin8 rfl) (g := (mkF m 25 #[.val (.ref a1), .val (.ref ob2), .val (.int (1 : Int32))] [(.int (1 : Int32)), (.ref ar), (.ref ob2)])) rfl rfl (hb hby d4_25) _) ?_
  show own_G p e below Φ T7 (mkF m 26 #[.val (.ref a1), .val (.ref ob2), .val (.int (1 : Int32))] [(.int v1), (.ref ob2)])
  refine own_go (fun _ => XS.iloadN X7.here hx rfl (hb hby d4_26) rfl) ?_
  show own_G p e below Φ T7 (mkF m 27 #[.val (.ref a1), .val (.ref ob2), .val (.int (1 : Int32))] [(.int (1 : Int32)), (.int v1), (.ref ob2)])
  obtain ⟨cl9, Ar9, q9, S9, M9, H9, G9⟩ := id V2
  have hin9 : ¬ (v1 < 0 ∨ cl9.slots.size ≤ (v1).toNatClampNeg) := inb_of S9 hv1
  obtain ⟨T9, h9, X9, e9, W9, st9⟩ := stI X7 hx hZ e7 Ar9 (j := v1) hin9 (g := (mkF m 27 #[.val (.ref a1), .val (.ref ob2), .val (.int (1 : Int32))] [(.int (1 : Int32)), (.int v1), (.ref ob2)])) rfl rfl (hb hby d4_27)
  refine own_go st9 ?_
  have V9 : Arv Z h9 ob2 ka2 .int cnt (own_vs (own_put (own_zeros cnt) v1 (1 : Int32))) (.int (0 : Int32)) := own_vs_set _ _ _ ▸ Arv.set Ar9 q9 S9 M9 H9 G9 rfl W9 _ rfl (by simp only [own_vs_len, own_put_len, own_zeros_len]; exact own_clamp hv1)
  have N9 := Fr.snoc X9 N0 g_ob2
  have K9 := K2.wr W9 (Or.inr sz_ob2)
  have Zp9 : n0 ≤ h9.size := Nat.le_trans Zp2 (Keep.of_wr W9).1
  show own_G p e below Φ T9 (mkF m 28 #[.val (.ref a1), .val (.ref ob2), .val (.int (1 : Int32))] [])
  refine own_go (fun _ => XS.iinc X9.here hx rfl (hb hby d4_28) rfl (l' := #[.val (.ref a1), .val (.ref ob2), .val (.int (0 : Int32))]) rfl) ?_
  show own_G p e below Φ T9 (mkF m 31 #[.val (.ref a1), .val (.ref ob2), .val (.int (0 : Int32))] [])
  refine own_go (fun _ => XS.goto X9.here hx rfl (pc0 := 31) (pc' := 15) rfl (hb hby d4_31) (by decide) (by decide)) ?_
  show own_G p e below Φ T9 (mkF m 15 #[.val (.ref a1), .val (.ref ob2), .val (.int (0 : Int32))] [])
  refine own_go (fun _ => XS.iloadN X9.here hx rfl (hb hby d4_15) rfl) ?_
  show own_G p e below Φ T9 (mkF m 16 #[.val (.ref a1), .val (.ref ob2), .val (.int (0 : Int32))] [(.int (0 : Int32))])
  refine own_go (fun _ => XS.ifNo X9.here hx rfl (hb hby d4_16) rfl (Jvm.Free.XT.i0_lt_f (by decide : ¬ ((0 : Int32) < (0 : Int32))))) ?_
  show own_G p e below Φ T9 (mkF m 19 #[.val (.ref a1), .val (.ref ob2), .val (.int (0 : Int32))] [])
  refine own_go (fun _ => XS.aloadN X9.here hx rfl (hb hby d4_19) rfl rfl) ?_
  show own_G p e below Φ T9 (mkF m 20 #[.val (.ref a1), .val (.ref ob2), .val (.int (0 : Int32))] [(.ref ob2)])
  refine own_go (fun _ => XS.aloadN X9.here hx rfl (hb hby d4_20) rfl rfl) ?_
  show own_G p e below Φ T9 (mkF m 21 #[.val (.ref a1), .val (.ref ob2), .val (.int (0 : Int32))] [(.ref a1), (.ref ob2)])
  have f10 : Fld Z h9 a1 "com/example/edgewarden/edgewarden/graph/Likeness" "m_aClasses" "[I" (.ref ar) := f3.other W9 (Or.inl ne_a1_ob2)
  obtain ⟨T11, X11, e11, st11⟩ := getF X9 hx hZ hown (host := "") (Or.inl (wd_15 hw)) Via.refl e9 f10 (g := (mkF m 21 #[.val (.ref a1), .val (.ref ob2), .val (.int (0 : Int32))] [(.ref a1), (.ref ob2)])) rfl rfl (hb hby d4_21)
  refine own_go st11 ?_
  show own_G p e below Φ T11 (mkF m 24 #[.val (.ref a1), .val (.ref ob2), .val (.int (0 : Int32))] [(.ref ar), (.ref ob2)])
  refine own_go (fun _ => XS.iloadN X11.here hx rfl (hb hby d4_24) rfl) ?_
  show own_G p e below Φ T11 (mkF m 25 #[.val (.ref a1), .val (.ref ob2), .val (.int (0 : Int32))] [(.int (0 : Int32)), (.ref ar), (.ref ob2)])
  have f12 : Arv Z h9 ar ka .int (2 : Int32) [(.int v0), (.int v1)] (.int (0 : Int32)) := f5.other W9 ne_ar_ob2
  obtain ⟨cl13, Ar13, q13, S13, M13, H13, G13⟩ := id f12
  have hin13 : ¬ ((0 : Int32) < 0 ∨ cl13.slots.size ≤ ((0 : Int32)).toNatClampNeg) := inb_of S13 ⟨by decide, by decide⟩
  refine own_go (fun _ => X11.iaload hx (j := (0 : Int32)) (v := (.int v0)) (by rw [e11]; exact Ar13.1) (State.isArrayOf_alike hZ.alike Ar13.2.1) Ar13.2.2 hin13 (H13.at hin13 rfl) (g := (mkF m 25 #[.val (.ref a1), .val (.ref ob2), .val (.int (0 : Int32))] [(.int (0 : Int32)), (.ref ar), (.ref ob2)])) rfl rfl (hb hby d4_25) _) ?_
  show own_G p e below Φ T11 (mkF m 26 #[.val (.ref a1), .val (.ref ob2), .val (.int (0 : Int32))] [(.int v0), (.ref ob2)])
  refine own_go (fun _ => XS.iloadN X11.here hx rfl (hb hby d4_26) rfl) ?_
  show own_G p e below Φ T11 (mkF m 27 #[.val (.ref a1), .val (.ref ob2), .val (.int (0 : Int32))] [(.int (0 : Int32)), (.int v0), (.ref ob2)])
  obtain ⟨cl14, Ar14, q14, S14, M14, H14, G14⟩ := id V9
  have hin14 : ¬ (v0 < 0 ∨ cl14.slots.size ≤ (v0).toNatClampNeg) := inb_of S14 hv0
  obtain ⟨T14, h14, X14, e14, W14, st14⟩ := stI X11 hx hZ e11 Ar14 (j := v0) hin14 (g := (mkF m 27 #[.val (.ref a1), .val (.ref ob2), .val (.int (0 : Int32))] [(.int (0 : Int32)), (.int v0), (.ref ob2)])) rfl rfl (hb hby d4_27)
  refine own_go st14 ?_
  have V14 : Arv Z h14 ob2 ka2 .int cnt (own_vs (own_put (own_put (own_zeros cnt) v1 (1 : Int32)) v0 (0 : Int32))) (.int (0 : Int32)) := own_vs_set _ _ _ ▸ Arv.set Ar14 q14 S14 M14 H14 G14 rfl W14 _ rfl (by simp only [own_vs_len, own_put_len, own_zeros_len]; exact own_clamp hv0)
  have N14 := Fr.snoc X14 N9 g_ob2
  have K14 := K9.wr W14 (Or.inr sz_ob2)
  have Zp14 : n0 ≤ h14.size := Nat.le_trans Zp9 (Keep.of_wr W14).1
  show own_G p e below Φ T14 (mkF m 28 #[.val (.ref a1), .val (.ref ob2), .val (.int (0 : Int32))] [])
  refine own_go (fun _ => XS.iinc X14.here hx rfl (hb hby d4_28) rfl (l' := #[.val (.ref a1), .val (.ref ob2), .val (.int (-1 : Int32))]) rfl) ?_
  show own_G p e below Φ T14 (mkF m 31 #[.val (.ref a1), .val (.ref ob2), .val (.int (-1 : Int32))] [])
  refine own_go (fun _ => XS.goto X14.here hx rfl (pc0 := 31) (pc' := 15) rfl (hb hby d4_31) (by decide) (by decide)) ?_
  show own_G p e below Φ T14 (mkF m 15 #[.val (.ref a1), .val (.ref ob2), .val (.int (-1 : Int32))] [])
  refine own_go (fun _ => XS.iloadN X14.here hx rfl (hb hby d4_15) rfl) ?_
  show own_G p e below Φ T14 (mkF m 16 #[.val (.ref a1), .val (.ref ob2), .val (.int (-1 : Int32))] [(.int (-1 : Int32))])
  refine own_go (fun _ => XS.ifYes X14.here hx rfl (pc0 := 16) (pc' := 34) rfl (hb hby d4_16) rfl (Jvm.Free.XT.i0_lt_t (by decide : ((-1 : Int32) < (0 : Int32)))) (by decide) (by decide)) ?_
  show own_G p e below Φ T14 (mkF m 34 #[.val (.ref a1), .val (.ref ob2), .val (.int (-1 : Int32))] [])
  refine own_go (fun _ => XS.aloadN X14.here hx rfl (hb hby d4_34) rfl rfl) ?_
  show own_G p e below Φ T14 (mkF m 35 #[.val (.ref a1), .val (.ref ob2), .val (.int (-1 : Int32))] [(.ref ob2)])
  rw [hΦ]
  refine own_ret X14 (v := some (.ref ob2)) (fun h => by rw [Bd.returns] at h; cases h) (BodyLoose.notSynchronized Bd) (fun fs hr => retOut X14 hx Bd.returns rfl (Or.inr (Or.inr (Or.inr (Or.inr ⟨rfl, rfl, rfl⟩)))) (hb hby d4_35) hr) ?_ (by decide) (by decide)
  rw [e14]
  exact ⟨ob2, sz_ob2, ka2, rfl, N14, K14, V14⟩
theorem ef_rmS3 (m : MethodId) (a1 : Addr) : entryFrame m #[(.ref a1)] 3 = mkF m 0 #[.val (.ref a1), .unset, .unset] [] := by first | (simp [entryFrame, mkF, argsToLocals, Value.category]; done) | rfl
def Q_rmS3 (Z : State) (a1 : Addr) (ar : Addr) (ka : ClassId) (cnt : Int32) (v0 : Int32) (v1 : Int32) (v2 : Int32) (h0 : Heap) (n0 : Nat) (v : Option Value) (h : Heap) (L : List Loc) : Prop := ∃ b : Addr, h0.size ≤ b ∧ ∃ kb : ClassId, v = some (.ref b) ∧ Fr n0 L ∧ Keep h0 h [] ∧ Arv Z h b kb .int cnt (own_vs (own_put (own_put (own_put (own_zeros cnt) v2 (2 : Int32)) v1 (1 : Int32)) v0 (0 : Int32))) (.int (0 : Int32))
set_option maxRecDepth 65536 in
set_option maxHeartbeats 40000000 in
theorem rmS3 (l : Launch) (Z : State) (a0 : Array Value) (hw : ∀ d ∈ tables_1, d.before a0 Z = true) (ws : List Jvm.Cond) (a1 : Addr) (ar : Addr) (ka : ClassId) (cnt : Int32) (v0 : Int32) (v1 : Int32) (v2 : Int32) (h0 : Heap) (n0 : Nat) (Z0 : n0 ≤ h0.size) (F_m_nClassCount_a1 : Fld Z h0 a1 "com/example/edgewarden/edgewarden/graph/Likeness" "m_nClassCount" "I" (.int cnt)) (F_m_aClasses_a1 : Fld Z h0 a1 "com/example/edgewarden/edgewarden/graph/Likeness" "m_aClasses" "[I" (.ref ar)) (V_ar : Arv Z h0 ar ka .int (3 : Int32) [(.int v0), (.int v1), (.int v2)] (.int (0 : Int32))) (hc0 : ¬ cnt < 0) (hc5 : cnt.toNatClampNeg ≤ 5) (hv0 : ¬ v0 < 0 ∧ v0 < cnt) (hv1 : ¬ v1 < 0 ∧ v1 < cnt) (hv2 : ¬ v2 < 0 ∧ v2 < cnt) :
    MetFree l (⟨"com/example/edgewarden/edgewarden/graph/Likeness", "getFirstMembers", "()[I"⟩ : MethodName) (head1 (Jvm.Cond.code (⟨"com/example/edgewarden/edgewarden/graph/Likeness", "getFirstMembers", "()[I"⟩ : MethodName) prog_57_method_8_code 3 (some (.array .int)) :: ws) ({ frames := 0, cells := 1, slots := 5, locals := 0 } : Room)) (fun a U => a = #[(.ref a1)] ∧ Z.Warmed39 U.vm ∧ U.heap = h0) (fun _ _ _ _ _ => True) (fun _ U o U' => ∃ v L, o = .returned v ∧ Q_rmS3 Z a1 ar ka cnt v0 v1 v2 h0 n0 v U'.heap L ∧ FrameEnd U o U' L ({ frames := 0, cells := 1, slots := 5, locals := 0 } : Room).cells ({ frames := 0, cells := 1, slots := 5, locals := 0 } : Room).slots) := by
  refine MetFree.of_bodySF (plainFor_of_name pn_0) hisR ?_
  intro p e s m args below meth c s₁ Bd hml0 hP hK
  obtain ⟨rfl, hZ, hh⟩ := hP
  have hx := Bd.exec
  have hby := Bd.bytes
  have hml : c.maxLocals = 3 := hml0
  have hown : s.vm.findClass "com/example/edgewarden/edgewarden/graph/Likeness" = some m.cls := findClass_of_methodNamed Bd.named
  have hnm := (name_of_methodNamed Bd.named Bd.method).1
  have X0 : Stand p l e ({ frames := 0, cells := 1, slots := 5, locals := 0 } : Room) s m #[(.ref a1)] below meth c s₁ [] 0 0 := Stand.of_body Bd
  have e0 : s₁.heap = h0 := by rw [← hh, Bd.state]; rfl
  have N0 := Fr.nil n0
  have K0 : Keep h0 h0 [] := Keep.refl _ _
  suffices G0 : own_G p e below (own_E s below (Q_rmS3 Z a1 ar ka cnt v0 v1 v2 h0 n0) ({ frames := 0, cells := 1, slots := 5, locals := 0 } : Room).cells ({ frames := 0, cells := 1, slots := 5, locals := 0 } : Room).slots) s₁ (mkF m 0 #[.val (.ref a1), .unset, .unset] []) by
    obtain ⟨zt, zst, zo, zq1, zq2, zq3⟩ := G0
    exact ⟨zt, zo, castTop (ef_rmS3 m a1) zst, zq1, zq2, zq3⟩
  obtain ⟨Φ, hΦ⟩ : ∃ Φ, Φ = own_E s below (Q_rmS3 Z a1 ar ka cnt v0 v1 v2 h0 n0) ({ frames := 0, cells := 1, slots := 5, locals := 0 } : Room).cells ({ frames := 0, cells := 1, slots := 5, locals := 0 } : Room).slots := ⟨_, rfl⟩
  rw [← hΦ]
  show own_G p e below Φ s₁ (mkF m 0 #[.val (.ref a1), .unset, .unset] [])
  refine own_go (fun _ => XS.aloadN X0.here hx rfl (hb hby d4_0) rfl rfl) ?_
  show own_G p e below Φ s₁ (mkF m 1 #[.val (.ref a1), .unset, .unset] [(.ref a1)])
  obtain ⟨T1, X1, e1, st1⟩ := getF X0 hx hZ hown (host := "") (Or.inl (wd_17 hw)) Via.refl e0 F_m_nClassCount_a1 (g := (mkF m 1 #[.val (.ref a1), .unset, .unset] [(.ref a1)])) rfl rfl (hb hby d4_1)
  refine own_go st1 ?_
  show own_G p e below Φ T1 (mkF m 4 #[.val (.ref a1), .unset, .unset] [(.int cnt)])
  obtain ⟨T2, h2, ka2, X2, e2, E2, A2, st2⟩ := newP (aty := .int) X1 hx hZ (wd_5 hw) e1 (g := (mkF m 4 #[.val (.ref a1), .unset, .unset] [(.int cnt)])) rfl (hb hby d4_4) rfl hc0 (cap := 5) hc5 (by decide) (by decide) (by decide)
  obtain ⟨ob2, g2⟩ : ∃ z, z = h0.size := ⟨_, rfl⟩
  rw [← g2] at A2 st2
  have ne_a1_ob2 : a1 ≠ ob2 := Nat.ne_of_lt (Nat.lt_of_lt_of_le F_m_nClassCount_a1.lt (Nat.le_of_eq g2.symm))
  have ne_ar_ob2 : ar ≠ ob2 := Nat.ne_of_lt (Nat.lt_of_lt_of_le V_ar.lt (Nat.le_of_eq g2.symm))
  have V2 : Arv Z h2 ob2 ka2 .int cnt (own_vs (own_zeros cnt)) (.int (0 : Int32)) := (Arv.new A2 hc0).pad (own_pad _)
  have g_ob2 : n0 ≤ ob2 := Nat.le_trans Z0 (Nat.le_of_eq g2.symm)
  have sz_ob2 : h0.size ≤ ob2 := Nat.le_trans K0.1 (Nat.le_of_eq g2.symm)
  have K2 := K0.ext E2
  have Zp2 : n0 ≤ h2.size := Nat.le_trans Z0 E2.1
  refine own_go st2 ?_
  show own_G p e below Φ T2 (mkF m 6 #[.val (.ref a1), .unset, .unset] [(.ref ob2)])
  refine own_go (fun _ => XS.astoreN X2.here hx rfl (hb hby d4_6) rfl rfl (l' := #[.val (.ref a1), .val (.ref ob2), .unset]) rfl) ?_
  show own_G p e below Φ T2 (mkF m 7 #[.val (.ref a1), .val (.ref ob2), .unset] [])
  refine own_go (fun _ => XS.aloadN X2.here hx rfl (hb hby d4_7) rfl rfl) ?_
  show own_G p e below Φ T2 (mkF m 8 #[.val (.ref a1), .val (.ref ob2), .unset] [(.ref a1)])
  have f3 : Fld Z h2 a1 "com/example/edgewarden/edgewarden/graph/Likeness" "m_aClasses" "[I" (.ref ar) := F_m_aClasses_a1.ext E2
  obtain ⟨T4, X4, e4, st4⟩ := getF X2 hx hZ hown (host := "") (Or.inl (wd_15 hw)) Via.refl e2 f3 (g := (mkF m 8 #[.val (.ref a1), .val (.ref ob2), .unset] [(.ref a1)])) rfl rfl (hb hby d4_8)
  refine own_go st4 ?_
  show own_G p e below Φ T4 (mkF m 11 #[.val (.ref a1), .val (.ref ob2), .unset] [(.ref ar)])
  have f5 : Arv Z h2 ar ka .int (3 : Int32) [(.int v0), (.int v1), (.int v2)] (.int (0 : Int32)) := V_ar.ext E2
  obtain ⟨cl6, Ar6, q6, S6, M6, H6, G6⟩ := id f5
  refine own_go (fun _ => X4.arraylength hx (by rw [e4]; exact Ar6.1) (State.isArrayOf_alike hZ.alike Ar6.2.1) (g := (mkF m 11 #[.val (.ref a1), .val (.ref ob2), .unset] [(.ref ar)])) rfl rfl (hb hby d4_11) _) ?_
  rw [len_of S6 M6]
  show own_G p e below Φ T4 (mkF m 12 #[.val (.ref a1), .val (.ref ob2), .unset] [(.int (3 : Int32))])
  refine own_go (fun _ => XS.iconst X4.here hx rfl (hb hby d4_12)) ?_
  show own_G p e below Φ T4 (mkF m 13 #[.val (.ref a1), .val (.ref ob2), .unset] [(.int (1 : Int32)), (.int (3 : Int32))])
  refine own_go (fun _ => XS.isub X4.here hx rfl (hb hby d4_13) rfl) ?_
  show own_G p e below Φ T4 (mkF m 14 #[.val (.ref a1), .val (.ref ob2), .unset] [(.int (2 : Int32))])
  refine own_go (fun _ => XS.istoreN X4.here hx rfl (hb hby d4_14) rfl (l' := #[.val (.ref a1), .val (.ref ob2), .val (.int (2 : Int32))]) rfl) ?_
  show own_G p e below Φ T4 (mkF m 15 #[.val (.ref a1), .val (.ref ob2), .val (.int (2 : Int32))] [])
  refine own_go (fun _ => XS.iloadN X4.here hx rfl (hb hby d4_15) rfl) ?_
  show own_G p e below Φ T4 (mkF m 16 #[.val (.ref a1), .val (.ref ob2), .val (.int (2 : Int32))] [(.int (2 : Int32))])
  refine own_go (fun _ => XS.ifNo X4.here hx rfl (hb hby d4_16) rfl (Jvm.Free.XT.i0_lt_f (by decide : ¬ ((2 : Int32) < (0 : Int32))))) ?_
  show own_G p e below Φ T4 (mkF m 19 #[.val (.ref a1), .val (.ref ob2), .val (.int (2 : Int32))] [])
  refine own_go (fun _ => XS.aloadN X4.here hx rfl (hb hby d4_19) rfl rfl) ?_
  show own_G p e below Φ T4 (mkF m 20 #[.val (.ref a1), .val (.ref ob2), .val (.int (2 : Int32))] [(.ref ob2)])
  refine own_go (fun _ => XS.aloadN X4.here hx rfl (hb hby d4_20) rfl rfl) ?_
  show own_G p e below Φ T4 (mkF m 21 #[.val (.ref a1), .val (.ref ob2), .val (.int (2 : Int32))] [(.ref a1), (.ref ob2)])
  obtain ⟨T7, X7, e7, st7⟩ := getF X4 hx hZ hown (host := "") (Or.inl (wd_15 hw)) Via.refl e4 f3 (g := (mkF m 21 #[.val (.ref a1), .val (.ref ob2), .val (.int (2 : Int32))] [(.ref a1), (.ref ob2)])) rfl rfl (hb hby d4_21)
  refine own_go st7 ?_
  show own_G p e below Φ T7 (mkF m 24 #[.val (.ref a1), .val (.ref ob2), .val (.int (2 : Int32))] [(.ref ar), (.ref ob2)])
  refine own_go (fun _ => XS.iloadN X7.here hx rfl (hb hby d4_24) rfl) ?_
  show own_G p e below Φ T7 (mkF m 25 #[.val (.ref a1), .val (.ref ob2), .val (.int (2 : Int32))] [(.int (2 : Int32)), (.ref ar), (.ref ob2)])
  obtain ⟨cl8, Ar8, q8, S8, M8, H8, G8⟩ := id f5
  have hin8 : ¬ ((2 : Int32) < 0 ∨ cl8.slots.size ≤ ((2 : Int32)).toNatClampNeg) := inb_of S8 ⟨by decide, by decide⟩
  refine own_go (fun _ => X7.iaload hx (j := (2 : Int32)) (v := (.int v2)) (by rw [e7]; exact Ar8.1) (State.isArrayOf_alike hZ.alike Ar8.2.1) Ar8.2.2 hin8 (H8.at hin8 rfl) (g := (mkF m 25 #[.val (.ref a1), .val (.ref ob2), .val (.int (2 : Int32))] [(.int (2 : Int32)), (.ref ar), (.ref ob2)])) rfl rfl (hb hby d4_25) _) ?_
  show own_G p e below Φ T7 (mkF m 26 #[.val (.ref a1), .val (.ref ob2), .val (.int (2 : Int32))] [(.int v2), (.ref ob2)])
  refine own_go (fun _ => XS.iloadN X7.here hx rfl (hb hby d4_26) rfl) ?_
  show own_G p e below Φ T7 (mkF m 27 #[.val (.ref a1), .val (.ref ob2), .val (.int (2 : Int32))] [(.int (2 : Int32)), (.int v2), (.ref ob2)])
  obtain ⟨cl9, Ar9, q9, S9, M9, H9, G9⟩ := id V2
  have hin9 : ¬ (v2 < 0 ∨ cl9.slots.size ≤ (v2).toNatClampNeg) := inb_of S9 hv2
  obtain ⟨T9, h9, X9, e9, W9, st9⟩ := stI X7 hx hZ e7 Ar9 (j := v2) hin9 (g := (mkF m 27 #[.val (.ref a1), .val (.ref ob2), .val (.int (2 : Int32))] [(.int (2 : Int32)), (.int v2), (.ref ob2)])) rfl rfl (hb hby d4_27)
  refine own_go st9 ?_
  have V9 : Arv Z h9 ob2 ka2 .int cnt (own_vs (own_put (own_zeros cnt) v2 (2 : Int32))) (.int (0 : Int32)) := own_vs_set _ _ _ ▸ Arv.set Ar9 q9 S9 M9 H9 G9 rfl W9 _ rfl (by simp only [own_vs_len, own_put_len, own_zeros_len]; exact own_clamp hv2)
  have N9 := Fr.snoc X9 N0 g_ob2
  have K9 := K2.wr W9 (Or.inr sz_ob2)
  have Zp9 : n0 ≤ h9.size := Nat.le_trans Zp2 (Keep.of_wr W9).1
  show own_G p e below Φ T9 (mkF m 28 #[.val (.ref a1), .val (.ref ob2), .val (.int (2 : Int32))] [])
  refine own_go (fun _ => XS.iinc X9.here hx rfl (hb hby d4_28) rfl (l' := #[.val (.ref a1), .val (.ref ob2), .val (.int (1 : Int32))]) rfl) ?_
  show own_G p e below Φ T9 (mkF m 31 #[.val (.ref a1), .val (.ref ob2), .val (.int (1 : Int32))] [])
  refine own_go (fun _ => XS.goto X9.here hx rfl (pc0 := 31) (pc' := 15) rfl (hb hby d4_31) (by decide) (by decide)) ?_
  show own_G p e below Φ T9 (mkF m 15 #[.val (.ref a1), .val (.ref ob2), .val (.int (1 : Int32))] [])
  refine own_go (fun _ => XS.iloadN X9.here hx rfl (hb hby d4_15) rfl) ?_
  show own_G p e below Φ T9 (mkF m 16 #[.val (.ref a1), .val (.ref ob2), .val (.int (1 : Int32))] [(.int (1 : Int32))])
  refine own_go (fun _ => XS.ifNo X9.here hx rfl (hb hby d4_16) rfl (Jvm.Free.XT.i0_lt_f (by decide : ¬ ((1 : Int32) < (0 : Int32))))) ?_
  show own_G p e below Φ T9 (mkF m 19 #[.val (.ref a1), .val (.ref ob2), .val (.int (1 : Int32))] [])
  refine own_go (fun _ => XS.aloadN X9.here hx rfl (hb hby d4_19) rfl rfl) ?_
  show own_G p e below Φ T9 (mkF m 20 #[.val (.ref a1), .val (.ref ob2), .val (.int (1 : Int32))] [(.ref ob2)])
  refine own_go (fun _ => XS.aloadN X9.here hx rfl (hb hby d4_20) rfl rfl) ?_
  show own_G p e below Φ T9 (mkF m 21 #[.val (.ref a1), .val (.ref ob2), .val (.int (1 : Int32))] [(.ref a1), (.ref ob2)])
  have f10 : Fld Z h9 a1 "com/example/edgewarden/edgewarden/graph/Likeness" "m_aClasses" "[I" (.ref ar) := f3.other W9 (Or.inl ne_a1_ob2)
  obtain ⟨T11, X11, e11, st11⟩ := getF X9 hx hZ hown (host := "") (Or.inl (wd_15 hw)) Via.refl e9 f10 (g := (mkF m 21 #[.val (.ref a1), .val (.ref ob2), .val (.int (1 : Int32))] [(.ref a1), (.ref ob2)])) rfl rfl (hb hby d4_21)
  refine own_go st11 ?_
  show own_G p e below Φ T11 (mkF m 24 #[.val (.ref a1), .val (.ref ob2), .val (.int (1 : Int32))] [(.ref ar), (.ref ob2)])
  refine own_go (fun _ => XS.iloadN X11.here hx rfl (hb hby d4_24) rfl) ?_
  show own_G p e below Φ T11 (mkF m 25 #[.val (.ref a1), .val (.ref ob2), .val (.int (1 : Int32))] [(.int (1 : Int32)), (.ref ar), (.ref ob2)])
  have f12 : Arv Z h9 ar ka .int (3 : Int32) [(.int v0), (.int v1), (.int v2)] (.int (0 : Int32)) := f5.other W9 ne_ar_ob2
  obtain ⟨cl13, Ar13, q13, S13, M13, H13, G13⟩ := id f12
  have hin13 : ¬ ((1 : Int32) < 0 ∨ cl13.slots.size ≤ ((1 : Int32)).toNatClampNeg) := inb_of S13 ⟨by decide, by decide⟩
  refine own_go (fun _ => X11.iaload hx (j := (1 : Int32)) (v := (.int v1)) (by rw [e11]; exact Ar13.1) (State.isArrayOf_alike hZ.alike Ar13.2.1) Ar13.2.2 hin13 (H13.at hin13 rfl) (g := (mkF m 25 #[.val (.ref a1), .val (.ref ob2), .val (.int (1 : Int32))] [(.int (1 : Int32)), (.ref ar), (.ref ob2)])) rfl rfl (hb hby d4_25) _) ?_
  show own_G p e below Φ T11 (mkF m 26 #[.val (.ref a1), .val (.ref ob2), .val (.int (1 : Int32))] [(.int v1), (.ref ob2)])
  refine own_go (fun _ => XS.iloadN X11.here hx rfl (hb hby d4_26) rfl) ?_
  show own_G p e below Φ T11 (mkF m 27 #[.val (.ref a1), .val (.ref ob2), .val (.int (1 : Int32))] [(.int (1 : Int32)), (.int v1), (.ref ob2)])
  obtain ⟨cl14, Ar14, q14, S14, M14, H14, G14⟩ := id V9
  have hin14 : ¬ (v1 < 0 ∨ cl14.slots.size ≤ (v1).toNatClampNeg) := inb_of S14 hv1
  obtain ⟨T14, h14, X14, e14, W14, st14⟩ := stI X11 hx hZ e11 Ar14 (j := v1) hin14 (g := (mkF m 27 #[.val (.ref a1), .val (.ref ob2), .val (.int (1 : Int32))] [(.int (1 : Int32)), (.int v1), (.ref ob2)])) rfl rfl (hb hby d4_27)
  refine own_go st14 ?_
  have V14 : Arv Z h14 ob2 ka2 .int cnt (own_vs (own_put (own_put (own_zeros cnt) v2 (2 : Int32)) v1 (1 : Int32))) (.int (0 : Int32)) := own_vs_set _ _ _ ▸ Arv.set Ar14 q14 S14 M14 H14 G14 rfl W14 _ rfl (by simp only [own_vs_len, own_put_len, own_zeros_len]; exact own_clamp hv1)
  have N14 := Fr.snoc X14 N9 g_ob2
  have K14 := K9.wr W14 (Or.inr sz_ob2)
  have Zp14 : n0 ≤ h14.size := Nat.le_trans Zp9 (Keep.of_wr W14).1
  show own_G p e below Φ T14 (mkF m 28 #[.val (.ref a1), .val (.ref ob2), .val (.int (1 : Int32))] [])
  refine own_go (fun _ => XS.iinc X14.here hx rfl (hb hby d4_28) rfl (l' := #[.val (.ref a1), .val (.ref ob2), .val (.int (0 : Int32))]) rfl) ?_
  show own_G p e below Φ T14 (mkF m 31 #[.val (.ref a1), .val (.ref ob2), .val (.int (0 : Int32))] [])
  refine own_go (fun _ => XS.goto X14.here hx rfl (pc0 := 31) (pc' := 15) rfl (hb hby d4_31) (by decide) (by decide)) ?_
  show own_G p e below Φ T14 (mkF m 15 #[.val (.ref a1), .val (.ref ob2), .val (.int (0 : Int32))] [])
  refine own_go (fun _ => XS.iloadN X14.here hx rfl (hb hby d4_15) rfl) ?_
  show own_G p e below Φ T14 (mkF m 16 #[.val (.ref a1), .val (.ref ob2), .val (.int (0 : Int32))] [(.int (0 : Int32))])
  refine own_go (fun _ => XS.ifNo X14.here hx rfl (hb hby d4_16) rfl (Jvm.Free.XT.i0_lt_f (by decide : ¬ ((0 : Int32) < (0 : Int32))))) ?_
  show own_G p e below Φ T14 (mkF m 19 #[.val (.ref a1), .val (.ref ob2), .val (.int (0 : Int32))] [])
  refine own_go (fun _ => XS.aloadN X14.here hx rfl (hb hby d4_19) rfl rfl) ?_
  show own_G p e below Φ T14 (mkF m 20 #[.val (.ref a1), .val (.ref ob2), .val (.int (0 : Int32))] [(.ref ob2)])
  refine own_go (fun _ => XS.aloadN X14.here hx rfl (hb hby d4_20) rfl rfl) ?_
  show own_G p e below Φ T14 (mkF m 21 #[.val (.ref a1), .val (.ref ob2), .val (.int (0 : Int32))] [(.ref a1), (.ref ob2)])
  have f15 : Fld Z h14 a1 "com/example/edgewarden/edgewarden/graph/Likeness" "m_aClasses" "[I" (.ref ar) := f10.other W14 (Or.inl ne_a1_ob2)
  obtain ⟨T16, X16, e16, st16⟩ := getF X14 hx hZ hown (host := "") (Or.inl (wd_15 hw)) Via.refl e14 f15 (g := (mkF m 21 #[.val (.ref a1), .val (.ref ob2), .val (.int (0 : Int32))] [(.ref a1), (.ref ob2)])) rfl rfl (hb hby d4_21)
  refine own_go st16 ?_
  show own_G p e below Φ T16 (mkF m 24 #[.val (.ref a1), .val (.ref ob2), .val (.int (0 : Int32))] [(.ref ar), (.ref ob2)])
  refine own_go (fun _ => XS.iloadN X16.here hx rfl (hb hby d4_24) rfl) ?_
  show own_G p e below Φ T16 (mkF m 25 #[.val (.ref a1), .val (.ref ob2), .val (.int (0 : Int32))] [(.int (0 : Int32)), (.ref ar), (.ref ob2)])
  have f17 : Arv Z h14 ar ka .int (3 : Int32) [(.int v0), (.int v1), (.int v2)] (.int (0 : Int32)) := f12.other W14 ne_ar_ob2
  obtain ⟨cl18, Ar18, q18, S18, M18, H18, G18⟩ := id f17
  have hin18 : ¬ ((0 : Int32) < 0 ∨ cl18.slots.size ≤ ((0 : Int32)).toNatClampNeg) := inb_of S18 ⟨by decide, by decide⟩
  refine own_go (fun _ => X16.iaload hx (j := (0 : Int32)) (v := (.int v0)) (by rw [e16]; exact Ar18.1) (State.isArrayOf_alike hZ.alike Ar18.2.1) Ar18.2.2 hin18 (H18.at hin18 rfl) (g := (mkF m 25 #[.val (.ref a1), .val (.ref ob2), .val (.int (0 : Int32))] [(.int (0 : Int32)), (.ref ar), (.ref ob2)])) rfl rfl (hb hby d4_25) _) ?_
  show own_G p e below Φ T16 (mkF m 26 #[.val (.ref a1), .val (.ref ob2), .val (.int (0 : Int32))] [(.int v0), (.ref ob2)])
  refine own_go (fun _ => XS.iloadN X16.here hx rfl (hb hby d4_26) rfl) ?_
  show own_G p e below Φ T16 (mkF m 27 #[.val (.ref a1), .val (.ref ob2), .val (.int (0 : Int32))] [(.int (0 : Int32)), (.int v0), (.ref ob2)])
  obtain ⟨cl19, Ar19, q19, S19, M19, H19, G19⟩ := id V14
  have hin19 : ¬ (v0 < 0 ∨ cl19.slots.size ≤ (v0).toNatClampNeg) := inb_of S19 hv0
  obtain ⟨T19, h19, X19, e19, W19, st19⟩ := stI X16 hx hZ e16 Ar19 (j := v0) hin19 (g := (mkF m 27 #[.val (.ref a1), .val (.ref ob2), .val (.int (0 : Int32))] [(.int (0 : Int32)), (.int v0), (.ref ob2)])) rfl rfl (hb hby d4_27)
  refine own_go st19 ?_
  have V19 : Arv Z h19 ob2 ka2 .int cnt (own_vs (own_put (own_put (own_put (own_zeros cnt) v2 (2 : Int32)) v1 (1 : Int32)) v0 (0 : Int32))) (.int (0 : Int32)) := own_vs_set _ _ _ ▸ Arv.set Ar19 q19 S19 M19 H19 G19 rfl W19 _ rfl (by simp only [own_vs_len, own_put_len, own_zeros_len]; exact own_clamp hv0)
  have N19 := Fr.snoc X19 N14 g_ob2
  have K19 := K14.wr W19 (Or.inr sz_ob2)
  have Zp19 : n0 ≤ h19.size := Nat.le_trans Zp14 (Keep.of_wr W19).1
  show own_G p e below Φ T19 (mkF m 28 #[.val (.ref a1), .val (.ref ob2), .val (.int (0 : Int32))] [])
  refine own_go (fun _ => XS.iinc X19.here hx rfl (hb hby d4_28) rfl (l' := #[.val (.ref a1), .val (.ref ob2), .val (.int (-1 : Int32))]) rfl) ?_
  show own_G p e below Φ T19 (mkF m 31 #[.val (.ref a1), .val (.ref ob2), .val (.int (-1 : Int32))] [])
  refine own_go (fun _ => XS.goto X19.here hx rfl (pc0 := 31) (pc' := 15) rfl (hb hby d4_31) (by decide) (by decide)) ?_
  show own_G p e below Φ T19 (mkF m 15 #[.val (.ref a1), .val (.ref ob2), .val (.int (-1 : Int32))] [])
  refine own_go (fun _ => XS.iloadN X19.here hx rfl (hb hby d4_15) rfl) ?_
  show own_G p e below Φ T19 (mkF m 16 #[.val (.ref a1), .val (.ref ob2), .val (.int (-1 : Int32))] [(.int (-1 : Int32))])
  refine own_go (fun _ => XS.ifYes X19.here hx rfl (pc0 := 16) (pc' := 34) rfl (hb hby d4_16) rfl (Jvm.Free.XT.i0_lt_t (by decide : ((-1 : Int32) < (0 : Int32)))) (by decide) (by decide)) ?_
  show own_G p e below Φ T19 (mkF m 34 #[.val (.ref a1), .val (.ref ob2), .val (.int (-1 : Int32))] [])
  refine own_go (fun _ => XS.aloadN X19.here hx rfl (hb hby d4_34) rfl rfl) ?_
  show own_G p e below Φ T19 (mkF m 35 #[.val (.ref a1), .val (.ref ob2), .val (.int (-1 : Int32))] [(.ref ob2)])
  rw [hΦ]
  refine own_ret X19 (v := some (.ref ob2)) (fun h => by rw [Bd.returns] at h; cases h) (BodyLoose.notSynchronized Bd) (fun fs hr => retOut X19 hx Bd.returns rfl (Or.inr (Or.inr (Or.inr (Or.inr ⟨rfl, rfl, rfl⟩)))) (hb hby d4_35) hr) ?_ (by decide) (by decide)
  rw [e19]
  exact ⟨ob2, sz_ob2, ka2, rfl, N19, K19, V19⟩
theorem ef_rmS4 (m : MethodId) (a1 : Addr) : entryFrame m #[(.ref a1)] 3 = mkF m 0 #[.val (.ref a1), .unset, .unset] [] := by first | (simp [entryFrame, mkF, argsToLocals, Value.category]; done) | rfl
def Q_rmS4 (Z : State) (a1 : Addr) (ar : Addr) (ka : ClassId) (cnt : Int32) (v0 : Int32) (v1 : Int32) (v2 : Int32) (v3 : Int32) (h0 : Heap) (n0 : Nat) (v : Option Value) (h : Heap) (L : List Loc) : Prop := ∃ b : Addr, h0.size ≤ b ∧ ∃ kb : ClassId, v = some (.ref b) ∧ Fr n0 L ∧ Keep h0 h [] ∧ Arv Z h b kb .int cnt (own_vs (own_put (own_put (own_put (own_put (own_zeros cnt) v3 (3 : Int32)) v2 (2 : Int32)) v1 (1 : Int32)) v0 (0 : Int32))) (.int (0 : Int32))
set_option maxRecDepth 65536 in
set_option maxHeartbeats 40000000 in
theorem rmS4 (l : Launch) (Z : State) (a0 : Array Value) (hw : ∀ d ∈ tables_1, d.before a0 Z = true) (ws : List Jvm.Cond) (a1 : Addr) (ar : Addr) (ka : ClassId) (cnt : Int32) (v0 : Int32) (v1 : Int32) (v2 : Int32) (v3 : Int32) (h0 : Heap) (n0 : Nat) (Z0 : n0 ≤ h0.size) (F_m_nClassCount_a1 : Fld Z h0 a1 "com/example/edgewarden/edgewarden/graph/Likeness" "m_nClassCount" "I" (.int cnt)) (F_m_aClasses_a1 : Fld Z h0 a1 "com/example/edgewarden/edgewarden/graph/Likeness" "m_aClasses" "[I" (.ref ar)) (V_ar : Arv Z h0 ar ka .int (4 : Int32) [(.int v0), (.int v1), (.int v2), (.int v3)] (.int (0 : Int32))) (hc0 : ¬ cnt < 0) (hc5 : cnt.toNatClampNeg ≤ 5) (hv0 : ¬ v0 < 0 ∧ v0 < cnt) (hv1 : ¬ v1 < 0 ∧ v1 < cnt) (hv2 : ¬ v2 < 0 ∧ v2 < cnt) (hv3 : ¬ v3 < 0 ∧ v3 < cnt) :
    MetFree l (⟨"com/example/edgewarden/edgewarden/graph/Likeness", "getFirstMembers", "()[I"⟩ : MethodName) (head1 (Jvm.Cond.code (⟨"com/example/edgewarden/edgewarden/graph/Likeness", "getFirstMembers", "()[I"⟩ : MethodName) prog_57_method_8_code 3 (some (.array .int)) :: ws) ({ frames := 0, cells := 1, slots := 5, locals := 0 } : Room)) (fun a U => a = #[(.ref a1)] ∧ Z.Warmed39 U.vm ∧ U.heap = h0) (fun _ _ _ _ _ => True) (fun _ U o U' => ∃ v L, o = .returned v ∧ Q_rmS4 Z a1 ar ka cnt v0 v1 v2 v3 h0 n0 v U'.heap L ∧ FrameEnd U o U' L ({ frames := 0, cells := 1, slots := 5, locals := 0 } : Room).cells ({ frames := 0, cells := 1, slots := 5, locals := 0 } : Room).slots) := by
  refine MetFree.of_bodySF (plainFor_of_name pn_0) hisR ?_
  intro p e s m args below meth c s₁ Bd hml0 hP hK
  obtain ⟨rfl, hZ, hh⟩ := hP
  have hx := Bd.exec
  have hby := Bd.bytes
  have hml : c.maxLocals = 3 := hml0
  have hown : s.vm.findClass "com/example/edgewarden/edgewarden/graph/Likeness" = some m.cls := findClass_of_methodNamed Bd.named
  have hnm := (name_of_methodNamed Bd.named Bd.method).1
  have X0 : Stand p l e ({ frames := 0, cells := 1, slots := 5, locals := 0 } : Room) s m #[(.ref a1)] below meth c s₁ [] 0 0 := Stand.of_body Bd
  have e0 : s₁.heap = h0 := by rw [← hh, Bd.state]; rfl
  have N0 := Fr.nil n0
  have K0 : Keep h0 h0 [] := Keep.refl _ _
  suffices G0 : own_G p e below (own_E s below (Q_rmS4 Z a1 ar ka cnt v0 v1 v2 v3 h0 n0) ({ frames := 0, cells := 1, slots := 5, locals := 0 } : Room).cells ({ frames := 0, cells := 1, slots := 5, locals := 0 } : Room).slots) s₁ (mkF m 0 #[.val (.ref a1), .unset, .unset] []) by
    obtain ⟨zt, zst, zo, zq1, zq2, zq3⟩ := G0
    exact ⟨zt, zo, castTop (ef_rmS4 m a1) zst, zq1, zq2, zq3⟩
  obtain ⟨Φ, hΦ⟩ : ∃ Φ, Φ = own_E s below (Q_rmS4 Z a1 ar ka cnt v0 v1 v2 v3 h0 n0) ({ frames := 0, cells := 1, slots := 5, locals := 0 } : Room).cells ({ frames := 0, cells := 1, slots := 5, locals := 0 } : Room).slots := ⟨_, rfl⟩
  rw [← hΦ]
  show own_G p e below Φ s₁ (mkF m 0 #[.val (.ref a1), .unset, .unset] [])
  refine own_go (fun _ => XS.aloadN X0.here hx rfl (hb hby d4_0) rfl rfl) ?_
  show own_G p e below Φ s₁ (mkF m 1 #[.val (.ref a1), .unset, .unset] [(.ref a1)])
  obtain ⟨T1, X1, e1, st1⟩ := getF X0 hx hZ hown (host := "") (Or.inl (wd_17 hw)) Via.refl e0 F_m_nClassCount_a1 (g := (mkF m 1 #[.val (.ref a1), .unset, .unset] [(.ref a1)])) rfl rfl (hb hby d4_1)
  refine own_go st1 ?_
  show own_G p e below Φ T1 (mkF m 4 #[.val (.ref a1), .unset, .unset] [(.int cnt)])
  obtain ⟨T2, h2, ka2, X2, e2, E2, A2, st2⟩ := newP (aty := .int) X1 hx hZ (wd_5 hw) e1 (g := (mkF m 4 #[.val (.ref a1), .unset, .unset] [(.int cnt)])) rfl (hb hby d4_4) rfl hc0 (cap := 5) hc5 (by decide) (by decide) (by decide)
  obtain ⟨ob2, g2⟩ : ∃ z, z = h0.size := ⟨_, rfl⟩
  rw [← g2] at A2 st2
  have ne_a1_ob2 : a1 ≠ ob2 := Nat.ne_of_lt (Nat.lt_of_lt_of_le F_m_nClassCount_a1.lt (Nat.le_of_eq g2.symm))
  have ne_ar_ob2 : ar ≠ ob2 := Nat.ne_of_lt (Nat.lt_of_lt_of_le V_ar.lt (Nat.le_of_eq g2.symm))
  have V2 : Arv Z h2 ob2 ka2 .int cnt (own_vs (own_zeros cnt)) (.int (0 : Int32)) := (Arv.new A2 hc0).pad (own_pad _)
  have g_ob2 : n0 ≤ ob2 := Nat.le_trans Z0 (Nat.le_of_eq g2.symm)
  have sz_ob2 : h0.size ≤ ob2 := Nat.le_trans K0.1 (Nat.le_of_eq g2.symm)
  have K2 := K0.ext E2
  have Zp2 : n0 ≤ h2.size := Nat.le_trans Z0 E2.1
  refine own_go st2 ?_
  show own_G p e below Φ T2 (mkF m 6 #[.val (.ref a1), .unset, .unset] [(.ref ob2)])
  refine own_go (fun _ => XS.astoreN X2.here hx rfl (hb hby d4_6) rfl rfl (l' := #[.val (.ref a1), .val (.ref ob2), .unset]) rfl) ?_
  show own_G p e below Φ T2 (mkF m 7 #[.val (.ref a1), .val (.ref ob2), .unset] [])
  refine own_go (fun _ => XS.aloadN X2.here hx rfl (hb hby d4_7) rfl rfl) ?_
  show own_G p e below Φ T2 (mkF m 8 #[.val (.ref a1), .val (.ref ob2), .unset] [(.ref a1)])
  have f3 : Fld Z h2 a1 "com/example/edgewarden/edgewarden/graph/Likeness" "m_aClasses" "[I" (.ref ar) := F_m_aClasses_a1.ext E2
  obtain ⟨T4, X4, e4, st4⟩ := getF X2 hx hZ hown (host := "") (Or.inl (wd_15 hw)) Via.refl e2 f3 (g := (mkF m 8 #[.val (.ref a1), .val (.ref ob2), .unset] [(.ref a1)])) rfl rfl (hb hby d4_8)
  refine own_go st4 ?_
  show own_G p e below Φ T4 (mkF m 11 #[.val (.ref a1), .val (.ref ob2), .unset] [(.ref ar)])
  have f5 : Arv Z h2 ar ka .int (4 : Int32) [(.int v0), (.int v1), (.int v2), (.int v3)] (.int (0 : Int32)) := V_ar.ext E2
  obtain ⟨cl6, Ar6, q6, S6, M6, H6, G6⟩ := id f5
  refine own_go (fun _ => X4.arraylength hx (by rw [e4]; exact Ar6.1) (State.isArrayOf_alike hZ.alike Ar6.2.1) (g := (mkF m 11 #[.val (.ref a1), .val (.ref ob2), .unset] [(.ref ar)])) rfl rfl (hb hby d4_11) _) ?_
  rw [len_of S6 M6]
  show own_G p e below Φ T4 (mkF m 12 #[.val (.ref a1), .val (.ref ob2), .unset] [(.int (4 : Int32))])
  refine own_go (fun _ => XS.iconst X4.here hx rfl (hb hby d4_12)) ?_
  show own_G p e below Φ T4 (mkF m 13 #[.val (.ref a1), .val (.ref ob2), .unset] [(.int (1 : Int32)), (.int (4 : Int32))])
  refine own_go (fun _ => XS.isub X4.here hx rfl (hb hby d4_13) rfl) ?_
  show own_G p e below Φ T4 (mkF m 14 #[.val (.ref a1), .val (.ref ob2), .unset] [(.int (3 : Int32))])
  refine own_go (fun _ => XS.istoreN X4.here hx rfl (hb hby d4_14) rfl (l' := #[.val (.ref a1), .val (.ref ob2), .val (.int (3 : Int32))]) rfl) ?_
  show own_G p e below Φ T4 (mkF m 15 #[.val (.ref a1), .val (.ref ob2), .val (.int (3 : Int32))] [])
  refine own_go (fun _ => XS.iloadN X4.here hx rfl (hb hby d4_15) rfl) ?_
  show own_G p e below Φ T4 (mkF m 16 #[.val (.ref a1), .val (.ref ob2), .val (.int (3 : Int32))] [(.int (3 : Int32))])
  refine own_go (fun _ => XS.ifNo X4.here hx rfl (hb hby d4_16) rfl (Jvm.Free.XT.i0_lt_f (by decide : ¬ ((3 : Int32) < (0 : Int32))))) ?_
  show own_G p e below Φ T4 (mkF m 19 #[.val (.ref a1), .val (.ref ob2), .val (.int (3 : Int32))] [])
  refine own_go (fun _ => XS.aloadN X4.here hx rfl (hb hby d4_19) rfl rfl) ?_
  show own_G p e below Φ T4 (mkF m 20 #[.val (.ref a1), .val (.ref ob2), .val (.int (3 : Int32))] [(.ref ob2)])
  refine own_go (fun _ => XS.aloadN X4.here hx rfl (hb hby d4_20) rfl rfl) ?_
  show own_G p e below Φ T4 (mkF m 21 #[.val (.ref a1), .val (.ref ob2), .val (.int (3 : Int32))] [(.ref a1), (.ref ob2)])
  obtain ⟨T7, X7, e7, st7⟩ := getF X4 hx hZ hown (host := "") (Or.inl (wd_15 hw)) Via.refl e4 f3 (g := (mkF m 21 #[.val (.ref a1), .val (.ref ob2), .val (.int (3 : Int32))] [(.ref a1), (.ref ob2)])) rfl rfl (hb hby d4_21)
  refine own_go st7 ?_
  show own_G p e below Φ T7 (mkF m 24 #[.val (.ref a1), .val (.ref ob2), .val (.int (3 : Int32))] [(.ref ar), (.ref ob2)])
  refine own_go (fun _ => XS.iloadN X7.here hx rfl (hb hby d4_24) rfl) ?_
  show own_G p e below Φ T7 (mkF m 25 #[.val (.ref a1), .val (.ref ob2), .val (.int (3 : Int32))] [(.int (3 : Int32)), (.ref ar), (.ref ob2)])
  obtain ⟨cl8, Ar8, q8, S8, M8, H8, G8⟩ := id f5
  have hin8 : ¬ ((3 : Int32) < 0 ∨ cl8.slots.size ≤ ((3 : Int32)).toNatClampNeg) := inb_of S8 ⟨by decide, by decide⟩
  refine own_go (fun _ => X7.iaload hx (j := (3 : Int32)) (v := (.int v3)) (by rw [e7]; exact Ar8.1) (State.isArrayOf_alike hZ.alike Ar8.2.1) Ar8.2.2 hin8 (H8.at hin8 rfl) (g := (mkF m 25 #[.val (.ref a1), .val (.ref ob2), .val (.int (3 : Int32))] [(.int (3 : Int32)), (.ref ar), (.ref ob2)])) rfl rfl (hb hby d4_25) _) ?_
  show own_G p e below Φ T7 (mkF m 26 #[.val (.ref a1), .val (.ref ob2), .val (.int (3 : Int32))] [(.int v3), (.ref ob2)])
  refine own_go (fun _ => XS.iloadN X7.here hx rfl (hb hby d4_26) rfl) ?_
  show own_G p e below Φ T7 (mkF m 27 #[.val (.ref a1), .val (.ref ob2), .val (.int (3 : Int32))] [(.int (3 : Int32)), (.int v3), (.ref ob2)])
  obtain ⟨cl9, Ar9, q9, S9, M9, H9, G9⟩ := id V2
  have hin9 : ¬ (v3 < 0 ∨ cl9.slots.size ≤ (v3).toNatClampNeg) := inb_of S9 hv3
  obtain ⟨T9, h9, X9, e9, W9, st9⟩ := stI X7 hx hZ e7 Ar9 (j := v3) hin9 (g := (mkF m 27 #[.val (.ref a1), .val (.ref ob2), .val (.int (3 : Int32))] [(.int (3 : Int32)), (.int v3), (.ref ob2)])) rfl rfl (hb hby d4_27)
  refine own_go st9 ?_
  have V9 : Arv Z h9 ob2 ka2 .int cnt (own_vs (own_put (own_zeros cnt) v3 (3 : Int32))) (.int (0 : Int32)) := own_vs_set _ _ _ ▸ Arv.set Ar9 q9 S9 M9 H9 G9 rfl W9 _ rfl (by simp only [own_vs_len, own_put_len, own_zeros_len]; exact own_clamp hv3)
  have N9 := Fr.snoc X9 N0 g_ob2
  have K9 := K2.wr W9 (Or.inr sz_ob2)
  have Zp9 : n0 ≤ h9.size := Nat.le_trans Zp2 (Keep.of_wr W9).1
  show own_G p e below Φ T9 (mkF m 28 #[.val (.ref a1), .val (.ref ob2), .val (.int (3 : Int32))] [])
  refine own_go (fun _ => XS.iinc X9.here hx rfl (hb hby d4_28) rfl (l' := #[.val (.ref a1), .val (.ref ob2), .val (.int (2 : Int32))]) rfl) ?_
  show own_G p e below Φ T9 (mkF m 31 #[.val (.ref a1), .val (.ref ob2), .val (.int (2 : Int32))] [])
  refine own_go (fun _ => XS.goto X9.here hx rfl (pc0 := 31) (pc' := 15) rfl (hb hby d4_31) (by decide) (by decide)) ?_
  show own_G p e below Φ T9 (mkF m 15 #[.val (.ref a1), .val (.ref ob2), .val (.int (2 : Int32))] [])
  refine own_go (fun _ => XS.iloadN X9.here hx rfl (hb hby d4_15) rfl) ?_
  show own_G p e below Φ T9 (mkF m 16 #[.val (.ref a1), .val (.ref ob2), .val (.int (2 : Int32))] [(.int (2 : Int32))])
  refine own_go (fun _ => XS.ifNo X9.here hx rfl (hb hby d4_16) rfl (Jvm.Free.XT.i0_lt_f (by decide : ¬ ((2 : Int32) < (0 : Int32))))) ?_
  show own_G p e below Φ T9 (mkF m 19 #[.val (.ref a1), .val (.ref ob2), .val (.int (2 : Int32))] [])
  refine own_go (fun _ => XS.aloadN X9.here hx rfl (hb hby d4_19) rfl rfl) ?_
  show own_G p e below Φ T9 (mkF m 20 #[.val (.ref a1), .val (.ref ob2), .val (.int (2 : Int32))] [(.ref ob2)])
  refine own_go (fun _ => XS.aloadN X9.here hx rfl (hb hby d4_20) rfl rfl) ?_
  show own_G p e below Φ T9 (mkF m 21 #[.val (.ref a1), .val (.ref ob2), .val (.int (2 : Int32))] [(.ref a1), (.ref ob2)])
  have f10 : Fld Z h9 a1 "com/example/edgewarden/edgewarden/graph/Likeness" "m_aClasses" "[I" (.ref ar) := f3.other W9 (Or.inl ne_a1_ob2)
  obtain ⟨T11, X11, e11, st11⟩ := getF X9 hx hZ hown (host := "") (Or.inl (wd_15 hw)) Via.refl e9 f10 (g := (mkF m 21 #[.val (.ref a1), .val (.ref ob2), .val (.int (2 : Int32))] [(.ref a1), (.ref ob2)])) rfl rfl (hb hby d4_21)
  refine own_go st11 ?_
  show own_G p e below Φ T11 (mkF m 24 #[.val (.ref a1), .val (.ref ob2), .val (.int (2 : Int32))] [(.ref ar), (.ref ob2)])
  refine own_go (fun _ => XS.iloadN X11.here hx rfl (hb hby d4_24) rfl) ?_
  show own_G p e below Φ T11 (mkF m 25 #[.val (.ref a1), .val (.ref ob2), .val (.int (2 : Int32))] [(.int (2 : Int32)), (.ref ar), (.ref ob2)])
  have f12 : Arv Z h9 ar ka .int (4 : Int32) [(.int v0), (.int v1), (.int v2), (.int v3)] (.int (0 : Int32)) := f5.other W9 ne_ar_ob2
  obtain ⟨cl13, Ar13, q13, S13, M13, H13, G13⟩ := id f12
  have hin13 : ¬ ((2 : Int32) < 0 ∨ cl13.slots.size ≤ ((2 : Int32)).toNatClampNeg) := inb_of S13 ⟨by decide, by decide⟩
  refine own_go (fun _ => X11.iaload hx (j := (2 : Int32)) (v := (.int v2)) (by rw [e11]; exact Ar13.1) (State.isArrayOf_alike hZ.alike Ar13.2.1) Ar13.2.2 hin13 (H13.at hin13 rfl) (g := (mkF m 25 #[.val (.ref a1), .val (.ref ob2), .val (.int (2 : Int32))] [(.int (2 : Int32)), (.ref ar), (.ref ob2)])) rfl rfl (hb hby d4_25) _) ?_
  show own_G p e below Φ T11 (mkF m 26 #[.val (.ref a1), .val (.ref ob2), .val (.int (2 : Int32))] [(.int v2), (.ref ob2)])
  refine own_go (fun _ => XS.iloadN X11.here hx rfl (hb hby d4_26) rfl) ?_
  show own_G p e below Φ T11 (mkF m 27 #[.val (.ref a1), .val (.ref ob2), .val (.int (2 : Int32))] [(.int (2 : Int32)), (.int v2), (.ref ob2)])
  obtain ⟨cl14, Ar14, q14, S14, M14, H14, G14⟩ := id V9
  have hin14 : ¬ (v2 < 0 ∨ cl14.slots.size ≤ (v2).toNatClampNeg) := inb_of S14 hv2
  obtain ⟨T14, h14, X14, e14, W14, st14⟩ := stI X11 hx hZ e11 Ar14 (j := v2) hin14 (g := (mkF m 27 #[.val (.ref a1), .val (.ref ob2), .val (.int (2 : Int32))] [(.int (2 : Int32)), (.int v2), (.ref ob2)])) rfl rfl (hb hby d4_27)
  refine own_go st14 ?_
  have V14 : Arv Z h14 ob2 ka2 .int cnt (own_vs (own_put (own_put (own_zeros cnt) v3 (3 : Int32)) v2 (2 : Int32))) (.int (0 : Int32)) := own_vs_set _ _ _ ▸ Arv.set Ar14 q14 S14 M14 H14 G14 rfl W14 _ rfl (by simp only [own_vs_len, own_put_len, own_zeros_len]; exact own_clamp hv2)
  have N14 := Fr.snoc X14 N9 g_ob2
  have K14 := K9.wr W14 (Or.inr sz_ob2)
  have Zp14 : n0 ≤ h14.size := Nat.le_trans Zp9 (Keep.of_wr W14).1
  show own_G p e below Φ T14 (mkF m 28 #[.val (.ref a1), .val (.ref ob2), .val (.int (2 : Int32))] [])
  refine own_go (fun _ => XS.iinc X14.here hx rfl (hb hby d4_28) rfl (l' := #[.val (.ref a1), .val (.ref ob2), .val (.int (1 : Int32))]) rfl) ?_
  show own_G p e below Φ T14 (mkF m 31 #[.val (.ref a1), .val (.ref ob2), .val (.int (1 : Int32))] [])
  refine own_go (fun _ => XS.goto X14.here hx rfl (pc0 := 31) (pc' := 15) rfl (hb hby d4_31) (by decide) (by decide)) ?_
  show own_G p e below Φ T14 (mkF m 15 #[.val (.ref a1), .val (.ref ob2), .val (.int (1 : Int32))] [])
  refine own_go (fun _ => XS.iloadN X14.here hx rfl (hb hby d4_15) rfl) ?_
  show own_G p e below Φ T14 (mkF m 16 #[.val (.ref a1), .val (.ref ob2), .val (.int (1 : Int32))] [(.int (1 : Int32))])
  refine own_go (fun _ => XS.ifNo X14.here hx rfl (hb hby d4_16) rfl (Jvm.Free.XT.i0_lt_f (by decide : ¬ ((1 : Int32) < (0 : Int32))))) ?_
  show own_G p e below Φ T14 (mkF m 19 #[.val (.ref a1), .val (.ref ob2), .val (.int (1 : Int32))] [])
  refine own_go (fun _ => XS.aloadN X14.here hx rfl (hb hby d4_19) rfl rfl) ?_
  show own_G p e below Φ T14 (mkF m 20 #[.val (.ref a1), .val (.ref ob2), .val (.int (1 : Int32))] [(.ref ob2)])
  refine own_go (fun _ => XS.aloadN X14.here hx rfl (hb hby d4_20) rfl rfl) ?_
  show own_G p e below Φ T14 (mkF m 21 #[.val (.ref a1), .val (.ref ob2), .val (.int (1 : Int32))] [(.ref a1), (.ref ob2)])
  have f15 : Fld Z h14 a1 "com/example/edgewarden/edgewarden/graph/Likeness" "m_aClasses" "[I" (.ref ar) := f10.other W14 (Or.inl ne_a1_ob2)
  obtain ⟨T16, X16, e16, st16⟩ := getF X14 hx hZ hown (host := "") (Or.inl (wd_15 hw)) Via.refl e14 f15 (g := (mkF m 21 #[.val (.ref a1), .val (.ref ob2), .val (.int (1 : Int32))] [(.ref a1), (.ref ob2)])) rfl rfl (hb hby d4_21)
  refine own_go st16 ?_
  show own_G p e below Φ T16 (mkF m 24 #[.val (.ref a1), .val (.ref ob2), .val (.int (1 : Int32))] [(.ref ar), (.ref ob2)])
  refine own_go (fun _ => XS.iloadN X16.here hx rfl (hb hby d4_24) rfl) ?_
  show own_G p e below Φ T16 (mkF m 25 #[.val (.ref a1), .val (.ref ob2), .val (.int (1 : Int32))] [(.int (1 : Int32)), (.ref ar), (.ref ob2)])
  have f17 : Arv Z h14 ar ka .int (4 : Int32) [(.int v0), (.int v1), (.int v2), (.int v3)] (.int (0 : Int32)) := f12.other W14 ne_ar_ob2
  obtain ⟨cl18, Ar18, q18, S18, M18, H18, G18⟩ := id f17
  have hin18 : ¬ ((1 : Int32) < 0 ∨ cl18.slots.size ≤ ((1 : Int32)).toNatClampNeg) := inb_of S18 ⟨by decide, by decide⟩
  refine own_go (fun _ => X16.iaload hx (j := (1 : Int32)) (v := (.int v1)) (by rw [e16]; exact Ar18.1) (State.isArrayOf_alike hZ.alike Ar18.2.1) Ar18.2.2 hin18 (H18.at hin18 rfl) (g := (mkF m 25 #[.val (.ref a1), .val (.ref ob2), .val (.int (1 : Int32))] [(.int (1 : Int32)), (.ref ar), (.ref ob2)])) rfl rfl (hb hby d4_25) _) ?_
  show own_G p e below Φ T16 (mkF m 26 #[.val (.ref a1), .val (.ref ob2), .val (.int (1 : Int32))] [(.int v1), (.ref ob2)])
  refine own_go (fun _ => XS.iloadN X16.here hx rfl (hb hby d4_26) rfl) ?_
  show own_G p e below Φ T16 (mkF m 27 #[.val (.ref a1), .val (.ref ob2), .val (.int (1 : Int32))] [(.int (1 : Int32)), (.int v1), (.ref ob2)])
  obtain ⟨cl19, Ar19, q19, S19, M19, H19, G19⟩ := id V14
  have hin19 : ¬ (v1 < 0 ∨ cl19.slots.size ≤ (v1).toNatClampNeg) := inb_of S19 hv1
  obtain ⟨T19, h19, X19, e19, W19, st19⟩ := stI X16 hx hZ e16 Ar19 (j := v1) hin19 (g := (mkF m 27 #[.val (.ref a1), .val (.ref ob2), .val (.int (1 : Int32))] [(.int (1 : Int32)), (.int v1), (.ref ob2)])) rfl rfl (hb hby d4_27)
  refine own_go st19 ?_
  have V19 : Arv Z h19 ob2 ka2 .int cnt (own_vs (own_put (own_put (own_put (own_zeros cnt) v3 (3 : Int32)) v2 (2 : Int32)) v1 (1 : Int32))) (.int (0 : Int32)) := own_vs_set _ _ _ ▸ Arv.set Ar19 q19 S19 M19 H19 G19 rfl W19 _ rfl (by simp only [own_vs_len, own_put_len, own_zeros_len]; exact own_clamp hv1)
  have N19 := Fr.snoc X19 N14 g_ob2
  have K19 := K14.wr W19 (Or.inr sz_ob2)
  have Zp19 : n0 ≤ h19.size := Nat.le_trans Zp14 (Keep.of_wr W19).1
  show own_G p e below Φ T19 (mkF m 28 #[.val (.ref a1), .val (.ref ob2), .val (.int (1 : Int32))] [])
  refine own_go (fun _ => XS.iinc X19.here hx rfl (hb hby d4_28) rfl (l' := #[.val (.ref a1), .val (.ref ob2), .val (.int (0 : Int32))]) rfl) ?_
  show own_G p e below Φ T19 (mkF m 31 #[.val (.ref a1), .val (.ref ob2), .val (.int (0 : Int32))] [])
  refine own_go (fun _ => XS.goto X19.here hx rfl (pc0 := 31) (pc' := 15) rfl (hb hby d4_31) (by decide) (by decide)) ?_
  show own_G p e below Φ T19 (mkF m 15 #[.val (.ref a1), .val (.ref ob2), .val (.int (0 : Int32))] [])
  refine own_go (fun _ => XS.iloadN X19.here hx rfl (hb hby d4_15) rfl) ?_
  show own_G p e below Φ T19 (mkF m 16 #[.val (.ref a1), .val (.ref ob2), .val (.int (0 : Int32))] [(.int (0 : Int32))])
  refine own_go (fun _ => XS.ifNo X19.here hx rfl (hb hby d4_16) rfl (Jvm.Free.XT.i0_lt_f (by decide : ¬ ((0 : Int32) < (0 : Int32))))) ?_
  show own_G p e below Φ T19 (mkF m 19 #[.val (.ref a1), .val (.ref ob2), .val (.int (0 : Int32))] [])
  refine own_go (fun _ => XS.aloadN X19.here hx rfl (hb hby d4_19) rfl rfl) ?_
  show own_G p e below Φ T19 (mkF m 20 #[.val (.ref a1), .val (.ref ob2), .val (.int (0 : Int32))] [(.ref ob2)])
  refine own_go (fun _ => XS.aloadN X19.here hx rfl (hb hby d4_20) rfl rfl) ?_
  show own_G p e below Φ T19 (mkF m 21 #[.val (.ref a1), .val (.ref ob2), .val (.int (0 : Int32))] [(.ref a1), (.ref ob2)])
  have f20 : Fld Z h19 a1 "com/example/edgewarden/edgewarden/graph/Likeness" "m_aClasses" "[I" (.ref ar) := f15.other W19 (Or.inl ne_a1_ob2)
  obtain ⟨T21, X21, e21, st21⟩ := getF X19 hx hZ hown (host := "") (Or.inl (wd_15 hw)) Via.refl e19 f20 (g := (mkF m 21 #[.val (.ref a1), .val (.ref ob2), .val (.int (0 : Int32))] [(.ref a1), (.ref ob2)])) rfl rfl (hb hby d4_21)
  refine own_go st21 ?_
  show own_G p e below Φ T21 (mkF m 24 #[.val (.ref a1), .val (.ref ob2), .val (.int (0 : Int32))] [(.ref ar), (.ref ob2)])
  refine own_go (fun _ => XS.iloadN X21.here hx rfl (hb hby d4_24) rfl) ?_
  show own_G p e below Φ T21 (mkF m 25 #[.val (.ref a1), .val (.ref ob2), .val (.int (0 : Int32))] [(.int (0 : Int32)), (.ref ar), (.ref ob2)])
  have f22 : Arv Z h19 ar ka .int (4 : Int32) [(.int v0), (.int v1), (.int v2), (.int v3)] (.int (0 : Int32)) := f17.other W19 ne_ar_ob2
  obtain ⟨cl23, Ar23, q23, S23, M23, H23, G23⟩ := id f22
  have hin23 : ¬ ((0 : Int32) < 0 ∨ cl23.slots.size ≤ ((0 : Int32)).toNatClampNeg) := inb_of S23 ⟨by decide, by decide⟩
  refine own_go (fun _ => X21.iaload hx (j := (0 : Int32)) (v := (.int v0)) (by rw [e21]; exact Ar23.1) (State.isArrayOf_alike hZ.alike Ar23.2.1) Ar23.2.2 hin23 (H23.at hin23 rfl) (g := (mkF m 25 #[.val (.ref a1), .val (.ref ob2), .val (.int (0 : Int32))] [(.int (0 : Int32)), (.ref ar), (.ref ob2)])) rfl rfl (hb hby d4_25) _) ?_
  show own_G p e below Φ T21 (mkF m 26 #[.val (.ref a1), .val (.ref ob2), .val (.int (0 : Int32))] [(.int v0), (.ref ob2)])
  refine own_go (fun _ => XS.iloadN X21.here hx rfl (hb hby d4_26) rfl) ?_
  show own_G p e below Φ T21 (mkF m 27 #[.val (.ref a1), .val (.ref ob2), .val (.int (0 : Int32))] [(.int (0 : Int32)), (.int v0), (.ref ob2)])
  obtain ⟨cl24, Ar24, q24, S24, M24, H24, G24⟩ := id V19
  have hin24 : ¬ (v0 < 0 ∨ cl24.slots.size ≤ (v0).toNatClampNeg) := inb_of S24 hv0
  obtain ⟨T24, h24, X24, e24, W24, st24⟩ := stI X21 hx hZ e21 Ar24 (j := v0) hin24 (g := (mkF m 27 #[.val (.ref a1), .val (.ref ob2), .val (.int (0 : Int32))] [(.int (0 : Int32)), (.int v0), (.ref ob2)])) rfl rfl (hb hby d4_27)
  refine own_go st24 ?_
  have V24 : Arv Z h24 ob2 ka2 .int cnt (own_vs (own_put (own_put (own_put (own_put (own_zeros cnt) v3 (3 : Int32)) v2 (2 : Int32)) v1 (1 : Int32)) v0 (0 : Int32))) (.int (0 : Int32)) := own_vs_set _ _ _ ▸ Arv.set Ar24 q24 S24 M24 H24 G24 rfl W24 _ rfl (by simp only [own_vs_len, own_put_len, own_zeros_len]; exact own_clamp hv0)
  have N24 := Fr.snoc X24 N19 g_ob2
  have K24 := K19.wr W24 (Or.inr sz_ob2)
  have Zp24 : n0 ≤ h24.size := Nat.le_trans Zp19 (Keep.of_wr W24).1
  show own_G p e below Φ T24 (mkF m 28 #[.val (.ref a1), .val (.ref ob2), .val (.int (0 : Int32))] [])
  refine own_go (fun _ => XS.iinc X24.here hx rfl (hb hby d4_28) rfl (l' := #[.val (.ref a1), .val (.ref ob2), .val (.int (-1 : Int32))]) rfl) ?_
  show own_G p e below Φ T24 (mkF m 31 #[.val (.ref a1), .val (.ref ob2), .val (.int (-1 : Int32))] [])
  refine own_go (fun _ => XS.goto X24.here hx rfl (pc0 := 31) (pc' := 15) rfl (hb hby d4_31) (by decide) (by decide)) ?_
  show own_G p e below Φ T24 (mkF m 15 #[.val (.ref a1), .val (.ref ob2), .val (.int (-1 : Int32))] [])
  refine own_go (fun _ => XS.iloadN X24.here hx rfl (hb hby d4_15) rfl) ?_
  show own_G p e below Φ T24 (mkF m 16 #[.val (.ref a1), .val (.ref ob2), .val (.int (-1 : Int32))] [(.int (-1 : Int32))])
  refine own_go (fun _ => XS.ifYes X24.here hx rfl (pc0 := 16) (pc' := 34) rfl (hb hby d4_16) rfl (Jvm.Free.XT.i0_lt_t (by decide : ((-1 : Int32) < (0 : Int32)))) (by decide) (by decide)) ?_
  show own_G p e below Φ T24 (mkF m 34 #[.val (.ref a1), .val (.ref ob2), .val (.int (-1 : Int32))] [])
  refine own_go (fun _ => XS.aloadN X24.here hx rfl (hb hby d4_34) rfl rfl) ?_
  show own_G p e below Φ T24 (mkF m 35 #[.val (.ref a1), .val (.ref ob2), .val (.int (-1 : Int32))] [(.ref ob2)])
  rw [hΦ]
  refine own_ret X24 (v := some (.ref ob2)) (fun h => by rw [Bd.returns] at h; cases h) (BodyLoose.notSynchronized Bd) (fun fs hr => retOut X24 hx Bd.returns rfl (Or.inr (Or.inr (Or.inr (Or.inr ⟨rfl, rfl, rfl⟩)))) (hb hby d4_35) hr) ?_ (by decide) (by decide)
  rw [e24]
  exact ⟨ob2, sz_ob2, ka2, rfl, N24, K24, V24⟩
theorem ef_rmS5 (m : MethodId) (a1 : Addr) : entryFrame m #[(.ref a1)] 3 = mkF m 0 #[.val (.ref a1), .unset, .unset] [] := by first | (simp [entryFrame, mkF, argsToLocals, Value.category]; done) | rfl
def Q_rmS5 (Z : State) (a1 : Addr) (ar : Addr) (ka : ClassId) (cnt : Int32) (v0 : Int32) (v1 : Int32) (v2 : Int32) (v3 : Int32) (v4 : Int32) (h0 : Heap) (n0 : Nat) (v : Option Value) (h : Heap) (L : List Loc) : Prop := ∃ b : Addr, h0.size ≤ b ∧ ∃ kb : ClassId, v = some (.ref b) ∧ Fr n0 L ∧ Keep h0 h [] ∧ Arv Z h b kb .int cnt (own_vs (own_put (own_put (own_put (own_put (own_put (own_zeros cnt) v4 (4 : Int32)) v3 (3 : Int32)) v2 (2 : Int32)) v1 (1 : Int32)) v0 (0 : Int32))) (.int (0 : Int32))
set_option maxRecDepth 65536 in
set_option maxHeartbeats 40000000 in
theorem rmS5 (l : Launch) (Z : State) (a0 : Array Value) (hw : ∀ d ∈ tables_1, d.before a0 Z = true) (ws : List Jvm.Cond) (a1 : Addr) (ar : Addr) (ka : ClassId) (cnt : Int32) (v0 : Int32) (v1 : Int32) (v2 : Int32) (v3 : Int32) (v4 : Int32) (h0 : Heap) (n0 : Nat) (Z0 : n0 ≤ h0.size) (F_m_nClassCount_a1 : Fld Z h0 a1 "com/example/edgewarden/edgewarden/graph/Likeness" "m_nClassCount" "I" (.int cnt)) (F_m_aClasses_a1 : Fld Z h0 a1 "com/example/edgewarden/edgewarden/graph/Likeness" "m_aClasses" "[I" (.ref ar)) (V_ar : Arv Z h0 ar ka .int (5 : Int32) [(.int v0), (.int v1), (.int v2), (.int v3), (.int v4)] (.int (0 : Int32))) (hc0 : ¬ cnt < 0) (hc5 : cnt.toNatClampNeg ≤ 5) (hv0 : ¬ v0 < 0 ∧ v0 < cnt) (hv1 : ¬ v1 < 0 ∧ v1 < cnt) (hv2 : ¬ v2 < 0 ∧ v2 < cnt) (hv3 : ¬ v3 < 0 ∧ v3 < cnt) (hv4 : ¬ v4 < 0 ∧ v4 < cnt) :
    MetFree l (⟨"com/example/edgewarden/edgewarden/graph/Likeness", "getFirstMembers", "()[I"⟩ : MethodName) (head1 (Jvm.Cond.code (⟨"com/example/edgewarden/edgewarden/graph/Likeness", "getFirstMembers", "()[I"⟩ : MethodName) prog_57_method_8_code 3 (some (.array .int)) :: ws) ({ frames := 0, cells := 1, slots := 5, locals := 0 } : Room)) (fun a U => a = #[(.ref a1)] ∧ Z.Warmed39 U.vm ∧ U.heap = h0) (fun _ _ _ _ _ => True) (fun _ U o U' => ∃ v L, o = .returned v ∧ Q_rmS5 Z a1 ar ka cnt v0 v1 v2 v3 v4 h0 n0 v U'.heap L ∧ FrameEnd U o U' L ({ frames := 0, cells := 1, slots := 5, locals := 0 } : Room).cells ({ frames := 0, cells := 1, slots := 5, locals := 0 } : Room).slots) := by
  refine MetFree.of_bodySF (plainFor_of_name pn_0) hisR ?_
  intro p e s m args below meth c s₁ Bd hml0 hP hK
  obtain ⟨rfl, hZ, hh⟩ := hP
  have hx := Bd.exec
  have hby := Bd.bytes
  have hml : c.maxLocals = 3 := hml0
  have hown : s.vm.findClass "com/example/edgewarden/edgewarden/graph/Likeness" = some m.cls := findClass_of_methodNamed Bd.named
  have hnm := (name_of_methodNamed Bd.named Bd.method).1
  have X0 : Stand p l e ({ frames := 0, cells := 1, slots := 5, locals := 0 } : Room) s m #[(.ref a1)] below meth c s₁ [] 0 0 := Stand.of_body Bd
  have e0 : s₁.heap = h0 := by rw [← hh, Bd.state]; rfl
  have N0 := Fr.nil n0
  have K0 : Keep h0 h0 [] := Keep.refl _ _
  suffices G0 : own_G p e below (own_E s below (Q_rmS5 Z a1 ar ka cnt v0 v1 v2 v3 v4 h0 n0) ({ frames := 0, cells := 1, slots := 5, locals := 0 } : Room).cells ({ frames := 0, cells := 1, slots := 5, locals := 0 } : Room).slots) s₁ (mkF m 0 #[.val (.ref a1), .unset, .unset] []) by
    obtain ⟨zt, zst, zo, zq1, zq2, zq3⟩ := G0
    exact ⟨zt, zo, castTop (ef_rmS5 m a1) zst, zq1, zq2, zq3⟩
  obtain ⟨Φ, hΦ⟩ : ∃ Φ, Φ = own_E s below (Q_rmS5 Z a1 ar ka cnt v0 v1 v2 v3 v4 h0 n0) ({ frames := 0, cells := 1, slots := 5, locals := 0 } : Room).cells ({ frames := 0, cells := 1, slots := 5, locals := 0 } : Room).slots := ⟨_, rfl⟩
  rw [← hΦ]
  show own_G p e below Φ s₁ (mkF m 0 #[.val (.ref a1), .unset, .unset] [])
  refine own_go (fun _ => XS.aloadN X0.here hx rfl (hb hby d4_0) rfl rfl) ?_
  show own_G p e below Φ s₁ (mkF m 1 #[.val (.ref a1), .unset, .unset] [(.ref a1)])
  obtain ⟨T1, X1, e1, st1⟩ := getF X0 hx hZ hown (host := "") (Or.inl (wd_17 hw)) Via.refl e0 F_m_nClassCount_a1 (g := (mkF m 1 #[.val (.ref a1), .unset, .unset] [(.ref a1)])) rfl rfl (hb hby d4_1)
  refine own_go st1 ?_
  show own_G p e below Φ T1 (mkF m 4 #[.val (.ref a1), .unset, .unset] [(.int cnt)])
  obtain ⟨T2, h2, ka2, X2, e2, E2, A2, st2⟩ := newP (aty := .int) X1 hx hZ (wd_5 hw) e1 (g := (mkF m 4 #[.val (.ref a1), .unset, .unset] [(.int cnt)])) rfl (hb hby d4_4) rfl hc0 (cap := 5) hc5 (by decide) (by decide) (by decide)
  obtain ⟨ob2, g2⟩ : ∃ z, z = h0.size := ⟨_, rfl⟩
  rw [← g2] at A2 st2
  have ne_a1_ob2 : a1 ≠ ob2 := Nat.ne_of_lt (Nat.lt_of_lt_of_le F_m_nClassCount_a1.lt (Nat.le_of_eq g2.symm))
  have ne_ar_ob2 : ar ≠ ob2 := Nat.ne_of_lt (Nat.lt_of_lt_of_le V_ar.lt (Nat.le_of_eq g2.symm))
  have V2 : Arv Z h2 ob2 ka2 .int cnt (own_vs (own_zeros cnt)) (.int (0 : Int32)) := (Arv.new A2 hc0).pad (own_pad _)
  have g_ob2 : n0 ≤ ob2 := Nat.le_trans Z0 (Nat.le_of_eq g2.symm)
  have sz_ob2 : h0.size ≤ ob2 := Nat.le_trans K0.1 (Nat.le_of_eq g2.symm)
  have K2 := K0.ext E2
  have Zp2 : n0 ≤ h2.size := Nat.le_trans Z0 E2.1
  refine own_go st2 ?_
  show own_G p e below Φ T2 (mkF m 6 #[.val (.ref a1), .unset, .unset] [(.ref ob2)])
  refine own_go (fun _ => XS.astoreN X2.here hx rfl (hb hby d4_6) rfl rfl (l' := #[.val (.ref a1), .val (.ref ob2), .unset]) rfl) ?_
  show own_G p e below Φ T2 (mkF m 7 #[.val (.ref a1), .val (.ref ob2), .unset] [])
  refine own_go (fun _ => XS.aloadN X2.here hx rfl (hb hby d4_7) rfl rfl) ?_
  show own_G p e below Φ T2 (mkF m 8 #[.val (.ref a1), .val (.ref ob2), .unset] [(.ref a1)])
  have f3 : Fld Z h2 a1 "com/example/edgewarden/edgewarden/graph/Likeness" "m_aClasses" "[I" (.ref ar) := F_m_aClasses_a1.ext E2
  obtain ⟨T4, X4, e4, st4⟩ := getF X2 hx hZ hown (host := "") (Or.inl (wd_15 hw)) Via.refl e2 f3 (g := (mkF m 8 #[.val (.ref a1), .val (.ref ob2), .unset] [(.ref a1)])) rfl rfl (hb hby d4_8)
  refine own_go st4 ?_
  show own_G p e below Φ T4 (mkF m 11 #[.val (.ref a1), .val (.ref ob2), .unset] [(.ref ar)])
  have f5 : Arv Z h2 ar ka .int (5 : Int32) [(.int v0), (.int v1), (.int v2), (.int v3), (.int v4)] (.int (0 : Int32)) := V_ar.ext E2
  obtain ⟨cl6, Ar6, q6, S6, M6, H6, G6⟩ := id f5
  refine own_go (fun _ => X4.arraylength hx (by rw [e4]; exact Ar6.1) (State.isArrayOf_alike hZ.alike Ar6.2.1) (g := (mkF m 11 #[.val (.ref a1), .val (.ref ob2), .unset] [(.ref ar)])) rfl rfl (hb hby d4_11) _) ?_
  rw [len_of S6 M6]
  show own_G p e below Φ T4 (mkF m 12 #[.val (.ref a1), .val (.ref ob2), .unset] [(.int (5 : Int32))])
  refine own_go (fun _ => XS.iconst X4.here hx rfl (hb hby d4_12)) ?_
  show own_G p e below Φ T4 (mkF m 13 #[.val (.ref a1), .val (.ref ob2), .unset] [(.int (1 : Int32)), (.int (5 : Int32))])
  refine own_go (fun _ => XS.isub X4.here hx rfl (hb hby d4_13) rfl) ?_
  show own_G p e below Φ T4 (mkF m 14 #[.val (.ref a1), .val (.ref ob2), .unset] [(.int (4 : Int32))])
  refine own_go (fun _ => XS.istoreN X4.here hx rfl (hb hby d4_14) rfl (l' := #[.val (.ref a1), .val (.ref ob2), .val (.int (4 : Int32))]) rfl) ?_
  show own_G p e below Φ T4 (mkF m 15 #[.val (.ref a1), .val (.ref ob2), .val (.int (4 : Int32))] [])
  refine own_go (fun _ => XS.iloadN X4.here hx rfl (hb hby d4_15) rfl) ?_
  show own_G p e below Φ T4 (mkF m 16 #[.val (.ref a1), .val (.ref ob2), .val (.int (4 : Int32))] [(.int (4 : Int32))])
  refine own_go (fun _ => XS.ifNo X4.here hx rfl (hb hby d4_16) rfl (Jvm.Free.XT.i0_lt_f (by decide : ¬ ((4 : Int32) < (0 : Int32))))) ?_
  show own_G p e below Φ T4 (mkF m 19 #[.val (.ref a1), .val (.ref ob2), .val (.int (4 : Int32))] [])
  refine own_go (fun _ => XS.aloadN X4.here hx rfl (hb hby d4_19) rfl rfl) ?_
  show own_G p e below Φ T4 (mkF m 20 #[.val (.ref a1), .val (.ref ob2), .val (.int (4 : Int32))] [(.ref ob2)])
  refine own_go (fun _ => XS.aloadN X4.here hx rfl (hb hby d4_20) rfl rfl) ?_
  show own_G p e below Φ T4 (mkF m 21 #[.val (.ref a1), .val (.ref ob2), .val (.int (4 : Int32))] [(.ref a1), (.ref ob2)])
  obtain ⟨T7, X7, e7, st7⟩ := getF X4 hx hZ hown (host := "") (Or.inl (wd_15 hw)) Via.refl e4 f3 (g := (mkF m 21 #[.val (.ref a1), .val (.ref ob2), .val (.int (4 : Int32))] [(.ref a1), (.ref ob2)])) rfl rfl (hb hby d4_21)
  refine own_go st7 ?_
  show own_G p e below Φ T7 (mkF m 24 #[.val (.ref a1), .val (.ref ob2), .val (.int (4 : Int32))] [(.ref ar), (.ref ob2)])
  refine own_go (fun _ => XS.iloadN X7.here hx rfl (hb hby d4_24) rfl) ?_
  show own_G p e below Φ T7 (mkF m 25 #[.val (.ref a1), .val (.ref ob2), .val (.int (4 : Int32))] [(.int (4 : Int32)), (.ref ar), (.ref ob2)])
  obtain ⟨cl8, Ar8, q8, S8, M8, H8, G8⟩ := id f5
  have hin8 : ¬ ((4 : Int32) < 0 ∨ cl8.slots.size ≤ ((4 : Int32)).toNatClampNeg) := inb_of S8 ⟨by decide, by decide⟩
  refine own_go (fun _ => X7.iaload hx (j := (4 : Int32)) (v := (.int v4)) (by rw [e7]; exact Ar8.1) (State.isArrayOf_alike hZ.alike Ar8.2.1) Ar8.2.2 hin8 (H8.at hin8 rfl) (g := (mkF m 25 #[.val (.ref a1), .val (.ref ob2), .val (.int (4 : Int32))] [(.int (4 : Int32)), (.ref ar), (.ref ob2)])) rfl rfl (hb hby d4_25) _) ?_
  show own_G p e below Φ T7 (mkF m 26 #[.val (.ref a1), .val (.ref ob2), .val (.int (4 : Int32))] [(.int v4), (.ref ob2)])
  refine own_go (fun _ => XS.iloadN X7.here hx rfl (hb hby d4_26) rfl) ?_
  show own_G p e below Φ T7 (mkF m 27 #[.val (.ref a1), .val (.ref ob2), .val (.int (4 : Int32))] [(.int (4 : Int32)), (.int v4), (.ref ob2)])
  obtain ⟨cl9, Ar9, q9, S9, M9, H9, G9⟩ := id V2
  have hin9 : ¬ (v4 < 0 ∨ cl9.slots.size ≤ (v4).toNatClampNeg) := inb_of S9 hv4
  obtain ⟨T9, h9, X9, e9, W9, st9⟩ := stI X7 hx hZ e7 Ar9 (j := v4) hin9 (g := (mkF m 27 #[.val (.ref a1), .val (.ref ob2), .val (.int (4 : Int32))] [(.int (4 : Int32)), (.int v4), (.ref ob2)])) rfl rfl (hb hby d4_27)
  refine own_go st9 ?_
  have V9 : Arv Z h9 ob2 ka2 .int cnt (own_vs (own_put (own_zeros cnt) v4 (4 : Int32))) (.int (0 : Int32)) := own_vs_set _ _ _ ▸ Arv.set Ar9 q9 S9 M9 H9 G9 rfl W9 _ rfl (by simp only [own_vs_len, own_put_len, own_zeros_len]; exact own_clamp hv4)
  have N9 := Fr.snoc X9 N0 g_ob2
  have K9 := K2.wr W9 (Or.inr sz_ob2)
  have Zp9 : n0 ≤ h9.size := Nat.le_trans Zp2 (Keep.of_wr W9).1
  show own_G p e below Φ T9 (mkF m 28 #[.val (.ref a1), .val (.ref ob2), .val (.int (4 : Int32))] [])
  refine own_go (fun _ => XS.iinc X9.here hx rfl (hb hby d4_28) rfl (l' := #[.val (.ref a1), .val (.ref ob2), .val (.int (3 : Int32))]) rfl) ?_
  show own_G p e below Φ T9 (mkF m 31 #[.val (.ref a1), .val (.ref ob2), .val (.int (3 : Int32))] [])
  refine own_go (fun _ => XS.goto X9.here hx rfl (pc0 := 31) (pc' := 15) rfl (hb hby d4_31) (by decide) (by decide)) ?_
  show own_G p e below Φ T9 (mkF m 15 #[.val (.ref a1), .val (.ref ob2), .val (.int (3 : Int32))] [])
  refine own_go (fun _ => XS.iloadN X9.here hx rfl (hb hby d4_15) rfl) ?_
  show own_G p e below Φ T9 (mkF m 16 #[.val (.ref a1), .val (.ref ob2), .val (.int (3 : Int32))] [(.int (3 : Int32))])
  refine own_go (fun _ => XS.ifNo X9.here hx rfl (hb hby d4_16) rfl (Jvm.Free.XT.i0_lt_f (by decide : ¬ ((3 : Int32) < (0 : Int32))))) ?_
  show own_G p e below Φ T9 (mkF m 19 #[.val (.ref a1), .val (.ref ob2), .val (.int (3 : Int32))] [])
  refine own_go (fun _ => XS.aloadN X9.here hx rfl (hb hby d4_19) rfl rfl) ?_
  show own_G p e below Φ T9 (mkF m 20 #[.val (.ref a1), .val (.ref ob2), .val (.int (3 : Int32))] [(.ref ob2)])
  refine own_go (fun _ => XS.aloadN X9.here hx rfl (hb hby d4_20) rfl rfl) ?_
  show own_G p e below Φ T9 (mkF m 21 #[.val (.ref a1), .val (.ref ob2), .val (.int (3 : Int32))] [(.ref a1), (.ref ob2)])
  have f10 : Fld Z h9 a1 "com/example/edgewarden/edgewarden/graph/Likeness" "m_aClasses" "[I" (.ref ar) := f3.other W9 (Or.inl ne_a1_ob2)
  obtain ⟨T11, X11, e11, st11⟩ := getF X9 hx hZ hown (host := "") (Or.inl (wd_15 hw)) Via.refl e9 f10 (g := (mkF m 21 #[.val (.ref a1), .val (.ref ob2), .val (.int (3 : Int32))] [(.ref a1), (.ref ob2)])) rfl rfl (hb hby d4_21)
  refine own_go st11 ?_
  show own_G p e below Φ T11 (mkF m 24 #[.val (.ref a1), .val (.ref ob2), .val (.int (3 : Int32))] [(.ref ar), (.ref ob2)])
  refine own_go (fun _ => XS.iloadN X11.here hx rfl (hb hby d4_24) rfl) ?_
  show own_G p e below Φ T11 (mkF m 25 #[.val (.ref a1), .val (.ref ob2), .val (.int (3 : Int32))] [(.int (3 : Int32)), (.ref ar), (.ref ob2)])
  have f12 : Arv Z h9 ar ka .int (5 : Int32) [(.int v0), (.int v1), (.int v2), (.int v3), (.int v4)] (.int (0 : Int32)) := f5.other W9 ne_ar_ob2
  obtain ⟨cl13, Ar13, q13, S13, M13, H13, G13⟩ := id f12
  have hin13 : ¬ ((3 : Int32) < 0 ∨ cl13.slots.size ≤ ((3 : Int32)).toNatClampNeg) := inb_of S13 ⟨by decide, by decide⟩
  refine own_go (fun _ => X11.iaload hx (j := (3 : Int32)) (v := (.int v3)) (by rw [e11]; exact Ar13.1) (State.isArrayOf_alike hZ.alike Ar13.2.1) Ar13.2.2 hin13 (H13.at hin13 rfl) (g := (mkF m 25 #[.val (.ref a1), .val (.ref ob2), .val (.int (3 : Int32))] [(.int (3 : Int32)), (.ref ar), (.ref ob2)])) rfl rfl (hb hby d4_25) _) ?_
  show own_G p e below Φ T11 (mkF m 26 #[.val (.ref a1), .val (.ref ob2), .val (.int (3 : Int32))] [(.int v3), (.ref ob2)])
  refine own_go (fun _ => XS.iloadN X11.here hx rfl (hb hby d4_26) rfl) ?_
  show own_G p e below Φ T11 (mkF m 27 #[.val (.ref a1), .val (.ref ob2), .val (.int (3 : Int32))] [(.int (3 : Int32)), (.int v3), (.ref ob2)])
  obtain ⟨cl14, Ar14, q14, S14, M14, H14, G14⟩ := id V9
  have hin14 : ¬ (v3 < 0 ∨ cl14.slots.size ≤ (v3).toNatClampNeg) := inb_of S14 hv3
  obtain ⟨T14, h14, X14, e14, W14, st14⟩ := stI X11 hx hZ e11 Ar14 (j := v3) hin14 (g := (mkF m 27 #[.val (.ref a1), .val (.ref ob2), .val (.int (3 : Int32))] [(.int (3 : Int32)), (.int v3), (.ref ob2)])) rfl rfl (hb hby d4_27)
  refine own_go st14 ?_
  have V14 : Arv Z h14 ob2 ka2 .int cnt (own_vs (own_put (own_put (own_zeros cnt) v4 (4 : Int32)) v3 (3 : Int32))) (.int (0 : Int32)) := own_vs_set _ _ _ ▸ Arv.set Ar14 q14 S14 M14 H14 G14 rfl W14 _ rfl (by simp only [own_vs_len, own_put_len, own_zeros_len]; exact own_clamp hv3)
  have N14 := Fr.snoc X14 N9 g_ob2
  have K14 := K9.wr W14 (Or.inr sz_ob2)
  have Zp14 : n0 ≤ h14.size := Nat.le_trans Zp9 (Keep.of_wr W14).1
  show own_G p e below Φ T14 (mkF m 28 #[.val (.ref a1), .val (.ref ob2), .val (.int (3 : Int32))] [])
  refine own_go (fun _ => XS.iinc X14.here hx rfl (hb hby d4_28) rfl (l' := #[.val (.ref a1), .val (.ref ob2), .val (.int (2 : Int32))]) rfl) ?_
  show own_G p e below Φ T14 (mkF m 31 #[.val (.ref a1), .val (.ref ob2), .val (.int (2 : Int32))] [])
  refine own_go (fun _ => XS.goto X14.here hx rfl (pc0 := 31) (pc' := 15) rfl (hb hby d4_31) (by decide) (by decide)) ?_
  show own_G p e below Φ T14 (mkF m 15 #[.val (.ref a1), .val (.ref ob2), .val (.int (2 : Int32))] [])
  refine own_go (fun _ => XS.iloadN X14.here hx rfl (hb hby d4_15) rfl) ?_
  show own_G p e below Φ T14 (mkF m 16 #[.val (.ref a1), .val (.ref ob2), .val (.int (2 : Int32))] [(.int (2 : Int32))])
  refine own_go (fun _ => XS.ifNo X14.here hx rfl (hb hby d4_16) rfl (Jvm.Free.XT.i0_lt_f (by decide : ¬ ((2 : Int32) < (0 : Int32))))) ?_
  show own_G p e below Φ T14 (mkF m 19 #[.val (.ref a1), .val (.ref ob2), .val (.int (2 : Int32))] [])
  refine own_go (fun _ => XS.aloadN X14.here hx rfl (hb hby d4_19) rfl rfl) ?_
  show own_G p e below Φ T14 (mkF m 20 #[.val (.ref a1), .val (.ref ob2), .val (.int (2 : Int32))] [(.ref ob2)])
  refine own_go (fun _ => XS.aloadN X14.here hx rfl (hb hby d4_20) rfl rfl) ?_
  show own_G p e below Φ T14 (mkF m 21 #[.val (.ref a1), .val (.ref ob2), .val (.int (2 : Int32))] [(.ref a1), (.ref ob2)])
  have f15 : Fld Z h14 a1 "com/example/edgewarden/edgewarden/graph/Likeness" "m_aClasses" "[I" (.ref ar) := f10.other W14 (Or.inl ne_a1_ob2)
  obtain ⟨T16, X16, e16, st16⟩ := getF X14 hx hZ hown (host := "") (Or.inl (wd_15 hw)) Via.refl e14 f15 (g := (mkF m 21 #[.val (.ref a1), .val (.ref ob2), .val (.int (2 : Int32))] [(.ref a1), (.ref ob2)])) rfl rfl (hb hby d4_21)
  refine own_go st16 ?_
  show own_G p e below Φ T16 (mkF m 24 #[.val (.ref a1), .val (.ref ob2), .val (.int (2 : Int32))] [(.ref ar), (.ref ob2)])
  refine own_go (fun _ => XS.iloadN X16.here hx rfl (hb hby d4_24) rfl) ?_
  show own_G p e below Φ T16 (mkF m 25 #[.val (.ref a1), .val (.ref ob2), .val (.int (2 : Int32))] [(.int (2 : Int32)), (.ref ar), (.ref ob2)])
  have f17 : Arv Z h14 ar ka .int (5 : Int32) [(.int v0), (.int v1), (.int v2), (.int v3), (.int v4)] (.int (0 : Int32)) := f12.other W14 ne_ar_ob2
  obtain ⟨cl18, Ar18, q18, S18, M18, H18, G18⟩ := id f17
  have hin18 : ¬ ((2 : Int32) < 0 ∨ cl18.slots.size ≤ ((2 : Int32)).toNatClampNeg) := inb_of S18 ⟨by decide, by decide⟩
  refine own_go (fun _ => X16.iaload hx (j := (2 : Int32)) (v := (.int v2)) (by rw [e16]; exact Ar18.1) (State.isArrayOf_alike hZ.alike Ar18.2.1) Ar18.2.2 hin18 (H18.at hin18 rfl) (g := (mkF m 25 #[.val (.ref a1), .val (.ref ob2), .val (.int (2 : Int32))] [(.int (2 : Int32)), (.ref ar), (.ref ob2)])) rfl rfl (hb hby d4_25) _) ?_
  show own_G p e below Φ T16 (mkF m 26 #[.val (.ref a1), .val (.ref ob2), .val (.int (2 : Int32))] [(.int v2), (.ref ob2)])
  refine own_go (fun _ => XS.iloadN X16.here hx rfl (hb hby d4_26) rfl) ?_
  show own_G p e below Φ T16 (mkF m 27 #[.val (.ref a1), .val (.ref ob2), .val (.int (2 : Int32))] [(.int (2 : Int32)), (.int v2), (.ref ob2)])
  obtain ⟨cl19, Ar19, q19, S19, M19, H19, G19⟩ := id V14
  have hin19 : ¬ (v2 < 0 ∨ cl19.slots.size ≤ (v2).toNatClampNeg) := inb_of S19 hv2
  obtain ⟨T19, h19, X19, e19, W19, st19⟩ := stI X16 hx hZ e16 Ar19 (j := v2) hin19 (g := (mkF m 27 #[.val (.ref a1), .val (.ref ob2), .val (.int (2 : Int32))] [(.int (2 : Int32)), (.int v2), (.ref ob2)])) rfl rfl (hb hby d4_27)
  refine own_go st19 ?_
  have V19 : Arv Z h19 ob2 ka2 .int cnt (own_vs (own_put (own_put (own_put (own_zeros cnt) v4 (4 : Int32)) v3 (3 : Int32)) v2 (2 : Int32))) (.int (0 : Int32)) := own_vs_set _ _ _ ▸ Arv.set Ar19 q19 S19 M19 H19 G19 rfl W19 _ rfl (by simp only [own_vs_len, own_put_len, own_zeros_len]; exact own_clamp hv2)
  have N19 := Fr.snoc X19 N14 g_ob2
  have K19 := K14.wr W19 (Or.inr sz_ob2)
  have Zp19 : n0 ≤ h19.size := Nat.le_trans Zp14 (Keep.of_wr W19).1
  show own_G p e below Φ T19 (mkF m 28 #[.val (.ref a1), .val (.ref ob2), .val (.int (2 : Int32))] [])
  refine own_go (fun _ => XS.iinc X19.here hx rfl (hb hby d4_28) rfl (l' := #[.val (.ref a1), .val (.ref ob2), .val (.int (1 : Int32))]) rfl) ?_
  show own_G p e below Φ T19 (mkF m 31 #[.val (.ref a1), .val (.ref ob2), .val (.int (1 : Int32))] [])
  refine own_go (fun _ => XS.goto X19.here hx rfl (pc0 := 31) (pc' := 15) rfl (hb hby d4_31) (by decide) (by decide)) ?_
  show own_G p e below Φ T19 (mkF m 15 #[.val (.ref a1), .val (.ref ob2), .val (.int (1 : Int32))] [])
  refine own_go (fun _ => XS.iloadN X19.here hx rfl (hb hby d4_15) rfl) ?_
  show own_G p e below Φ T19 (mkF m 16 #[.val (.ref a1), .val (.ref ob2), .val (.int (1 : Int32))] [(.int (1 : Int32))])
  refine own_go (fun _ => XS.ifNo X19.here hx rfl (hb hby d4_16) rfl (Jvm.Free.XT.i0_lt_f (by decide : ¬ ((1 : Int32) < (0 : Int32))))) ?_
  show own_G p e below Φ T19 (mkF m 19 #[.val (.ref a1), .val (.ref ob2), .val (.int (1 : Int32))] [])
  refine own_go (fun _ => XS.aloadN X19.here hx rfl (hb hby d4_19) rfl rfl) ?_
  show own_G p e below Φ T19 (mkF m 20 #[.val (.ref a1), .val (.ref ob2), .val (.int (1 : Int32))] [(.ref ob2)])
  refine own_go (fun _ => XS.aloadN X19.here hx rfl (hb hby d4_20) rfl rfl) ?_
  show own_G p e below Φ T19 (mkF m 21 #[.val (.ref a1), .val (.ref ob2), .val (.int (1 : Int32))] [(.ref a1), (.ref ob2)])
  have f20 : Fld Z h19 a1 "com/example/edgewarden/edgewarden/graph/Likeness" "m_aClasses" "[I" (.ref ar) := f15.other W19 (Or.inl ne_a1_ob2)
  obtain ⟨T21, X21, e21, st21⟩ := getF X19 hx hZ hown (host := "") (Or.inl (wd_15 hw)) Via.refl e19 f20 (g := (mkF m 21 #[.val (.ref a1), .val (.ref ob2), .val (.int (1 : Int32))] [(.ref a1), (.ref ob2)])) rfl rfl (hb hby d4_21)
  refine own_go st21 ?_
  show own_G p e below Φ T21 (mkF m 24 #[.val (.ref a1), .val (.ref ob2), .val (.int (1 : Int32))] [(.ref ar), (.ref ob2)])
  refine own_go (fun _ => XS.iloadN X21.here hx rfl (hb hby d4_24) rfl) ?_
  show own_G p e below Φ T21 (mkF m 25 #[.val (.ref a1), .val (.ref ob2), .val (.int (1 : Int32))] [(.int (1 : Int32)), (.ref ar), (.ref ob2)])
  have f22 : Arv Z h19 ar ka .int (5 : Int32) [(.int v0), (.int v1), (.int v2), (.int v3), (.int v4)] (.int (0 : Int32)) := f17.other W19 ne_ar_ob2
  obtain ⟨cl23, Ar23, q23, S23, M23, H23, G23⟩ := id f22
  have hin23 : ¬ ((1 : Int32) < 0 ∨ cl23.slots.size ≤ ((1 : Int32)).toNatClampNeg) := inb_of S23 ⟨by decide, by decide⟩
  refine own_go (fun _ => X21.iaload hx (j := (1 : Int32)) (v := (.int v1)) (by rw [e21]; exact Ar23.1) (State.isArrayOf_alike hZ.alike Ar23.2.1) Ar23.2.2 hin23 (H23.at hin23 rfl) (g := (mkF m 25 #[.val (.ref a1), .val (.ref ob2), .val (.int (1 : Int32))] [(.int (1 : Int32)), (.ref ar), (.ref ob2)])) rfl rfl (hb hby d4_25) _) ?_
  show own_G p e below Φ T21 (mkF m 26 #[.val (.ref a1), .val (.ref ob2), .val (.int (1 : Int32))] [(.int v1), (.ref ob2)])
  refine own_go (fun _ => XS.iloadN X21.here hx rfl (hb hby d4_26) rfl) ?_
  show own_G p e below Φ T21 (mkF m 27 #[.val (.ref a1), .val (.ref ob2), .val (.int (1 : Int32))] [(.int (1 : Int32)), (.int v1), (.ref ob2)])
  obtain ⟨cl24, Ar24, q24, S24, M24, H24, G24⟩ := id V19
  have hin24 : ¬ (v1 < 0 ∨ cl24.slots.size ≤ (v1).toNatClampNeg) := inb_of S24 hv1
  obtain ⟨T24, h24, X24, e24, W24, st24⟩ := stI X21 hx hZ e21 Ar24 (j := v1) hin24 (g := (mkF m 27 #[.val (.ref a1), .val (.ref ob2), .val (.int (1 : Int32))] [(.int (1 : Int32)), (.int v1), (.ref ob2)])) rfl rfl (hb hby d4_27)
  refine own_go st24 ?_
  have V24 : Arv Z h24 ob2 ka2 .int cnt (own_vs (own_put (own_put (own_put (own_put (own_zeros cnt) v4 (4 : Int32)) v3 (3 : Int32)) v2 (2 : Int32)) v1 (1 : Int32))) (.int (0 : Int32)) := own_vs_set _ _ _ ▸ Arv.set Ar24 q24 S24 M24 H24 G24 rfl W24 _ rfl (by simp only [own_vs_len, own_put_len, own_zeros_len]; exact own_clamp hv1)
  have N24 := Fr.snoc X24 N19 g_ob2
  have K24 := K19.wr W24 (Or.inr sz_ob2)
  have Zp24 : n0 ≤ h24.size := Nat.le_trans Zp19 (Keep.of_wr W24).1
  show own_G p e below Φ T24 (mkF m 28 #[.val (.ref a1), .val (.ref ob2), .val (.int (1 : Int32))] [])
  refine own_go (fun _ => XS.iinc X24.here hx rfl (hb hby d4_28) rfl (l' := #[.val (.ref a1), .val (.ref ob2), .val (.int (0 : Int32))]) rfl) ?_
  show own_G p e below Φ T24 (mkF m 31 #[.val (.ref a1), .val (.ref ob2), .val (.int (0 : Int32))] [])
  refine own_go (fun _ => XS.goto X24.here hx rfl (pc0 := 31) (pc' := 15) rfl (hb hby d4_31) (by decide) (by decide)) ?_
  show own_G p e below Φ T24 (mkF m 15 #[.val (.ref a1), .val (.ref ob2), .val (.int (0 : Int32))] [])
  refine own_go (fun _ => XS.iloadN X24.here hx rfl (hb hby d4_15) rfl) ?_
  show own_G p e below Φ T24 (mkF m 16 #[.val (.ref a1), .val (.ref ob2), .val (.int (0 : Int32))] [(.int (0 : Int32))])
  refine own_go (fun _ => XS.ifNo X24.here hx rfl (hb hby d4_16) rfl (Jvm.Free.XT.i0_lt_f (by decide : ¬ ((0 : Int32) < (0 : Int32))))) ?_
  show own_G p e below Φ T24 (mkF m 19 #[.val (.ref a1), .val (.ref ob2), .val (.int (0 : Int32))] [])
  refine own_go (fun _ => XS.aloadN X24.here hx rfl (hb hby d4_19) rfl rfl) ?_
  show own_G p e below Φ T24 (mkF m 20 #[.val (.ref a1), .val (.ref ob2), .val (.int (0 : Int32))] [(.ref ob2)])
  refine own_go (fun _ => XS.aloadN X24.here hx rfl (hb hby d4_20) rfl rfl) ?_
  show own_G p e below Φ T24 (mkF m 21 #[.val (.ref a1), .val (.ref ob2), .val (.int (0 : Int32))] [(.ref a1), (.ref ob2)])
  have f25 : Fld Z h24 a1 "com/example/edgewarden/edgewarden/graph/Likeness" "m_aClasses" "[I" (.ref ar) := f20.other W24 (Or.inl ne_a1_ob2)
  obtain ⟨T26, X26, e26, st26⟩ := getF X24 hx hZ hown (host := "") (Or.inl (wd_15 hw)) Via.refl e24 f25 (g := (mkF m 21 #[.val (.ref a1), .val (.ref ob2), .val (.int (0 : Int32))] [(.ref a1), (.ref ob2)])) rfl rfl (hb hby d4_21)
  refine own_go st26 ?_
  show own_G p e below Φ T26 (mkF m 24 #[.val (.ref a1), .val (.ref ob2), .val (.int (0 : Int32))] [(.ref ar), (.ref ob2)])
  refine own_go (fun _ => XS.iloadN X26.here hx rfl (hb hby d4_24) rfl) ?_
  show own_G p e below Φ T26 (mkF m 25 #[.val (.ref a1), .val (.ref ob2), .val (.int (0 : Int32))] [(.int (0 : Int32)), (.ref ar), (.ref ob2)])
  have f27 : Arv Z h24 ar ka .int (5 : Int32) [(.int v0), (.int v1), (.int v2), (.int v3), (.int v4)] (.int (0 : Int32)) := f22.other W24 ne_ar_ob2
  obtain ⟨cl28, Ar28, q28, S28, M28, H28, G28⟩ := id f27
  have hin28 : ¬ ((0 : Int32) < 0 ∨ cl28.slots.size ≤ ((0 : Int32)).toNatClampNeg) := inb_of S28 ⟨by decide, by decide⟩
  refine own_go (fun _ => X26.iaload hx (j := (0 : Int32)) (v := (.int v0)) (by rw [e26]; exact Ar28.1) (State.isArrayOf_alike hZ.alike Ar28.2.1) Ar28.2.2 hin28 (H28.at hin28 rfl) (g := (mkF m 25 #[.val (.ref a1), .val (.ref ob2), .val (.int (0 : Int32))] [(.int (0 : Int32)), (.ref ar), (.ref ob2)])) rfl rfl (hb hby d4_25) _) ?_
  show own_G p e below Φ T26 (mkF m 26 #[.val (.ref a1), .val (.ref ob2), .val (.int (0 : Int32))] [(.int v0), (.ref ob2)])
  refine own_go (fun _ => XS.iloadN X26.here hx rfl (hb hby d4_26) rfl) ?_
  show own_G p e below Φ T26 (mkF m 27 #[.val (.ref a1), .val (.ref ob2), .val (.int (0 : Int32))] [(.int (0 : Int32)), (.int v0), (.ref ob2)])
  obtain ⟨cl29, Ar29, q29, S29, M29, H29, G29⟩ := id V24
  have hin29 : ¬ (v0 < 0 ∨ cl29.slots.size ≤ (v0).toNatClampNeg) := inb_of S29 hv0
  obtain ⟨T29, h29, X29, e29, W29, st29⟩ := stI X26 hx hZ e26 Ar29 (j := v0) hin29 (g := (mkF m 27 #[.val (.ref a1), .val (.ref ob2), .val (.int (0 : Int32))] [(.int (0 : Int32)), (.int v0), (.ref ob2)])) rfl rfl (hb hby d4_27)
  refine own_go st29 ?_
  have V29 : Arv Z h29 ob2 ka2 .int cnt (own_vs (own_put (own_put (own_put (own_put (own_put (own_zeros cnt) v4 (4 : Int32)) v3 (3 : Int32)) v2 (2 : Int32)) v1 (1 : Int32)) v0 (0 : Int32))) (.int (0 : Int32)) := own_vs_set _ _ _ ▸ Arv.set Ar29 q29 S29 M29 H29 G29 rfl W29 _ rfl (by simp only [own_vs_len, own_put_len, own_zeros_len]; exact own_clamp hv0)
  have N29 := Fr.snoc X29 N24 g_ob2
  have K29 := K24.wr W29 (Or.inr sz_ob2)
  have Zp29 : n0 ≤ h29.size := Nat.le_trans Zp24 (Keep.of_wr W29).1
  show own_G p e below Φ T29 (mkF m 28 #[.val (.ref a1), .val (.ref ob2), .val (.int (0 : Int32))] [])
  refine own_go (fun _ => XS.iinc X29.here hx rfl (hb hby d4_28) rfl (l' := #[.val (.ref a1), .val (.ref ob2), .val (.int (-1 : Int32))]) rfl) ?_
  show own_G p e below Φ T29 (mkF m 31 #[.val (.ref a1), .val (.ref ob2), .val (.int (-1 : Int32))] [])
  refine own_go (fun _ => XS.goto X29.here hx rfl (pc0 := 31) (pc' := 15) rfl (hb hby d4_31) (by decide) (by decide)) ?_
  show own_G p e below Φ T29 (mkF m 15 #[.val (.ref a1), .val (.ref ob2), .val (.int (-1 : Int32))] [])
  refine own_go (fun _ => XS.iloadN X29.here hx rfl (hb hby d4_15) rfl) ?_
  show own_G p e below Φ T29 (mkF m 16 #[.val (.ref a1), .val (.ref ob2), .val (.int (-1 : Int32))] [(.int (-1 : Int32))])
  refine own_go (fun _ => XS.ifYes X29.here hx rfl (pc0 := 16) (pc' := 34) rfl (hb hby d4_16) rfl (Jvm.Free.XT.i0_lt_t (by decide : ((-1 : Int32) < (0 : Int32)))) (by decide) (by decide)) ?_
  show own_G p e below Φ T29 (mkF m 34 #[.val (.ref a1), .val (.ref ob2), .val (.int (-1 : Int32))] [])
  refine own_go (fun _ => XS.aloadN X29.here hx rfl (hb hby d4_34) rfl rfl) ?_
  show own_G p e below Φ T29 (mkF m 35 #[.val (.ref a1), .val (.ref ob2), .val (.int (-1 : Int32))] [(.ref ob2)])
  rw [hΦ]
  refine own_ret X29 (v := some (.ref ob2)) (fun h => by rw [Bd.returns] at h; cases h) (BodyLoose.notSynchronized Bd) (fun fs hr => retOut X29 hx Bd.returns rfl (Or.inr (Or.inr (Or.inr (Or.inr ⟨rfl, rfl, rfl⟩)))) (hb hby d4_35) hr) ?_ (by decide) (by decide)
  rw [e29]
  exact ⟨ob2, sz_ob2, ka2, rfl, N29, K29, V29⟩
theorem d6_0 : decode method_4_code 0 = .ok (.iload_n 1, 1) := by decide +kernel
theorem d6_1 : decode method_4_code 1 = .ok (.ifCond .le 12, 3) := by decide +kernel
theorem d6_13 : decode method_4_code 13 = .ok (.iload_n 1, 1) := by decide +kernel
theorem d6_14 : decode method_4_code 14 = .ok (.iconst 1, 1) := by decide +kernel
theorem d6_15 : decode method_4_code 15 = .ok (.if_icmp .le 12, 3) := by decide +kernel
theorem d6_27 : decode method_4_code 27 = .ok (.iload_n 1, 1) := by decide +kernel
theorem d6_28 : decode method_4_code 28 = .ok (.iconst 2, 1) := by decide +kernel
theorem d6_29 : decode method_4_code 29 = .ok (.if_icmp .le 12, 3) := by decide +kernel
theorem d6_41 : decode method_4_code 41 = .ok (.iload_n 1, 1) := by decide +kernel
theorem d6_42 : decode method_4_code 42 = .ok (.iconst 3, 1) := by decide +kernel
theorem d6_43 : decode method_4_code 43 = .ok (.if_icmp .le 12, 3) := by decide +kernel
theorem d6_55 : decode method_4_code 55 = .ok (.iload_n 1, 1) := by decide +kernel
theorem d6_56 : decode method_4_code 56 = .ok (.iconst 4, 1) := by decide +kernel
theorem d6_57 : decode method_4_code 57 = .ok (.if_icmp .le 12, 3) := by decide +kernel
theorem d6_69 : decode method_4_code 69 = .ok (.iconst (-1), 1) := by decide +kernel
theorem d6_70 : decode method_4_code 70 = .ok (.ireturn, 1) := by decide +kernel
theorem d6_60 : decode method_4_code 60 = .ok (.aload_n 0, 1) := by decide +kernel
theorem d6_61 : decode method_4_code 61 = .ok (.iconst 4, 1) := by decide +kernel
theorem d6_62 : decode method_4_code 62 = .ok (.iaload, 1) := by decide +kernel
theorem d6_63 : decode method_4_code 63 = .ok (.iload_n 2, 1) := by decide +kernel
theorem d6_64 : decode method_4_code 64 = .ok (.if_icmp .ne 5, 3) := by decide +kernel
theorem d6_67 : decode method_4_code 67 = .ok (.iconst 4, 1) := by decide +kernel
theorem d6_68 : decode method_4_code 68 = .ok (.ireturn, 1) := by decide +kernel
theorem d6_46 : decode method_4_code 46 = .ok (.aload_n 0, 1) := by decide +kernel
theorem d6_47 : decode method_4_code 47 = .ok (.iconst 3, 1) := by decide +kernel
theorem d6_48 : decode method_4_code 48 = .ok (.iaload, 1) := by decide +kernel
theorem d6_49 : decode method_4_code 49 = .ok (.iload_n 2, 1) := by decide +kernel
theorem d6_50 : decode method_4_code 50 = .ok (.if_icmp .ne 5, 3) := by decide +kernel
theorem d6_53 : decode method_4_code 53 = .ok (.iconst 3, 1) := by decide +kernel
theorem d6_54 : decode method_4_code 54 = .ok (.ireturn, 1) := by decide +kernel
theorem d6_32 : decode method_4_code 32 = .ok (.aload_n 0, 1) := by decide +kernel
theorem d6_33 : decode method_4_code 33 = .ok (.iconst 2, 1) := by decide +kernel
theorem d6_34 : decode method_4_code 34 = .ok (.iaload, 1) := by decide +kernel
theorem d6_35 : decode method_4_code 35 = .ok (.iload_n 2, 1) := by decide +kernel
theorem d6_36 : decode method_4_code 36 = .ok (.if_icmp .ne 5, 3) := by decide +kernel
theorem d6_39 : decode method_4_code 39 = .ok (.iconst 2, 1) := by decide +kernel
theorem d6_40 : decode method_4_code 40 = .ok (.ireturn, 1) := by decide +kernel
theorem d6_18 : decode method_4_code 18 = .ok (.aload_n 0, 1) := by decide +kernel
theorem d6_19 : decode method_4_code 19 = .ok (.iconst 1, 1) := by decide +kernel
theorem d6_20 : decode method_4_code 20 = .ok (.iaload, 1) := by decide +kernel
theorem d6_21 : decode method_4_code 21 = .ok (.iload_n 2, 1) := by decide +kernel
theorem d6_22 : decode method_4_code 22 = .ok (.if_icmp .ne 5, 3) := by decide +kernel
theorem d6_25 : decode method_4_code 25 = .ok (.iconst 1, 1) := by decide +kernel
theorem d6_26 : decode method_4_code 26 = .ok (.ireturn, 1) := by decide +kernel
theorem d6_4 : decode method_4_code 4 = .ok (.aload_n 0, 1) := by decide +kernel
theorem d6_5 : decode method_4_code 5 = .ok (.iconst 0, 1) := by decide +kernel
theorem d6_6 : decode method_4_code 6 = .ok (.iaload, 1) := by decide +kernel
theorem d6_7 : decode method_4_code 7 = .ok (.iload_n 2, 1) := by decide +kernel
theorem d6_8 : decode method_4_code 8 = .ok (.if_icmp .ne 5, 3) := by decide +kernel
theorem d6_11 : decode method_4_code 11 = .ok (.iconst 0, 1) := by decide +kernel
theorem d6_12 : decode method_4_code 12 = .ok (.ireturn, 1) := by decide +kernel
theorem pn_1 : plainName "com/example/edgewarden/edgewarden/graph/LikenessGetFirstMembersPinLaw" = true := by first | (simp [plainName, overriddenIn]; done) | decide +kernel
theorem ef_rmN (m : MethodId) (va : Addr) (p1 : Int32) (p2 : Int32) : entryFrame m #[(.ref va), (.int p1), (.int p2)] 3 = mkF m 0 #[.val (.ref va), .val (.int p1), .val (.int p2)] [] := by first | (simp [entryFrame, mkF, argsToLocals, Value.category]; done) | rfl
def Q_rmN (Z : State) (va : Addr) (kv : ClassId) (p1 : Int32) (p2 : Int32) (w0 : Int32) (w1 : Int32) (w2 : Int32) (w3 : Int32) (w4 : Int32) (h0 : Heap) (n0 : Nat) (v : Option Value) (h : Heap) (L : List Loc) : Prop := v = some (.int (own_first w0 w1 w2 w3 w4 p1 p2)) ∧ Fr n0 L ∧ h = h0
set_option maxRecDepth 65536 in
set_option maxHeartbeats 40000000 in
theorem rmN (l : Launch) (Z : State) (a0 : Array Value) (hw : ∀ d ∈ tables_1, d.before a0 Z = true) (ws : List Jvm.Cond) (va : Addr) (kv : ClassId) (p1 : Int32) (p2 : Int32) (w0 : Int32) (w1 : Int32) (w2 : Int32) (w3 : Int32) (w4 : Int32) (h0 : Heap) (n0 : Nat) (Z0 : n0 ≤ h0.size) (V_va : Arv Z h0 va kv .int (5 : Int32) [(.int w0), (.int w1), (.int w2), (.int w3), (.int w4)] (.int (0 : Int32))) :
    MetFree l (⟨"com/example/edgewarden/edgewarden/graph/LikenessGetFirstMembersPinLaw", "first", "([III)I"⟩ : MethodName) (head1 (Jvm.Cond.code (⟨"com/example/edgewarden/edgewarden/graph/LikenessGetFirstMembersPinLaw", "first", "([III)I"⟩ : MethodName) method_4_code 3 (some .int) :: ws) ({ frames := 0, cells := 0, slots := 0, locals := 0 } : Room)) (fun a U => a = #[(.ref va), (.int p1), (.int p2)] ∧ Z.Warmed39 U.vm ∧ U.heap = h0) (fun _ _ _ _ _ => True) (fun _ U o U' => ∃ v L, o = .returned v ∧ Q_rmN Z va kv p1 p2 w0 w1 w2 w3 w4 h0 n0 v U'.heap L ∧ FrameEnd U o U' L ({ frames := 0, cells := 0, slots := 0, locals := 0 } : Room).cells ({ frames := 0, cells := 0, slots := 0, locals := 0 } : Room).slots) := by
  refine MetFree.of_bodySF (plainFor_of_name pn_1) hisR ?_
  intro p e s m args below meth c s₁ Bd hml0 hP hK
  obtain ⟨rfl, hZ, hh⟩ := hP
  have hx := Bd.exec
  have hby := Bd.bytes
  have hml : c.maxLocals = 3 := hml0
  have hown : s.vm.findClass "com/example/edgewarden/edgewarden/graph/LikenessGetFirstMembersPinLaw" = some m.cls := findClass_of_methodNamed Bd.named
  have hnm := (name_of_methodNamed Bd.named Bd.method).1
  have X0 : Stand p l e ({ frames := 0, cells := 0, slots := 0, locals := 0 } : Room) s m #[(.ref va), (.int p1), (.int p2)] below meth c s₁ [] 0 0 := Stand.of_body Bd
  have e0 : s₁.heap = h0 := by rw [← hh, Bd.state]; rfl
  have N0 := Fr.nil n0
  suffices G0 : own_G p e below (own_E s below (Q_rmN Z va kv p1 p2 w0 w1 w2 w3 w4 h0 n0) ({ frames := 0, cells := 0, slots := 0, locals := 0 } : Room).cells ({ frames := 0, cells := 0, slots := 0, locals := 0 } : Room).slots) s₁ (mkF m 0 #[.val (.ref va), .val (.int p1), .val (.int p2)] []) by
    obtain ⟨zt, zst, zo, zq1, zq2, zq3⟩ := G0
    exact ⟨zt, zo, castTop (ef_rmN m va p1 p2) zst, zq1, zq2, zq3⟩
  obtain ⟨Φ, hΦ⟩ : ∃ Φ, Φ = own_E s below (Q_rmN Z va kv p1 p2 w0 w1 w2 w3 w4 h0 n0) ({ frames := 0, cells := 0, slots := 0, locals := 0 } : Room).cells ({ frames := 0, cells := 0, slots := 0, locals := 0 } : Room).slots := ⟨_, rfl⟩
  rw [← hΦ]
  show own_G p e below Φ s₁ (mkF m 0 #[.val (.ref va), .val (.int p1), .val (.int p2)] [])
  refine own_go (fun _ => XS.iloadN X0.here hx rfl (hb hby d6_0) rfl) ?_
  show own_G p e below Φ s₁ (mkF m 1 #[.val (.ref va), .val (.int p1), .val (.int p2)] [(.int p1)])
  have hJ13_1 : ∀ (T' : State), own_Al X0 T' → T'.heap = h0 → ∀ (_ : True), (¬ ((0 : Int32) < p1 ∧ w0 = p2)) → own_G p e below Φ T' (mkF m 13 #[.val (.ref va), .val (.int p1), .val (.int p2)] []) := by
    intro T1 X1' e1 _ h_j0
    have X1 : Stand _ _ _ _ _ _ _ _ _ _ T1 _ _ _ := X1'
    show own_G p e below Φ T1 (mkF m 13 #[.val (.ref va), .val (.int p1), .val (.int p2)] [])
    refine own_go (fun _ => XS.iloadN X1.here hx rfl (hb hby d6_13) rfl) ?_
    show own_G p e below Φ T1 (mkF m 14 #[.val (.ref va), .val (.int p1), .val (.int p2)] [(.int p1)])
    refine own_go (fun _ => XS.iconst X1.here hx rfl (hb hby d6_14)) ?_
    show own_G p e below Φ T1 (mkF m 15 #[.val (.ref va), .val (.int p1), .val (.int p2)] [(.int (1 : Int32)), (.int p1)])
    have hJ27_2 : ∀ (T' : State), own_Al X1 T' → T'.heap = h0 → ∀ (_ : True), (¬ ((1 : Int32) < p1 ∧ w1 = p2)) → own_G p e below Φ T' (mkF m 27 #[.val (.ref va), .val (.int p1), .val (.int p2)] []) := by
      intro T2 X2' e2 _ h_j1
      have X2 : Stand _ _ _ _ _ _ _ _ _ _ T2 _ _ _ := X2'
      show own_G p e below Φ T2 (mkF m 27 #[.val (.ref va), .val (.int p1), .val (.int p2)] [])
      refine own_go (fun _ => XS.iloadN X2.here hx rfl (hb hby d6_27) rfl) ?_
      show own_G p e below Φ T2 (mkF m 28 #[.val (.ref va), .val (.int p1), .val (.int p2)] [(.int p1)])
      refine own_go (fun _ => XS.iconst X2.here hx rfl (hb hby d6_28)) ?_
      show own_G p e below Φ T2 (mkF m 29 #[.val (.ref va), .val (.int p1), .val (.int p2)] [(.int (2 : Int32)), (.int p1)])
      have hJ41_3 : ∀ (T' : State), own_Al X2 T' → T'.heap = h0 → ∀ (_ : True), (¬ ((2 : Int32) < p1 ∧ w2 = p2)) → own_G p e below Φ T' (mkF m 41 #[.val (.ref va), .val (.int p1), .val (.int p2)] []) := by
        intro T3 X3' e3 _ h_j2
        have X3 : Stand _ _ _ _ _ _ _ _ _ _ T3 _ _ _ := X3'
        show own_G p e below Φ T3 (mkF m 41 #[.val (.ref va), .val (.int p1), .val (.int p2)] [])
        refine own_go (fun _ => XS.iloadN X3.here hx rfl (hb hby d6_41) rfl) ?_
        show own_G p e below Φ T3 (mkF m 42 #[.val (.ref va), .val (.int p1), .val (.int p2)] [(.int p1)])
        refine own_go (fun _ => XS.iconst X3.here hx rfl (hb hby d6_42)) ?_
        show own_G p e below Φ T3 (mkF m 43 #[.val (.ref va), .val (.int p1), .val (.int p2)] [(.int (3 : Int32)), (.int p1)])
        have hJ55_4 : ∀ (T' : State), own_Al X3 T' → T'.heap = h0 → ∀ (_ : True), (¬ ((3 : Int32) < p1 ∧ w3 = p2)) → own_G p e below Φ T' (mkF m 55 #[.val (.ref va), .val (.int p1), .val (.int p2)] []) := by
          intro T4 X4' e4 _ h_j3
          have X4 : Stand _ _ _ _ _ _ _ _ _ _ T4 _ _ _ := X4'
          show own_G p e below Φ T4 (mkF m 55 #[.val (.ref va), .val (.int p1), .val (.int p2)] [])
          refine own_go (fun _ => XS.iloadN X4.here hx rfl (hb hby d6_55) rfl) ?_
          show own_G p e below Φ T4 (mkF m 56 #[.val (.ref va), .val (.int p1), .val (.int p2)] [(.int p1)])
          refine own_go (fun _ => XS.iconst X4.here hx rfl (hb hby d6_56)) ?_
          show own_G p e below Φ T4 (mkF m 57 #[.val (.ref va), .val (.int p1), .val (.int p2)] [(.int (4 : Int32)), (.int p1)])
          have hJ69_5 : ∀ (T' : State), own_Al X4 T' → T'.heap = h0 → ∀ (_ : True), (¬ ((4 : Int32) < p1 ∧ w4 = p2)) → own_G p e below Φ T' (mkF m 69 #[.val (.ref va), .val (.int p1), .val (.int p2)] []) := by
            intro T5 X5' e5 _ h_j4
            have X5 : Stand _ _ _ _ _ _ _ _ _ _ T5 _ _ _ := X5'
            show own_G p e below Φ T5 (mkF m 69 #[.val (.ref va), .val (.int p1), .val (.int p2)] [])
            refine own_go (fun _ => XS.iconst X5.here hx rfl (hb hby d6_69)) ?_
            show own_G p e below Φ T5 (mkF m 70 #[.val (.ref va), .val (.int p1), .val (.int p2)] [(.int (-1 : Int32))])
            rw [hΦ]
            refine own_ret X5 (v := some (.int (-1 : Int32))) (fun h => by rw [Bd.returns] at h; cases h) (BodyLoose.notSynchronized Bd) (fun fs hr => retOut X5 hx Bd.returns rfl (Or.inl ⟨rfl, Or.inl rfl, _, rfl⟩) (hb hby d6_70) hr) ?_ (by decide) (by decide)
            rw [e5]
            exact ⟨(by simp [own_first, h_j0, h_j1, h_j2, h_j3, h_j4]), N0, rfl⟩
          by_cases hc57 : (4 : Int32) < p1
          · refine own_go (fun _ => XS.icmpNo X4.here hx rfl (hb hby d6_57) rfl (Jvm.Free.XT.ii_le_f hc57)) ?_
            show own_G p e below Φ T4 (mkF m 60 #[.val (.ref va), .val (.int p1), .val (.int p2)] [])
            refine own_go (fun _ => XS.aloadN X4.here hx rfl (hb hby d6_60) rfl rfl) ?_
            show own_G p e below Φ T4 (mkF m 61 #[.val (.ref va), .val (.int p1), .val (.int p2)] [(.ref va)])
            refine own_go (fun _ => XS.iconst X4.here hx rfl (hb hby d6_61)) ?_
            show own_G p e below Φ T4 (mkF m 62 #[.val (.ref va), .val (.int p1), .val (.int p2)] [(.int (4 : Int32)), (.ref va)])
            obtain ⟨cl6, Ar6, q6, S6, M6, H6, G6⟩ := id V_va
            have hin6 : ¬ ((4 : Int32) < 0 ∨ cl6.slots.size ≤ ((4 : Int32)).toNatClampNeg) := inb_of S6 ⟨by decide, by decide⟩
            refine own_go (fun _ => X4.iaload hx (j := (4 : Int32)) (v := (.int w4)) (by rw [e4]; exact Ar6.1) (State.isArrayOf_alike hZ.alike Ar6.2.1) Ar6.2.2 hin6 (H6.at hin6 rfl) (g := (mkF m 62 #[.val (.ref va), .val (.int p1), .val (.int p2)] [(.int (4 : Int32)), (.ref va)])) rfl rfl (hb hby d6_62) _) ?_
            show own_G p e below Φ T4 (mkF m 63 #[.val (.ref va), .val (.int p1), .val (.int p2)] [(.int w4)])
            refine own_go (fun _ => XS.iloadN X4.here hx rfl (hb hby d6_63) rfl) ?_
            show own_G p e below Φ T4 (mkF m 64 #[.val (.ref va), .val (.int p1), .val (.int p2)] [(.int p2), (.int w4)])
            by_cases hc64 : w4 = p2
            · refine own_go (fun _ => XS.icmpNo X4.here hx rfl (hb hby d6_64) rfl (Jvm.Free.XT.ii_ne_f hc64)) ?_
              show own_G p e below Φ T4 (mkF m 67 #[.val (.ref va), .val (.int p1), .val (.int p2)] [])
              refine own_go (fun _ => XS.iconst X4.here hx rfl (hb hby d6_67)) ?_
              show own_G p e below Φ T4 (mkF m 68 #[.val (.ref va), .val (.int p1), .val (.int p2)] [(.int (4 : Int32))])
              rw [hΦ]
              refine own_ret X4 (v := some (.int (4 : Int32))) (fun h => by rw [Bd.returns] at h; cases h) (BodyLoose.notSynchronized Bd) (fun fs hr => retOut X4 hx Bd.returns rfl (Or.inl ⟨rfl, Or.inl rfl, _, rfl⟩) (hb hby d6_68) hr) ?_ (by decide) (by decide)
              rw [e4]
              exact ⟨(by simp [own_first, hc57, hc64, h_j0, h_j1, h_j2, h_j3]), N0, rfl⟩
            · refine own_go (fun _ => XS.icmpYes X4.here hx rfl (pc0 := 64) (pc' := 69) rfl (hb hby d6_64) rfl (Jvm.Free.XT.ii_ne_t hc64) (by decide) (by decide)) ?_
              exact hJ69_5 _ X4 e4 trivial (by simp [hc57, hc64, h_j0, h_j1, h_j2, h_j3])
          · refine own_go (fun _ => XS.icmpYes X4.here hx rfl (pc0 := 57) (pc' := 69) rfl (hb hby d6_57) rfl (Jvm.Free.XT.ii_le_t hc57) (by decide) (by decide)) ?_
            exact hJ69_5 _ X4 e4 trivial (by simp [hc57, h_j0, h_j1, h_j2, h_j3])
        by_cases hc43 : (3 : Int32) < p1
        · refine own_go (fun _ => XS.icmpNo X3.here hx rfl (hb hby d6_43) rfl (Jvm.Free.XT.ii_le_f hc43)) ?_
          show own_G p e below Φ T3 (mkF m 46 #[.val (.ref va), .val (.int p1), .val (.int p2)] [])
          refine own_go (fun _ => XS.aloadN X3.here hx rfl (hb hby d6_46) rfl rfl) ?_
          show own_G p e below Φ T3 (mkF m 47 #[.val (.ref va), .val (.int p1), .val (.int p2)] [(.ref va)])
          refine own_go (fun _ => XS.iconst X3.here hx rfl (hb hby d6_47)) ?_
          show own_G p e below Φ T3 (mkF m 48 #[.val (.ref va), .val (.int p1), .val (.int p2)] [(.int (3 : Int32)), (.ref va)])
          obtain ⟨cl7, Ar7, q7, S7, M7, H7, G7⟩ := id V_va
          have hin7 : ¬ ((3 : Int32) < 0 ∨ cl7.slots.size ≤ ((3 : Int32)).toNatClampNeg) := inb_of S7 ⟨by decide, by decide⟩
          refine own_go (fun _ => X3.iaload hx (j := (3 : Int32)) (v := (.int w3)) (by rw [e3]; exact Ar7.1) (State.isArrayOf_alike hZ.alike Ar7.2.1) Ar7.2.2 hin7 (H7.at hin7 rfl) (g := (mkF m 48 #[.val (.ref va), .val (.int p1), .val (.int p2)] [(.int (3 : Int32)), (.ref va)])) rfl rfl (hb hby d6_48) _) ?_
          show own_G p e below Φ T3 (mkF m 49 #[.val (.ref va), .val (.int p1), .val (.int p2)] [(.int w3)])
          refine own_go (fun _ => XS.iloadN X3.here hx rfl (hb hby d6_49) rfl) ?_
          show own_G p e below Φ T3 (mkF m 50 #[.val (.ref va), .val (.int p1), .val (.int p2)] [(.int p2), (.int w3)])
          by_cases hc50 : w3 = p2
          · refine own_go (fun _ => XS.icmpNo X3.here hx rfl (hb hby d6_50) rfl (Jvm.Free.XT.ii_ne_f hc50)) ?_
            show own_G p e below Φ T3 (mkF m 53 #[.val (.ref va), .val (.int p1), .val (.int p2)] [])
            refine own_go (fun _ => XS.iconst X3.here hx rfl (hb hby d6_53)) ?_
            show own_G p e below Φ T3 (mkF m 54 #[.val (.ref va), .val (.int p1), .val (.int p2)] [(.int (3 : Int32))])
            rw [hΦ]
            refine own_ret X3 (v := some (.int (3 : Int32))) (fun h => by rw [Bd.returns] at h; cases h) (BodyLoose.notSynchronized Bd) (fun fs hr => retOut X3 hx Bd.returns rfl (Or.inl ⟨rfl, Or.inl rfl, _, rfl⟩) (hb hby d6_54) hr) ?_ (by decide) (by decide)
            rw [e3]
            exact ⟨(by simp [own_first, hc43, hc50, h_j0, h_j1, h_j2]), N0, rfl⟩
          · refine own_go (fun _ => XS.icmpYes X3.here hx rfl (pc0 := 50) (pc' := 55) rfl (hb hby d6_50) rfl (Jvm.Free.XT.ii_ne_t hc50) (by decide) (by decide)) ?_
            exact hJ55_4 _ X3 e3 trivial (by simp [hc43, hc50, h_j0, h_j1, h_j2])
        · refine own_go (fun _ => XS.icmpYes X3.here hx rfl (pc0 := 43) (pc' := 55) rfl (hb hby d6_43) rfl (Jvm.Free.XT.ii_le_t hc43) (by decide) (by decide)) ?_
          exact hJ55_4 _ X3 e3 trivial (by simp [hc43, h_j0, h_j1, h_j2])
      by_cases hc29 : (2 : Int32) < p1
      · refine own_go (fun _ => XS.icmpNo X2.here hx rfl (hb hby d6_29) rfl (Jvm.Free.XT.ii_le_f hc29)) ?_
        show own_G p e below Φ T2 (mkF m 32 #[.val (.ref va), .val (.int p1), .val (.int p2)] [])
        refine own_go (fun _ => XS.aloadN X2.here hx rfl (hb hby d6_32) rfl rfl) ?_
        show own_G p e below Φ T2 (mkF m 33 #[.val (.ref va), .val (.int p1), .val (.int p2)] [(.ref va)])
        refine own_go (fun _ => XS.iconst X2.here hx rfl (hb hby d6_33)) ?_
        show own_G p e below Φ T2 (mkF m 34 #[.val (.ref va), .val (.int p1), .val (.int p2)] [(.int (2 : Int32)), (.ref va)])
        obtain ⟨cl8, Ar8, q8, S8, M8, H8, G8⟩ := id V_va
        have hin8 : ¬ ((2 : Int32) < 0 ∨ cl8.slots.size ≤ ((2 : Int32)).toNatClampNeg) := inb_of S8 ⟨by decide, by decide⟩
        refine own_go (fun _ => X2.iaload hx (j := (2 : Int32)) (v := (.int w2)) (by rw [e2]; exact Ar8.1) (State.isArrayOf_alike hZ.alike Ar8.2.1) Ar8.2.2 hin8 (H8.at hin8 rfl) (g := (mkF m 34 #[.val (.ref va), .val (.int p1), .val (.int p2)] [(.int (2 : Int32)), (.ref va)])) rfl rfl (hb hby d6_34) _) ?_
        show own_G p e below Φ T2 (mkF m 35 #[.val (.ref va), .val (.int p1), .val (.int p2)] [(.int w2)])
        refine own_go (fun _ => XS.iloadN X2.here hx rfl (hb hby d6_35) rfl) ?_
        show own_G p e below Φ T2 (mkF m 36 #[.val (.ref va), .val (.int p1), .val (.int p2)] [(.int p2), (.int w2)])
        by_cases hc36 : w2 = p2
        · refine own_go (fun _ => XS.icmpNo X2.here hx rfl (hb hby d6_36) rfl (Jvm.Free.XT.ii_ne_f hc36)) ?_
          show own_G p e below Φ T2 (mkF m 39 #[.val (.ref va), .val (.int p1), .val (.int p2)] [])
          refine own_go (fun _ => XS.iconst X2.here hx rfl (hb hby d6_39)) ?_
          show own_G p e below Φ T2 (mkF m 40 #[.val (.ref va), .val (.int p1), .val (.int p2)] [(.int (2 : Int32))])
          rw [hΦ]
          refine own_ret X2 (v := some (.int (2 : Int32))) (fun h => by rw [Bd.returns] at h; cases h) (BodyLoose.notSynchronized Bd) (fun fs hr => retOut X2 hx Bd.returns rfl (Or.inl ⟨rfl, Or.inl rfl, _, rfl⟩) (hb hby d6_40) hr) ?_ (by decide) (by decide)
          rw [e2]
          exact ⟨(by simp [own_first, hc29, hc36, h_j0, h_j1]), N0, rfl⟩
        · refine own_go (fun _ => XS.icmpYes X2.here hx rfl (pc0 := 36) (pc' := 41) rfl (hb hby d6_36) rfl (Jvm.Free.XT.ii_ne_t hc36) (by decide) (by decide)) ?_
          exact hJ41_3 _ X2 e2 trivial (by simp [hc29, hc36, h_j0, h_j1])
      · refine own_go (fun _ => XS.icmpYes X2.here hx rfl (pc0 := 29) (pc' := 41) rfl (hb hby d6_29) rfl (Jvm.Free.XT.ii_le_t hc29) (by decide) (by decide)) ?_
        exact hJ41_3 _ X2 e2 trivial (by simp [hc29, h_j0, h_j1])
    by_cases hc15 : (1 : Int32) < p1
    · refine own_go (fun _ => XS.icmpNo X1.here hx rfl (hb hby d6_15) rfl (Jvm.Free.XT.ii_le_f hc15)) ?_
      show own_G p e below Φ T1 (mkF m 18 #[.val (.ref va), .val (.int p1), .val (.int p2)] [])
      refine own_go (fun _ => XS.aloadN X1.here hx rfl (hb hby d6_18) rfl rfl) ?_
      show own_G p e below Φ T1 (mkF m 19 #[.val (.ref va), .val (.int p1), .val (.int p2)] [(.ref va)])
      refine own_go (fun _ => XS.iconst X1.here hx rfl (hb hby d6_19)) ?_
      show own_G p e below Φ T1 (mkF m 20 #[.val (.ref va), .val (.int p1), .val (.int p2)] [(.int (1 : Int32)), (.ref va)])
      obtain ⟨cl9, Ar9, q9, S9, M9, H9, G9⟩ := id V_va
      have hin9 : ¬ ((1 : Int32) < 0 ∨ cl9.slots.size ≤ ((1 : Int32)).toNatClampNeg) := inb_of S9 ⟨by decide, by decide⟩
      refine own_go (fun _ => X1.iaload hx (j := (1 : Int32)) (v := (.int w1)) (by rw [e1]; exact Ar9.1) (State.isArrayOf_alike hZ.alike Ar9.2.1) Ar9.2.2 hin9 (H9.at hin9 rfl) (g := (mkF m 20 #[.val (.ref va), .val (.int p1), .val (.int p2)] [(.int (1 : Int32)), (.ref va)])) rfl rfl (hb hby d6_20) _) ?_
      show own_G p e below Φ T1 (mkF m 21 #[.val (.ref va), .val (.int p1), .val (.int p2)] [(.int w1)])
      refine own_go (fun _ => XS.iloadN X1.here hx rfl (hb hby d6_21) rfl) ?_
      show own_G p e below Φ T1 (mkF m 22 #[.val (.ref va), .val (.int p1), .val (.int p2)] [(.int p2), (.int w1)])
      by_cases hc22 : w1 = p2
      · refine own_go (fun _ => XS.icmpNo X1.here hx rfl (hb hby d6_22) rfl (Jvm.Free.XT.ii_ne_f hc22)) ?_
        show own_G p e below Φ T1 (mkF m 25 #[.val (.ref va), .val (.int p1), .val (.int p2)] [])
        refine own_go (fun _ => XS.iconst X1.here hx rfl (hb hby d6_25)) ?_
        show own_G p e below Φ T1 (mkF m 26 #[.val (.ref va), .val (.int p1), .val (.int p2)] [(.int (1 : Int32))])
        rw [hΦ]
        refine own_ret X1 (v := some (.int (1 : Int32))) (fun h => by rw [Bd.returns] at h; cases h) (BodyLoose.notSynchronized Bd) (fun fs hr => retOut X1 hx Bd.returns rfl (Or.inl ⟨rfl, Or.inl rfl, _, rfl⟩) (hb hby d6_26) hr) ?_ (by decide) (by decide)
        rw [e1]
        exact ⟨(by simp [own_first, hc15, hc22, h_j0]), N0, rfl⟩
      · refine own_go (fun _ => XS.icmpYes X1.here hx rfl (pc0 := 22) (pc' := 27) rfl (hb hby d6_22) rfl (Jvm.Free.XT.ii_ne_t hc22) (by decide) (by decide)) ?_
        exact hJ27_2 _ X1 e1 trivial (by simp [hc15, hc22, h_j0])
    · refine own_go (fun _ => XS.icmpYes X1.here hx rfl (pc0 := 15) (pc' := 27) rfl (hb hby d6_15) rfl (Jvm.Free.XT.ii_le_t hc15) (by decide) (by decide)) ?_
      exact hJ27_2 _ X1 e1 trivial (by simp [hc15, h_j0])
  by_cases hc1 : (0 : Int32) < p1
  · refine own_go (fun _ => XS.ifNo X0.here hx rfl (hb hby d6_1) rfl (Jvm.Free.XT.i0_le_f hc1)) ?_
    show own_G p e below Φ s₁ (mkF m 4 #[.val (.ref va), .val (.int p1), .val (.int p2)] [])
    refine own_go (fun _ => XS.aloadN X0.here hx rfl (hb hby d6_4) rfl rfl) ?_
    show own_G p e below Φ s₁ (mkF m 5 #[.val (.ref va), .val (.int p1), .val (.int p2)] [(.ref va)])
    refine own_go (fun _ => XS.iconst X0.here hx rfl (hb hby d6_5)) ?_
    show own_G p e below Φ s₁ (mkF m 6 #[.val (.ref va), .val (.int p1), .val (.int p2)] [(.int (0 : Int32)), (.ref va)])
    obtain ⟨cl10, Ar10, q10, S10, M10, H10, G10⟩ := id V_va
    have hin10 : ¬ ((0 : Int32) < 0 ∨ cl10.slots.size ≤ ((0 : Int32)).toNatClampNeg) := inb_of S10 ⟨by decide, by decide⟩
    refine own_go (fun _ => X0.iaload hx (j := (0 : Int32)) (v := (.int w0)) (by rw [e0]; exact Ar10.1) (State.isArrayOf_alike hZ.alike Ar10.2.1) Ar10.2.2 hin10 (H10.at hin10 rfl) (g := (mkF m 6 #[.val (.ref va), .val (.int p1), .val (.int p2)] [(.int (0 : Int32)), (.ref va)])) rfl rfl (hb hby d6_6) _) ?_
    show own_G p e below Φ s₁ (mkF m 7 #[.val (.ref va), .val (.int p1), .val (.int p2)] [(.int w0)])
    refine own_go (fun _ => XS.iloadN X0.here hx rfl (hb hby d6_7) rfl) ?_
    show own_G p e below Φ s₁ (mkF m 8 #[.val (.ref va), .val (.int p1), .val (.int p2)] [(.int p2), (.int w0)])
    by_cases hc8 : w0 = p2
    · refine own_go (fun _ => XS.icmpNo X0.here hx rfl (hb hby d6_8) rfl (Jvm.Free.XT.ii_ne_f hc8)) ?_
      show own_G p e below Φ s₁ (mkF m 11 #[.val (.ref va), .val (.int p1), .val (.int p2)] [])
      refine own_go (fun _ => XS.iconst X0.here hx rfl (hb hby d6_11)) ?_
      show own_G p e below Φ s₁ (mkF m 12 #[.val (.ref va), .val (.int p1), .val (.int p2)] [(.int (0 : Int32))])
      rw [hΦ]
      refine own_ret X0 (v := some (.int (0 : Int32))) (fun h => by rw [Bd.returns] at h; cases h) (BodyLoose.notSynchronized Bd) (fun fs hr => retOut X0 hx Bd.returns rfl (Or.inl ⟨rfl, Or.inl rfl, _, rfl⟩) (hb hby d6_12) hr) ?_ (by decide) (by decide)
      rw [e0]
      exact ⟨(by simp [own_first, hc1, hc8]), N0, rfl⟩
    · refine own_go (fun _ => XS.icmpYes X0.here hx rfl (pc0 := 8) (pc' := 13) rfl (hb hby d6_8) rfl (Jvm.Free.XT.ii_ne_t hc8) (by decide) (by decide)) ?_
      exact hJ13_1 _ X0 e0 trivial (by simp [hc1, hc8])
  · refine own_go (fun _ => XS.ifYes X0.here hx rfl (pc0 := 1) (pc' := 13) rfl (hb hby d6_1) rfl (Jvm.Free.XT.i0_le_t hc1) (by decide) (by decide)) ?_
    exact hJ13_1 _ X0 e0 trivial (by simp [hc1])
theorem d5_0 : decode method_3_code 0 = .ok (.iload_n 3, 1) := by decide +kernel
theorem d5_1 : decode method_3_code 1 = .ok (.aload_n 0, 1) := by decide +kernel
theorem d5_2 : decode method_3_code 2 = .ok (.arraylength, 1) := by decide +kernel
theorem d5_3 : decode method_3_code 3 = .ok (.if_icmp .lt 5, 3) := by decide +kernel
theorem d5_8 : decode method_3_code 8 = .ok (.aload_n 0, 1) := by decide +kernel
theorem d5_9 : decode method_3_code 9 = .ok (.iload_n 3, 1) := by decide +kernel
theorem d5_10 : decode method_3_code 10 = .ok (.iaload, 1) := by decide +kernel
theorem d5_11 : decode method_3_code 11 = .ok (.aload_n 1, 1) := by decide +kernel
theorem d5_12 : decode method_3_code 12 = .ok (.iload_n 2, 1) := by decide +kernel
theorem d5_13 : decode method_3_code 13 = .ok (.iload_n 3, 1) := by decide +kernel
theorem d5_14 : decode method_3_code 14 = .ok (.invokestatic 29, 3) := by decide +kernel
theorem wd_29 {Z : State} {a0 : Array Value} (hw : ∀ d ∈ tables_1, d.before a0 Z = true) : ((Jvm.Cond.methodLink "com/example/edgewarden/edgewarden/graph/LikenessGetFirstMembersPinLaw" (29 : Nat) ({ cls := "com/example/edgewarden/edgewarden/graph/LikenessGetFirstMembersPinLaw", name := "first", desc := "([III)I" } : Jvm.MethodName)) : Jvm.Cond).before a0 Z = true := hw _ (List.mem_of_getElem? (i := 29) rfl)
theorem wd_31 {Z : State} {a0 : Array Value} (hw : ∀ d ∈ tables_1, d.before a0 Z = true) : ((Jvm.Cond.code ({ cls := "com/example/edgewarden/edgewarden/graph/LikenessGetFirstMembersPinLaw", name := "first", desc := "([III)I" } : Jvm.MethodName) method_4_code (3 : Nat) (Option.some Jvm.ClassFile.FieldType.int)) : Jvm.Cond).before a0 Z = true := hw _ (List.mem_of_getElem? (i := 31) rfl)
theorem wd_26 {Z : State} {a0 : Array Value} (hw : ∀ d ∈ tables_1, d.before a0 Z = true) : ((Jvm.Cond.initialized "com/example/edgewarden/edgewarden/graph/LikenessGetFirstMembersPinLaw") : Jvm.Cond).before a0 Z = true := hw _ (List.mem_of_getElem? (i := 26) rfl)
theorem pd_1 : parseMethodDescriptor "([III)I" = some ⟨[(.array .int), .int, .int], some .int⟩ := by decide +kernel
theorem wd_30 {Z : State} {a0 : Array Value} (hw : ∀ d ∈ tables_1, d.before a0 Z = true) : ((Jvm.Cond.static ({ cls := "com/example/edgewarden/edgewarden/graph/LikenessGetFirstMembersPinLaw", name := "first", desc := "([III)I" } : Jvm.MethodName)) : Jvm.Cond).before a0 Z = true := hw _ (List.mem_of_getElem? (i := 30) rfl)
theorem d5_17 : decode method_3_code 17 = .ok (.if_icmp .ne 7, 3) := by decide +kernel
theorem d5_20 : decode method_3_code 20 = .ok (.iconst 1, 1) := by decide +kernel
theorem d5_21 : decode method_3_code 21 = .ok (.goto 4, 3) := by decide +kernel
theorem d5_25 : decode method_3_code 25 = .ok (.ireturn, 1) := by decide +kernel
theorem d5_6 : decode method_3_code 6 = .ok (.iconst 1, 1) := by decide +kernel
theorem d5_7 : decode method_3_code 7 = .ok (.ireturn, 1) := by decide +kernel
theorem ef_rmK (m : MethodId) (r1 : Addr) (va : Addr) (p2 : Int32) (p3 : Int32) : entryFrame m #[(.ref r1), (.ref va), (.int p2), (.int p3)] 4 = mkF m 0 #[.val (.ref r1), .val (.ref va), .val (.int p2), .val (.int p3)] [] := by first | (simp [entryFrame, mkF, argsToLocals, Value.category]; done) | rfl
def Q_rmK (Z : State) (r1 : Addr) (va : Addr) (k1 : ClassId) (kv : ClassId) (z : Int32) (LL : List Int32) (p2 : Int32) (p3 : Int32) (w0 : Int32) (w1 : Int32) (w2 : Int32) (w3 : Int32) (w4 : Int32) (h0 : Heap) (n0 : Nat) (v : Option Value) (h : Heap) (L : List Loc) : Prop := v = some (.int (1 : Int32)) ∧ Fr n0 L ∧ h = h0
set_option maxRecDepth 65536 in
set_option maxHeartbeats 40000000 in
theorem rmK (l : Launch) (Z : State) (a0 : Array Value) (hw : ∀ d ∈ tables_1, d.before a0 Z = true) (ws : List Jvm.Cond) (r1 : Addr) (va : Addr) (k1 : ClassId) (kv : ClassId) (z : Int32) (LL : List Int32) (p2 : Int32) (p3 : Int32) (w0 : Int32) (w1 : Int32) (w2 : Int32) (w3 : Int32) (w4 : Int32) (h0 : Heap) (n0 : Nat) (Z0 : n0 ≤ h0.size) (V_r1 : Arv Z h0 r1 k1 .int z (own_vs LL) (.int (0 : Int32))) (V_va : Arv Z h0 va kv .int (5 : Int32) [(.int w0), (.int w1), (.int w2), (.int w3), (.int w4)] (.int (0 : Int32))) (hk0 : ¬ p3 < 0) (hcn : p3 < z → LL.getD p3.toNatClampNeg 0 = own_first w0 w1 w2 w3 w4 p2 p3) :
    MetFree l (⟨"com/example/edgewarden/edgewarden/graph/LikenessGetFirstMembersPinLaw", "ok", "([I[III)Z"⟩ : MethodName) (head1 (Jvm.Cond.code (⟨"com/example/edgewarden/edgewarden/graph/LikenessGetFirstMembersPinLaw", "ok", "([I[III)Z"⟩ : MethodName) method_3_code 4 (some .boolean) :: ws) ({ frames := 1, cells := 0, slots := 0, locals := 15 } : Room)) (fun a U => a = #[(.ref r1), (.ref va), (.int p2), (.int p3)] ∧ Z.Warmed39 U.vm ∧ U.heap = h0) (fun _ _ _ _ _ => True) (fun _ U o U' => ∃ v L, o = .returned v ∧ Q_rmK Z r1 va k1 kv z LL p2 p3 w0 w1 w2 w3 w4 h0 n0 v U'.heap L ∧ FrameEnd U o U' L ({ frames := 1, cells := 0, slots := 0, locals := 15 } : Room).cells ({ frames := 1, cells := 0, slots := 0, locals := 15 } : Room).slots) := by
  refine MetFree.of_bodySF (plainFor_of_name pn_1) hisR ?_
  intro p e s m args below meth c s₁ Bd hml0 hP hK
  obtain ⟨rfl, hZ, hh⟩ := hP
  have hx := Bd.exec
  have hby := Bd.bytes
  have hml : c.maxLocals = 4 := hml0
  have hown : s.vm.findClass "com/example/edgewarden/edgewarden/graph/LikenessGetFirstMembersPinLaw" = some m.cls := findClass_of_methodNamed Bd.named
  have hnm := (name_of_methodNamed Bd.named Bd.method).1
  have X0 : Stand p l e ({ frames := 1, cells := 0, slots := 0, locals := 15 } : Room) s m #[(.ref r1), (.ref va), (.int p2), (.int p3)] below meth c s₁ [] 0 0 := Stand.of_body Bd
  have e0 : s₁.heap = h0 := by rw [← hh, Bd.state]; rfl
  have N0 := Fr.nil n0
  suffices G0 : own_G p e below (own_E s below (Q_rmK Z r1 va k1 kv z LL p2 p3 w0 w1 w2 w3 w4 h0 n0) ({ frames := 1, cells := 0, slots := 0, locals := 15 } : Room).cells ({ frames := 1, cells := 0, slots := 0, locals := 15 } : Room).slots) s₁ (mkF m 0 #[.val (.ref r1), .val (.ref va), .val (.int p2), .val (.int p3)] []) by
    obtain ⟨zt, zst, zo, zq1, zq2, zq3⟩ := G0
    exact ⟨zt, zo, castTop (ef_rmK m r1 va p2 p3) zst, zq1, zq2, zq3⟩
  obtain ⟨Φ, hΦ⟩ : ∃ Φ, Φ = own_E s below (Q_rmK Z r1 va k1 kv z LL p2 p3 w0 w1 w2 w3 w4 h0 n0) ({ frames := 1, cells := 0, slots := 0, locals := 15 } : Room).cells ({ frames := 1, cells := 0, slots := 0, locals := 15 } : Room).slots := ⟨_, rfl⟩
  rw [← hΦ]
  show own_G p e below Φ s₁ (mkF m 0 #[.val (.ref r1), .val (.ref va), .val (.int p2), .val (.int p3)] [])
  refine own_go (fun _ => XS.iloadN X0.here hx rfl (hb hby d5_0) rfl) ?_
  show own_G p e below Φ s₁ (mkF m 1 #[.val (.ref r1), .val (.ref va), .val (.int p2), .val (.int p3)] [(.int p3)])
  refine own_go (fun _ => XS.aloadN X0.here hx rfl (hb hby d5_1) rfl rfl) ?_
  show own_G p e below Φ s₁ (mkF m 2 #[.val (.ref r1), .val (.ref va), .val (.int p2), .val (.int p3)] [(.ref r1), (.int p3)])
  obtain ⟨cl1, Ar1, q1, S1, M1, H1, G1⟩ := id V_r1
  refine own_go (fun _ => X0.arraylength hx (by rw [e0]; exact Ar1.1) (State.isArrayOf_alike hZ.alike Ar1.2.1) (g := (mkF m 2 #[.val (.ref r1), .val (.ref va), .val (.int p2), .val (.int p3)] [(.ref r1), (.int p3)])) rfl rfl (hb hby d5_2) _) ?_
  rw [len_of S1 M1]
  show own_G p e below Φ s₁ (mkF m 3 #[.val (.ref r1), .val (.ref va), .val (.int p2), .val (.int p3)] [(.int z), (.int p3)])
  by_cases hc3 : p3 < z
  · refine own_go (fun _ => XS.icmpYes X0.here hx rfl (pc0 := 3) (pc' := 8) rfl (hb hby d5_3) rfl (Jvm.Free.XT.ii_lt_t hc3) (by decide) (by decide)) ?_
    show own_G p e below Φ s₁ (mkF m 8 #[.val (.ref r1), .val (.ref va), .val (.int p2), .val (.int p3)] [])
    refine own_go (fun _ => XS.aloadN X0.here hx rfl (hb hby d5_8) rfl rfl) ?_
    show own_G p e below Φ s₁ (mkF m 9 #[.val (.ref r1), .val (.ref va), .val (.int p2), .val (.int p3)] [(.ref r1)])
    refine own_go (fun _ => XS.iloadN X0.here hx rfl (hb hby d5_9) rfl) ?_
    show own_G p e below Φ s₁ (mkF m 10 #[.val (.ref r1), .val (.ref va), .val (.int p2), .val (.int p3)] [(.int p3), (.ref r1)])
    obtain ⟨cl2, Ar2, q2, S2, M2, H2, G2⟩ := id V_r1
    have hin2 : ¬ (p3 < 0 ∨ cl2.slots.size ≤ (p3).toNatClampNeg) := inb_of S2 ⟨hk0, hc3⟩
    refine own_go (fun _ => X0.iaload hx (j := p3) (v := (.int (own_first w0 w1 w2 w3 w4 p2 p3))) (by rw [e0]; exact Ar2.1) (State.isArrayOf_alike hZ.alike Ar2.2.1) Ar2.2.2 hin2 (H2.at hin2 ((own_vs_at _ _).trans (congrArg Value.int (hcn hc3)))) (g := (mkF m 10 #[.val (.ref r1), .val (.ref va), .val (.int p2), .val (.int p3)] [(.int p3), (.ref r1)])) rfl rfl (hb hby d5_10) _) ?_
    show own_G p e below Φ s₁ (mkF m 11 #[.val (.ref r1), .val (.ref va), .val (.int p2), .val (.int p3)] [(.int (own_first w0 w1 w2 w3 w4 p2 p3))])
    refine own_go (fun _ => XS.aloadN X0.here hx rfl (hb hby d5_11) rfl rfl) ?_
    show own_G p e below Φ s₁ (mkF m 12 #[.val (.ref r1), .val (.ref va), .val (.int p2), .val (.int p3)] [(.ref va), (.int (own_first w0 w1 w2 w3 w4 p2 p3))])
    refine own_go (fun _ => XS.iloadN X0.here hx rfl (hb hby d5_12) rfl) ?_
    show own_G p e below Φ s₁ (mkF m 13 #[.val (.ref r1), .val (.ref va), .val (.int p2), .val (.int p3)] [(.int p2), (.ref va), (.int (own_first w0 w1 w2 w3 w4 p2 p3))])
    refine own_go (fun _ => XS.iloadN X0.here hx rfl (hb hby d5_13) rfl) ?_
    show own_G p e below Φ s₁ (mkF m 14 #[.val (.ref r1), .val (.ref va), .val (.int p2), .val (.int p3)] [(.int p3), (.int p2), (.ref va), (.int (own_first w0 w1 w2 w3 w4 p2 p3))])
    obtain ⟨_, _, ⟨T3, zL3, zk3, zn3⟩, -, X3, ⟨Lc3, hQ3, l3, y3, z3⟩, st3⟩ := Jvm.LawKit.callS X0 hx (y := (⟨"com/example/edgewarden/edgewarden/graph/LikenessGetFirstMembersPinLaw", "first", "([III)I"⟩ : MethodName)) hown (mvT hZ (wd_29 hw)) (mvT hZ (wd_30 hw)) (mvT hZ (wd_26 hw)) (mvT hZ (wd_31 hw)) (by decide) (backOf (W := 1) (rmN l Z a0 hw [] va kv p2 p3 w0 w1 w2 w3 w4 h0 n0 Z0 V_va) hZ (wd_31 hw) (wd_26 hw) (by decide) (by decide)) (g := (mkF m 14 #[.val (.ref r1), .val (.ref va), .val (.int p2), .val (.int p3)] [(.int p3), (.int p2), (.ref va), (.int (own_first w0 w1 w2 w3 w4 p2 p3))])) rfl (by rw [hml]; rfl) (argsL := [(.ref va), (.int p2), (.int p3)]) (rest := [(.int (own_first w0 w1 w2 w3 w4 p2 p3))]) (lenOf pd_1 rfl) rfl (by show 2 * 0 + _ ≤ _; exact Nat.le_of_eq rfl) (hb hby d5_14) (fun _ _ => ⟨rfl, e0, (by decide : 0 + 0 ≤ _), (by decide : 0 + 0 ≤ _)⟩)
    dsimp only [Pt.U, Pt.locs, Pt.cells, Pt.slots] at X3 l3 y3 z3 st3 hQ3
    subst l3 y3 z3
    obtain ⟨rfl, N3q, hs3⟩ := hQ3
    have N3 := Fr.app N0 N3q
    refine own_go st3 ?_
    show own_G p e below Φ T3 (mkF m 17 #[.val (.ref r1), .val (.ref va), .val (.int p2), .val (.int p3)] [(.int (own_first w0 w1 w2 w3 w4 p2 p3)), (.int (own_first w0 w1 w2 w3 w4 p2 p3))])
    refine own_go (fun _ => XS.icmpNo X3.here hx rfl (hb hby d5_17) rfl (Jvm.Free.XT.ii_ne_f (rfl : (own_first w0 w1 w2 w3 w4 p2 p3) = (own_first w0 w1 w2 w3 w4 p2 p3)))) ?_
    show own_G p e below Φ T3 (mkF m 20 #[.val (.ref r1), .val (.ref va), .val (.int p2), .val (.int p3)] [])
    refine own_go (fun _ => XS.iconst X3.here hx rfl (hb hby d5_20)) ?_
    show own_G p e below Φ T3 (mkF m 21 #[.val (.ref r1), .val (.ref va), .val (.int p2), .val (.int p3)] [(.int (1 : Int32))])
    refine own_go (fun _ => XS.goto X3.here hx rfl (pc0 := 21) (pc' := 25) rfl (hb hby d5_21) (by decide) (by decide)) ?_
    show own_G p e below Φ T3 (mkF m 25 #[.val (.ref r1), .val (.ref va), .val (.int p2), .val (.int p3)] [(.int (1 : Int32))])
    rw [hΦ]
    refine own_ret X3 (v := some (.int (1 : Int32))) (fun h => by rw [Bd.returns] at h; cases h) (BodyLoose.notSynchronized Bd) (fun fs hr => retN X3 hx (t := .boolean) Bd.returns (by simp) (hb hby d5_25) hr) ?_ (by decide) (by decide)
    rw [hs3]
    exact ⟨rfl, N3, rfl⟩
  · refine own_go (fun _ => XS.icmpNo X0.here hx rfl (hb hby d5_3) rfl (Jvm.Free.XT.ii_lt_f hc3)) ?_
    show own_G p e below Φ s₁ (mkF m 6 #[.val (.ref r1), .val (.ref va), .val (.int p2), .val (.int p3)] [])
    refine own_go (fun _ => XS.iconst X0.here hx rfl (hb hby d5_6)) ?_
    show own_G p e below Φ s₁ (mkF m 7 #[.val (.ref r1), .val (.ref va), .val (.int p2), .val (.int p3)] [(.int (1 : Int32))])
    rw [hΦ]
    refine own_ret X0 (v := some (.int (1 : Int32))) (fun h => by rw [Bd.returns] at h; cases h) (BodyLoose.notSynchronized Bd) (fun fs hr => retN X0 hx (t := .boolean) Bd.returns (by simp) (hb hby d5_7) hr) ?_ (by decide) (by decide)
    rw [e0]
    exact ⟨rfl, N0, rfl⟩
theorem wd_0 {Z : State} {a0 : Array Value} (hw : ∀ d ∈ tables_1, d.before a0 Z = true) : ((Jvm.Cond.constant "com/example/edgewarden/edgewarden/graph/LikenessGetFirstMembersPinLaw" (7 : Nat) (2147483647 : Int32)) : Jvm.Cond).before a0 Z = true := hw _ (List.mem_of_getElem? (i := 0) rfl)
theorem wd_1 {Z : State} {a0 : Array Value} (hw : ∀ d ∈ tables_1, d.before a0 Z = true) : ((Jvm.Cond.methodLink "com/example/edgewarden/edgewarden/graph/LikenessGetFirstMembersPinLaw" (8 : Nat) ({ cls := "java/lang/Math", name := "max", desc := "(II)I" } : Jvm.MethodName)) : Jvm.Cond).before a0 Z = true := hw _ (List.mem_of_getElem? (i := 1) rfl)
theorem wd_6 {Z : State} {a0 : Array Value} (hw : ∀ d ∈ tables_1, d.before a0 Z = true) : ((Jvm.Cond.classLink "com/example/edgewarden/edgewarden/graph/LikenessGetFirstMembersPinLaw" (14 : Nat) "com/example/edgewarden/edgewarden/graph/Likeness") : Jvm.Cond).before a0 Z = true := hw _ (List.mem_of_getElem? (i := 6) rfl)
theorem wd_8 {Z : State} {a0 : Array Value} (hw : ∀ d ∈ tables_1, d.before a0 Z = true) : ((Jvm.Cond.initialized "com/example/edgewarden/edgewarden/graph/Likeness") : Jvm.Cond).before a0 Z = true := hw _ (List.mem_of_getElem? (i := 8) rfl)
theorem wd_9 {Z : State} {a0 : Array Value} (hw : ∀ d ∈ tables_1, d.before a0 Z = true) : ((Jvm.Cond.methodLink "com/example/edgewarden/edgewarden/graph/LikenessGetFirstMembersPinLaw" (16 : Nat) ({ cls := "com/example/edgewarden/edgewarden/graph/Likeness", name := "<init>", desc := "([I)V" } : Jvm.MethodName)) : Jvm.Cond).before a0 Z = true := hw _ (List.mem_of_getElem? (i := 9) rfl)
theorem wd_11 {Z : State} {a0 : Array Value} (hw : ∀ d ∈ tables_1, d.before a0 Z = true) : ((Jvm.Cond.code ({ cls := "com/example/edgewarden/edgewarden/graph/Likeness", name := "<init>", desc := "([I)V" } : Jvm.MethodName) prog_57_method_3_code (7 : Nat) (Option.none : Option Jvm.ClassFile.FieldType)) : Jvm.Cond).before a0 Z = true := hw _ (List.mem_of_getElem? (i := 11) rfl)
theorem pd_2 : parseMethodDescriptor "([I)V" = some ⟨[(.array .int)], none⟩ := by decide +kernel
theorem wd_10 {Z : State} {a0 : Array Value} (hw : ∀ d ∈ tables_1, d.before a0 Z = true) : ((Jvm.Cond.instanceMethod ({ cls := "com/example/edgewarden/edgewarden/graph/Likeness", name := "<init>", desc := "([I)V" } : Jvm.MethodName)) : Jvm.Cond).before a0 Z = true := hw _ (List.mem_of_getElem? (i := 10) rfl)
theorem wd_19 {Z : State} {a0 : Array Value} (hw : ∀ d ∈ tables_1, d.before a0 Z = true) : ((Jvm.Cond.methodLink "com/example/edgewarden/edgewarden/graph/LikenessGetFirstMembersPinLaw" (19 : Nat) ({ cls := "com/example/edgewarden/edgewarden/graph/Likeness", name := "getFirstMembers", desc := "()[I" } : Jvm.MethodName)) : Jvm.Cond).before a0 Z = true := hw _ (List.mem_of_getElem? (i := 19) rfl)
theorem wd_23 {Z : State} {a0 : Array Value} (hw : ∀ d ∈ tables_1, d.before a0 Z = true) : ((Jvm.Cond.code ({ cls := "com/example/edgewarden/edgewarden/graph/Likeness", name := "getFirstMembers", desc := "()[I" } : Jvm.MethodName) prog_57_method_8_code (3 : Nat) (Option.some (Jvm.ClassFile.FieldType.array Jvm.ClassFile.FieldType.int))) : Jvm.Cond).before a0 Z = true := hw _ (List.mem_of_getElem? (i := 23) rfl)
theorem pd_3 : parseMethodDescriptor "()[I" = some ⟨[], some (.array .int)⟩ := by decide +kernel
theorem wd_22 {Z : State} {a0 : Array Value} (hw : ∀ d ∈ tables_1, d.before a0 Z = true) : ((Jvm.Cond.selects "com/example/edgewarden/edgewarden/graph/Likeness" ({ cls := "com/example/edgewarden/edgewarden/graph/Likeness", name := "getFirstMembers", desc := "()[I" } : Jvm.MethodName) ({ cls := "com/example/edgewarden/edgewarden/graph/Likeness", name := "getFirstMembers", desc := "()[I" } : Jvm.MethodName)) : Jvm.Cond).before a0 Z = true := hw _ (List.mem_of_getElem? (i := 22) rfl)
theorem wd_20 {Z : State} {a0 : Array Value} (hw : ∀ d ∈ tables_1, d.before a0 Z = true) : ((Jvm.Cond.declares ({ cls := "com/example/edgewarden/edgewarden/graph/Likeness", name := "getFirstMembers", desc := "()[I" } : Jvm.MethodName)) : Jvm.Cond).before a0 Z = true := hw _ (List.mem_of_getElem? (i := 20) rfl)
theorem wd_21 {Z : State} {a0 : Array Value} (hw : ∀ d ∈ tables_1, d.before a0 Z = true) : ((Jvm.Cond.instanceMethod ({ cls := "com/example/edgewarden/edgewarden/graph/Likeness", name := "getFirstMembers", desc := "()[I" } : Jvm.MethodName)) : Jvm.Cond).before a0 Z = true := hw _ (List.mem_of_getElem? (i := 21) rfl)
theorem wd_24 {Z : State} {a0 : Array Value} (hw : ∀ d ∈ tables_1, d.before a0 Z = true) : ((Jvm.Cond.methodLink "com/example/edgewarden/edgewarden/graph/LikenessGetFirstMembersPinLaw" (23 : Nat) ({ cls := "com/example/edgewarden/edgewarden/graph/LikenessGetFirstMembersPinLaw", name := "ok", desc := "([I[III)Z" } : Jvm.MethodName)) : Jvm.Cond).before a0 Z = true := hw _ (List.mem_of_getElem? (i := 24) rfl)
theorem wd_27 {Z : State} {a0 : Array Value} (hw : ∀ d ∈ tables_1, d.before a0 Z = true) : ((Jvm.Cond.code ({ cls := "com/example/edgewarden/edgewarden/graph/LikenessGetFirstMembersPinLaw", name := "ok", desc := "([I[III)Z" } : Jvm.MethodName) method_3_code (4 : Nat) (Option.some Jvm.ClassFile.FieldType.boolean)) : Jvm.Cond).before a0 Z = true := hw _ (List.mem_of_getElem? (i := 27) rfl)
theorem pd_4 : parseMethodDescriptor "([I[III)Z" = some ⟨[(.array .int), (.array .int), .int, .int], some .boolean⟩ := by decide +kernel
theorem wd_25 {Z : State} {a0 : Array Value} (hw : ∀ d ∈ tables_1, d.before a0 Z = true) : ((Jvm.Cond.static ({ cls := "com/example/edgewarden/edgewarden/graph/LikenessGetFirstMembersPinLaw", name := "ok", desc := "([I[III)Z" } : Jvm.MethodName)) : Jvm.Cond).before a0 Z = true := hw _ (List.mem_of_getElem? (i := 25) rfl)
theorem ef_rm0 (m : MethodId) (p0 : Int32) (p1 : Int32) (p2 : Int32) (p3 : Int32) (p4 : Int32) : entryFrame m #[(.int p0), (.int p1), (.int p2), (.int p3), (.int p4)] maxLocals = mkF m 0 #[.val (.int p0), .val (.int p1), .val (.int p2), .val (.int p3), .val (.int p4), .unset, .unset, .unset, .unset, .unset, .unset, .unset, .unset, .unset, .unset, .unset, .unset, .unset, .unset] [] := by first | (simp [entryFrame, mkF, argsToLocals, Value.category, maxLocals]; done) | rfl
def Q_rm0 (Z : State) (p0 : Int32) (p1 : Int32) (p2 : Int32) (p3 : Int32) (p4 : Int32) (h0 : Heap) (n0 : Nat) (v : Option Value) (h : Heap) (L : List Loc) : Prop := v = some (.int (1 : Int32)) ∧ Fr n0 L
set_option maxRecDepth 65536 in
set_option maxHeartbeats 40000000 in
theorem rm0 (l : Launch) (Z : State) (a0 : Array Value) (hw : ∀ d ∈ tables_1, d.before a0 Z = true) (ws : List Jvm.Cond) (p0 : Int32) (p1 : Int32) (p2 : Int32) (p3 : Int32) (p4 : Int32) (h0 : Heap) (n0 : Nat) (Z0 : n0 ≤ h0.size)  :
    MetFree l x (head1 (Jvm.Cond.code x code maxLocals ret :: ws) room_1) (fun a U => a = #[(.int p0), (.int p1), (.int p2), (.int p3), (.int p4)] ∧ Z.Warmed39 U.vm ∧ U.heap = h0) (fun _ _ _ _ _ => True) (fun _ U o U' => ∃ v L, o = .returned v ∧ Q_rm0 Z p0 p1 p2 p3 p4 h0 n0 v U'.heap L ∧ FrameEnd U o U' L room_1.cells room_1.slots) := by
  refine MetFree.of_bodySF (plainFor_of_name pn_1) hisR ?_
  intro p e s m args below meth c s₁ Bd hml0 hP hK
  obtain ⟨rfl, hZ, hh⟩ := hP
  have hx := Bd.exec
  have hby := Bd.bytes
  have hml : c.maxLocals = 19 := hml0
  have hown : s.vm.findClass "com/example/edgewarden/edgewarden/graph/LikenessGetFirstMembersPinLaw" = some m.cls := findClass_of_methodNamed Bd.named
  have hnm := (name_of_methodNamed Bd.named Bd.method).1
  have X0 : Stand p l e room_1 s m #[(.int p0), (.int p1), (.int p2), (.int p3), (.int p4)] below meth c s₁ [] 0 0 := Stand.of_body Bd
  have e0 : s₁.heap = h0 := by rw [← hh, Bd.state]; rfl
  have N0 := Fr.nil n0
  suffices G0 : own_G p e below (own_E s below (Q_rm0 Z p0 p1 p2 p3 p4 h0 n0) room_1.cells room_1.slots) s₁ (mkF m 0 #[.val (.int p0), .val (.int p1), .val (.int p2), .val (.int p3), .val (.int p4), .unset, .unset, .unset, .unset, .unset, .unset, .unset, .unset, .unset, .unset, .unset, .unset, .unset, .unset] []) by
    obtain ⟨zt, zst, zo, zq1, zq2, zq3⟩ := G0
    exact ⟨zt, zo, castTop (ef_rm0 m p0 p1 p2 p3 p4) zst, zq1, zq2, zq3⟩
  obtain ⟨Φ, hΦ⟩ : ∃ Φ, Φ = own_E s below (Q_rm0 Z p0 p1 p2 p3 p4 h0 n0) room_1.cells room_1.slots := ⟨_, rfl⟩
  rw [← hΦ]
  show own_G p e below Φ s₁ (mkF m 0 #[.val (.int p0), .val (.int p1), .val (.int p2), .val (.int p3), .val (.int p4), .unset, .unset, .unset, .unset, .unset, .unset, .unset, .unset, .unset, .unset, .unset, .unset, .unset, .unset] [])
  refine own_go (fun _ => XS.iloadN X0.here hx rfl (hb hby at_0) rfl) ?_
  show own_G p e below Φ s₁ (mkF m 1 #[.val (.int p0), .val (.int p1), .val (.int p2), .val (.int p3), .val (.int p4), .unset, .unset, .unset, .unset, .unset, .unset, .unset, .unset, .unset, .unset, .unset, .unset, .unset, .unset] [(.int p0)])
  refine own_go (fun _ => X0.ldcInt hx hown (mvT hZ (wd_0 hw)) (g := (mkF m 1 #[.val (.int p0), .val (.int p1), .val (.int p2), .val (.int p3), .val (.int p4), .unset, .unset, .unset, .unset, .unset, .unset, .unset, .unset, .unset, .unset, .unset, .unset, .unset, .unset] [(.int p0)])) rfl (hb hby at_1) _) ?_
  show own_G p e below Φ s₁ (mkF m 3 #[.val (.int p0), .val (.int p1), .val (.int p2), .val (.int p3), .val (.int p4), .unset, .unset, .unset, .unset, .unset, .unset, .unset, .unset, .unset, .unset, .unset, .unset, .unset, .unset] [(.int (2147483647 : Int32)), (.int p0)])
  refine own_go (fun _ => XS.iand X0.here hx rfl (hb hby at_3) rfl) ?_
  show own_G p e below Φ s₁ (mkF m 4 #[.val (.int p0), .val (.int p1), .val (.int p2), .val (.int p3), .val (.int p4), .unset, .unset, .unset, .unset, .unset, .unset, .unset, .unset, .unset, .unset, .unset, .unset, .unset, .unset] [(.int (p0 &&& (2147483647 : Int32)))])
  refine own_go (fun _ => XS.bipush X0.here hx rfl (hb hby at_4)) ?_
  show own_G p e below Φ s₁ (mkF m 6 #[.val (.int p0), .val (.int p1), .val (.int p2), .val (.int p3), .val (.int p4), .unset, .unset, .unset, .unset, .unset, .unset, .unset, .unset, .unset, .unset, .unset, .unset, .unset, .unset] [(.int (6 : Int32)), (.int (p0 &&& (2147483647 : Int32)))])
  refine own_go (fun _ => iremM X0 hx rfl (hb hby at_6) rfl (by decide)) ?_
  show own_G p e below Φ s₁ (mkF m 7 #[.val (.int p0), .val (.int p1), .val (.int p2), .val (.int p3), .val (.int p4), .unset, .unset, .unset, .unset, .unset, .unset, .unset, .unset, .unset, .unset, .unset, .unset, .unset, .unset] [(.int ((p0 &&& (2147483647 : Int32)) % (6 : Int32)))])
  refine own_go (fun _ => XS.istore X0.here hx rfl (hb hby at_7) rfl (l' := #[.val (.int p0), .val (.int p1), .val (.int p2), .val (.int p3), .val (.int p4), .val (.int ((p0 &&& (2147483647 : Int32)) % (6 : Int32))), .unset, .unset, .unset, .unset, .unset, .unset, .unset, .unset, .unset, .unset, .unset, .unset, .unset]) rfl) ?_
  show own_G p e below Φ s₁ (mkF m 9 #[.val (.int p0), .val (.int p1), .val (.int p2), .val (.int p3), .val (.int p4), .val (.int ((p0 &&& (2147483647 : Int32)) % (6 : Int32))), .unset, .unset, .unset, .unset, .unset, .unset, .unset, .unset, .unset, .unset, .unset, .unset, .unset] [])
  generalize hx5_7 : ((p0 &&& (2147483647 : Int32)) % (6 : Int32)) = x5_7
  show own_G p e below Φ s₁ (mkF m 9 #[.val (.int p0), .val (.int p1), .val (.int p2), .val (.int p3), .val (.int p4), .val (.int x5_7), .unset, .unset, .unset, .unset, .unset, .unset, .unset, .unset, .unset, .unset, .unset, .unset, .unset] [])
  refine own_go (fun _ => XS.iloadN X0.here hx rfl (hb hby at_9) rfl) ?_
  show own_G p e below Φ s₁ (mkF m 10 #[.val (.int p0), .val (.int p1), .val (.int p2), .val (.int p3), .val (.int p4), .val (.int x5_7), .unset, .unset, .unset, .unset, .unset, .unset, .unset, .unset, .unset, .unset, .unset, .unset, .unset] [(.int p1)])
  refine own_go (fun _ => X0.ldcInt hx hown (mvT hZ (wd_0 hw)) (g := (mkF m 10 #[.val (.int p0), .val (.int p1), .val (.int p2), .val (.int p3), .val (.int p4), .val (.int x5_7), .unset, .unset, .unset, .unset, .unset, .unset, .unset, .unset, .unset, .unset, .unset, .unset, .unset] [(.int p1)])) rfl (hb hby at_10) _) ?_
  show own_G p e below Φ s₁ (mkF m 12 #[.val (.int p0), .val (.int p1), .val (.int p2), .val (.int p3), .val (.int p4), .val (.int x5_7), .unset, .unset, .unset, .unset, .unset, .unset, .unset, .unset, .unset, .unset, .unset, .unset, .unset] [(.int (2147483647 : Int32)), (.int p1)])
  refine own_go (fun _ => XS.iand X0.here hx rfl (hb hby at_12) rfl) ?_
  show own_G p e below Φ s₁ (mkF m 13 #[.val (.int p0), .val (.int p1), .val (.int p2), .val (.int p3), .val (.int p4), .val (.int x5_7), .unset, .unset, .unset, .unset, .unset, .unset, .unset, .unset, .unset, .unset, .unset, .unset, .unset] [(.int (p1 &&& (2147483647 : Int32)))])
  refine own_go (fun _ => XS.iconst X0.here hx rfl (hb hby at_13)) ?_
  show own_G p e below Φ s₁ (mkF m 14 #[.val (.int p0), .val (.int p1), .val (.int p2), .val (.int p3), .val (.int p4), .val (.int x5_7), .unset, .unset, .unset, .unset, .unset, .unset, .unset, .unset, .unset, .unset, .unset, .unset, .unset] [(.int (2 : Int32)), (.int (p1 &&& (2147483647 : Int32)))])
  refine own_go (fun _ => iremM X0 hx rfl (hb hby at_14) rfl (by decide)) ?_
  show own_G p e below Φ s₁ (mkF m 15 #[.val (.int p0), .val (.int p1), .val (.int p2), .val (.int p3), .val (.int p4), .val (.int x5_7), .unset, .unset, .unset, .unset, .unset, .unset, .unset, .unset, .unset, .unset, .unset, .unset, .unset] [(.int ((p1 &&& (2147483647 : Int32)) % (2 : Int32)))])
  refine own_go (fun _ => XS.istore X0.here hx rfl (hb hby at_15) rfl (l' := #[.val (.int p0), .val (.int p1), .val (.int p2), .val (.int p3), .val (.int p4), .val (.int x5_7), .val (.int ((p1 &&& (2147483647 : Int32)) % (2 : Int32))), .unset, .unset, .unset, .unset, .unset, .unset, .unset, .unset, .unset, .unset, .unset, .unset]) rfl) ?_
  show own_G p e below Φ s₁ (mkF m 17 #[.val (.int p0), .val (.int p1), .val (.int p2), .val (.int p3), .val (.int p4), .val (.int x5_7), .val (.int ((p1 &&& (2147483647 : Int32)) % (2 : Int32))), .unset, .unset, .unset, .unset, .unset, .unset, .unset, .unset, .unset, .unset, .unset, .unset] [])
  generalize hx6_15 : ((p1 &&& (2147483647 : Int32)) % (2 : Int32)) = x6_15
  show own_G p e below Φ s₁ (mkF m 17 #[.val (.int p0), .val (.int p1), .val (.int p2), .val (.int p3), .val (.int p4), .val (.int x5_7), .val (.int x6_15), .unset, .unset, .unset, .unset, .unset, .unset, .unset, .unset, .unset, .unset, .unset, .unset] [])
  refine own_go (fun _ => XS.iconst X0.here hx rfl (hb hby at_17)) ?_
  show own_G p e below Φ s₁ (mkF m 18 #[.val (.int p0), .val (.int p1), .val (.int p2), .val (.int p3), .val (.int p4), .val (.int x5_7), .val (.int x6_15), .unset, .unset, .unset, .unset, .unset, .unset, .unset, .unset, .unset, .unset, .unset, .unset] [(.int (0 : Int32))])
  refine own_go (fun _ => XS.iload X0.here hx rfl (hb hby at_18) rfl) ?_
  show own_G p e below Φ s₁ (mkF m 20 #[.val (.int p0), .val (.int p1), .val (.int p2), .val (.int p3), .val (.int p4), .val (.int x5_7), .val (.int x6_15), .unset, .unset, .unset, .unset, .unset, .unset, .unset, .unset, .unset, .unset, .unset, .unset] [(.int x6_15), (.int (0 : Int32))])
  obtain ⟨_, _, ⟨T1, zL1, zk1, zn1⟩, -, X1, ⟨Lc1, hQ1, l1, y1, z1⟩, st1⟩ := Jvm.LawKit.callS X0 hx (y := (⟨"java/lang/Math", "max", "(II)I"⟩ : MethodName)) hown (mvT hZ (wd_1 hw)) (mvT hZ (wd_2 hw)) (mvT hZ (wd_3 hw)) (mvT hZ (wd_4 hw)) (by decide) (backOf (W := 0) (rmM l Z a0 hw [] (0 : Int32) x6_15 h0 n0 Z0 ) hZ (wd_4 hw) (wd_3 hw) (by decide) (by decide)) (g := (mkF m 20 #[.val (.int p0), .val (.int p1), .val (.int p2), .val (.int p3), .val (.int p4), .val (.int x5_7), .val (.int x6_15), .unset, .unset, .unset, .unset, .unset, .unset, .unset, .unset, .unset, .unset, .unset, .unset] [(.int x6_15), (.int (0 : Int32))])) rfl (by rw [hml]; rfl) (argsL := [(.int (0 : Int32)), (.int x6_15)]) (rest := []) (lenOf pd_0 rfl) rfl (by show 2 * 0 + _ ≤ _; exact Nat.le_of_eq rfl) (hb hby at_20) (fun _ _ => ⟨rfl, e0, (by decide : 0 + 0 ≤ _), (by decide : 0 + 0 ≤ _)⟩)
  dsimp only [Pt.U, Pt.locs, Pt.cells, Pt.slots] at X1 l1 y1 z1 st1 hQ1
  subst l1 y1 z1
  obtain ⟨rfl, N1q, hs1⟩ := hQ1
  have N1 := Fr.app N0 N1q
  refine own_go st1 ?_
  show own_G p e below Φ T1 (mkF m 23 #[.val (.int p0), .val (.int p1), .val (.int p2), .val (.int p3), .val (.int p4), .val (.int x5_7), .val (.int x6_15), .unset, .unset, .unset, .unset, .unset, .unset, .unset, .unset, .unset, .unset, .unset, .unset] [(.int (own_max (0 : Int32) x6_15))])
  refine own_go (fun _ => XS.istore X1.here hx rfl (hb hby at_23) rfl (l' := #[.val (.int p0), .val (.int p1), .val (.int p2), .val (.int p3), .val (.int p4), .val (.int x5_7), .val (.int x6_15), .val (.int (own_max (0 : Int32) x6_15)), .unset, .unset, .unset, .unset, .unset, .unset, .unset, .unset, .unset, .unset, .unset]) rfl) ?_
  show own_G p e below Φ T1 (mkF m 25 #[.val (.int p0), .val (.int p1), .val (.int p2), .val (.int p3), .val (.int p4), .val (.int x5_7), .val (.int x6_15), .val (.int (own_max (0 : Int32) x6_15)), .unset, .unset, .unset, .unset, .unset, .unset, .unset, .unset, .unset, .unset, .unset] [])
  generalize hx7_23 : (own_max (0 : Int32) x6_15) = x7_23
  show own_G p e below Φ T1 (mkF m 25 #[.val (.int p0), .val (.int p1), .val (.int p2), .val (.int p3), .val (.int p4), .val (.int x5_7), .val (.int x6_15), .val (.int x7_23), .unset, .unset, .unset, .unset, .unset, .unset, .unset, .unset, .unset, .unset, .unset] [])
  refine own_go (fun _ => XS.iloadN X1.here hx rfl (hb hby at_25) rfl) ?_
  show own_G p e below Φ T1 (mkF m 26 #[.val (.int p0), .val (.int p1), .val (.int p2), .val (.int p3), .val (.int p4), .val (.int x5_7), .val (.int x6_15), .val (.int x7_23), .unset, .unset, .unset, .unset, .unset, .unset, .unset, .unset, .unset, .unset, .unset] [(.int p2)])
  refine own_go (fun _ => X1.ldcInt hx hown (mvT hZ (wd_0 hw)) (g := (mkF m 26 #[.val (.int p0), .val (.int p1), .val (.int p2), .val (.int p3), .val (.int p4), .val (.int x5_7), .val (.int x6_15), .val (.int x7_23), .unset, .unset, .unset, .unset, .unset, .unset, .unset, .unset, .unset, .unset, .unset] [(.int p2)])) rfl (hb hby at_26) _) ?_
  show own_G p e below Φ T1 (mkF m 28 #[.val (.int p0), .val (.int p1), .val (.int p2), .val (.int p3), .val (.int p4), .val (.int x5_7), .val (.int x6_15), .val (.int x7_23), .unset, .unset, .unset, .unset, .unset, .unset, .unset, .unset, .unset, .unset, .unset] [(.int (2147483647 : Int32)), (.int p2)])
  refine own_go (fun _ => XS.iand X1.here hx rfl (hb hby at_28) rfl) ?_
  show own_G p e below Φ T1 (mkF m 29 #[.val (.int p0), .val (.int p1), .val (.int p2), .val (.int p3), .val (.int p4), .val (.int x5_7), .val (.int x6_15), .val (.int x7_23), .unset, .unset, .unset, .unset, .unset, .unset, .unset, .unset, .unset, .unset, .unset] [(.int (p2 &&& (2147483647 : Int32)))])
  refine own_go (fun _ => XS.iload X1.here hx rfl (hb hby at_29) rfl) ?_
  show own_G p e below Φ T1 (mkF m 31 #[.val (.int p0), .val (.int p1), .val (.int p2), .val (.int p3), .val (.int p4), .val (.int x5_7), .val (.int x6_15), .val (.int x7_23), .unset, .unset, .unset, .unset, .unset, .unset, .unset, .unset, .unset, .unset, .unset] [(.int x7_23), (.int (p2 &&& (2147483647 : Int32)))])
  refine own_go (fun _ => XS.iconst X1.here hx rfl (hb hby at_31)) ?_
  show own_G p e below Φ T1 (mkF m 32 #[.val (.int p0), .val (.int p1), .val (.int p2), .val (.int p3), .val (.int p4), .val (.int x5_7), .val (.int x6_15), .val (.int x7_23), .unset, .unset, .unset, .unset, .unset, .unset, .unset, .unset, .unset, .unset, .unset] [(.int (2 : Int32)), (.int x7_23), (.int (p2 &&& (2147483647 : Int32)))])
  refine own_go (fun _ => XS.iadd X1.here hx rfl (hb hby at_32) rfl) ?_
  show own_G p e below Φ T1 (mkF m 33 #[.val (.int p0), .val (.int p1), .val (.int p2), .val (.int p3), .val (.int p4), .val (.int x5_7), .val (.int x6_15), .val (.int x7_23), .unset, .unset, .unset, .unset, .unset, .unset, .unset, .unset, .unset, .unset, .unset] [(.int (x7_23 + (2 : Int32))), (.int (p2 &&& (2147483647 : Int32)))])
  refine own_go (fun _ => iremM X1 hx rfl (hb hby at_33) rfl (own_nz1 hx6_15 hx7_23)) ?_
  show own_G p e below Φ T1 (mkF m 34 #[.val (.int p0), .val (.int p1), .val (.int p2), .val (.int p3), .val (.int p4), .val (.int x5_7), .val (.int x6_15), .val (.int x7_23), .unset, .unset, .unset, .unset, .unset, .unset, .unset, .unset, .unset, .unset, .unset] [(.int ((p2 &&& (2147483647 : Int32)) % (x7_23 + (2 : Int32))))])
  refine own_go (fun _ => XS.istore X1.here hx rfl (hb hby at_34) rfl (l' := #[.val (.int p0), .val (.int p1), .val (.int p2), .val (.int p3), .val (.int p4), .val (.int x5_7), .val (.int x6_15), .val (.int x7_23), .val (.int ((p2 &&& (2147483647 : Int32)) % (x7_23 + (2 : Int32)))), .unset, .unset, .unset, .unset, .unset, .unset, .unset, .unset, .unset, .unset]) rfl) ?_
  show own_G p e below Φ T1 (mkF m 36 #[.val (.int p0), .val (.int p1), .val (.int p2), .val (.int p3), .val (.int p4), .val (.int x5_7), .val (.int x6_15), .val (.int x7_23), .val (.int ((p2 &&& (2147483647 : Int32)) % (x7_23 + (2 : Int32)))), .unset, .unset, .unset, .unset, .unset, .unset, .unset, .unset, .unset, .unset] [])
  generalize hx8_34 : ((p2 &&& (2147483647 : Int32)) % (x7_23 + (2 : Int32))) = x8_34
  show own_G p e below Φ T1 (mkF m 36 #[.val (.int p0), .val (.int p1), .val (.int p2), .val (.int p3), .val (.int p4), .val (.int x5_7), .val (.int x6_15), .val (.int x7_23), .val (.int x8_34), .unset, .unset, .unset, .unset, .unset, .unset, .unset, .unset, .unset, .unset] [])
  refine own_go (fun _ => XS.iload X1.here hx rfl (hb hby at_36) rfl) ?_
  show own_G p e below Φ T1 (mkF m 38 #[.val (.int p0), .val (.int p1), .val (.int p2), .val (.int p3), .val (.int p4), .val (.int x5_7), .val (.int x6_15), .val (.int x7_23), .val (.int x8_34), .unset, .unset, .unset, .unset, .unset, .unset, .unset, .unset, .unset, .unset] [(.int x7_23)])
  refine own_go (fun _ => XS.iload X1.here hx rfl (hb hby at_38) rfl) ?_
  show own_G p e below Φ T1 (mkF m 40 #[.val (.int p0), .val (.int p1), .val (.int p2), .val (.int p3), .val (.int p4), .val (.int x5_7), .val (.int x6_15), .val (.int x7_23), .val (.int x8_34), .unset, .unset, .unset, .unset, .unset, .unset, .unset, .unset, .unset, .unset] [(.int x8_34), (.int x7_23)])
  obtain ⟨_, _, ⟨T2, zL2, zk2, zn2⟩, -, X2, ⟨Lc2, hQ2, l2, y2, z2⟩, st2⟩ := Jvm.LawKit.callS X1 hx (y := (⟨"java/lang/Math", "max", "(II)I"⟩ : MethodName)) hown (mvT hZ (wd_1 hw)) (mvT hZ (wd_2 hw)) (mvT hZ (wd_3 hw)) (mvT hZ (wd_4 hw)) (by decide) (backOf (W := 0) (rmM l Z a0 hw [] x7_23 x8_34 h0 n0 Z0 ) hZ (wd_4 hw) (wd_3 hw) (by decide) (by decide)) (g := (mkF m 40 #[.val (.int p0), .val (.int p1), .val (.int p2), .val (.int p3), .val (.int p4), .val (.int x5_7), .val (.int x6_15), .val (.int x7_23), .val (.int x8_34), .unset, .unset, .unset, .unset, .unset, .unset, .unset, .unset, .unset, .unset] [(.int x8_34), (.int x7_23)])) rfl (by rw [hml]; rfl) (argsL := [(.int x7_23), (.int x8_34)]) (rest := []) (lenOf pd_0 rfl) rfl (by show 2 * 0 + _ ≤ _; exact Nat.le_of_eq rfl) (hb hby at_40) (fun _ _ => ⟨rfl, hs1, (by decide : 0 + 0 ≤ _), (by decide : 0 + 0 ≤ _)⟩)
  dsimp only [Pt.U, Pt.locs, Pt.cells, Pt.slots] at X2 l2 y2 z2 st2 hQ2
  subst l2 y2 z2
  obtain ⟨rfl, N2q, hs2⟩ := hQ2
  have N2 := Fr.app N1 N2q
  refine own_go st2 ?_
  show own_G p e below Φ T2 (mkF m 43 #[.val (.int p0), .val (.int p1), .val (.int p2), .val (.int p3), .val (.int p4), .val (.int x5_7), .val (.int x6_15), .val (.int x7_23), .val (.int x8_34), .unset, .unset, .unset, .unset, .unset, .unset, .unset, .unset, .unset, .unset] [(.int (own_max x7_23 x8_34))])
  refine own_go (fun _ => XS.istore X2.here hx rfl (hb hby at_43) rfl (l' := #[.val (.int p0), .val (.int p1), .val (.int p2), .val (.int p3), .val (.int p4), .val (.int x5_7), .val (.int x6_15), .val (.int x7_23), .val (.int x8_34), .val (.int (own_max x7_23 x8_34)), .unset, .unset, .unset, .unset, .unset, .unset, .unset, .unset, .unset]) rfl) ?_
  show own_G p e below Φ T2 (mkF m 45 #[.val (.int p0), .val (.int p1), .val (.int p2), .val (.int p3), .val (.int p4), .val (.int x5_7), .val (.int x6_15), .val (.int x7_23), .val (.int x8_34), .val (.int (own_max x7_23 x8_34)), .unset, .unset, .unset, .unset, .unset, .unset, .unset, .unset, .unset] [])
  generalize hx9_43 : (own_max x7_23 x8_34) = x9_43
  show own_G p e below Φ T2 (mkF m 45 #[.val (.int p0), .val (.int p1), .val (.int p2), .val (.int p3), .val (.int p4), .val (.int x5_7), .val (.int x6_15), .val (.int x7_23), .val (.int x8_34), .val (.int x9_43), .unset, .unset, .unset, .unset, .unset, .unset, .unset, .unset, .unset] [])
  refine own_go (fun _ => XS.iloadN X2.here hx rfl (hb hby at_45) rfl) ?_
  show own_G p e below Φ T2 (mkF m 46 #[.val (.int p0), .val (.int p1), .val (.int p2), .val (.int p3), .val (.int p4), .val (.int x5_7), .val (.int x6_15), .val (.int x7_23), .val (.int x8_34), .val (.int x9_43), .unset, .unset, .unset, .unset, .unset, .unset, .unset, .unset, .unset] [(.int p3)])
  refine own_go (fun _ => X2.ldcInt hx hown (mvT hZ (wd_0 hw)) (g := (mkF m 46 #[.val (.int p0), .val (.int p1), .val (.int p2), .val (.int p3), .val (.int p4), .val (.int x5_7), .val (.int x6_15), .val (.int x7_23), .val (.int x8_34), .val (.int x9_43), .unset, .unset, .unset, .unset, .unset, .unset, .unset, .unset, .unset] [(.int p3)])) rfl (hb hby at_46) _) ?_
  show own_G p e below Φ T2 (mkF m 48 #[.val (.int p0), .val (.int p1), .val (.int p2), .val (.int p3), .val (.int p4), .val (.int x5_7), .val (.int x6_15), .val (.int x7_23), .val (.int x8_34), .val (.int x9_43), .unset, .unset, .unset, .unset, .unset, .unset, .unset, .unset, .unset] [(.int (2147483647 : Int32)), (.int p3)])
  refine own_go (fun _ => XS.iand X2.here hx rfl (hb hby at_48) rfl) ?_
  show own_G p e below Φ T2 (mkF m 49 #[.val (.int p0), .val (.int p1), .val (.int p2), .val (.int p3), .val (.int p4), .val (.int x5_7), .val (.int x6_15), .val (.int x7_23), .val (.int x8_34), .val (.int x9_43), .unset, .unset, .unset, .unset, .unset, .unset, .unset, .unset, .unset] [(.int (p3 &&& (2147483647 : Int32)))])
  refine own_go (fun _ => XS.iload X2.here hx rfl (hb hby at_49) rfl) ?_
  show own_G p e below Φ T2 (mkF m 51 #[.val (.int p0), .val (.int p1), .val (.int p2), .val (.int p3), .val (.int p4), .val (.int x5_7), .val (.int x6_15), .val (.int x7_23), .val (.int x8_34), .val (.int x9_43), .unset, .unset, .unset, .unset, .unset, .unset, .unset, .unset, .unset] [(.int x9_43), (.int (p3 &&& (2147483647 : Int32)))])
  refine own_go (fun _ => XS.iconst X2.here hx rfl (hb hby at_51)) ?_
  show own_G p e below Φ T2 (mkF m 52 #[.val (.int p0), .val (.int p1), .val (.int p2), .val (.int p3), .val (.int p4), .val (.int x5_7), .val (.int x6_15), .val (.int x7_23), .val (.int x8_34), .val (.int x9_43), .unset, .unset, .unset, .unset, .unset, .unset, .unset, .unset, .unset] [(.int (2 : Int32)), (.int x9_43), (.int (p3 &&& (2147483647 : Int32)))])
  refine own_go (fun _ => XS.iadd X2.here hx rfl (hb hby at_52) rfl) ?_
  show own_G p e below Φ T2 (mkF m 53 #[.val (.int p0), .val (.int p1), .val (.int p2), .val (.int p3), .val (.int p4), .val (.int x5_7), .val (.int x6_15), .val (.int x7_23), .val (.int x8_34), .val (.int x9_43), .unset, .unset, .unset, .unset, .unset, .unset, .unset, .unset, .unset] [(.int (x9_43 + (2 : Int32))), (.int (p3 &&& (2147483647 : Int32)))])
  refine own_go (fun _ => iremM X2 hx rfl (hb hby at_53) rfl (own_nz2 hx6_15 hx7_23 hx8_34 hx9_43)) ?_
  show own_G p e below Φ T2 (mkF m 54 #[.val (.int p0), .val (.int p1), .val (.int p2), .val (.int p3), .val (.int p4), .val (.int x5_7), .val (.int x6_15), .val (.int x7_23), .val (.int x8_34), .val (.int x9_43), .unset, .unset, .unset, .unset, .unset, .unset, .unset, .unset, .unset] [(.int ((p3 &&& (2147483647 : Int32)) % (x9_43 + (2 : Int32))))])
  refine own_go (fun _ => XS.istore X2.here hx rfl (hb hby at_54) rfl (l' := #[.val (.int p0), .val (.int p1), .val (.int p2), .val (.int p3), .val (.int p4), .val (.int x5_7), .val (.int x6_15), .val (.int x7_23), .val (.int x8_34), .val (.int x9_43), .val (.int ((p3 &&& (2147483647 : Int32)) % (x9_43 + (2 : Int32)))), .unset, .unset, .unset, .unset, .unset, .unset, .unset, .unset]) rfl) ?_
  show own_G p e below Φ T2 (mkF m 56 #[.val (.int p0), .val (.int p1), .val (.int p2), .val (.int p3), .val (.int p4), .val (.int x5_7), .val (.int x6_15), .val (.int x7_23), .val (.int x8_34), .val (.int x9_43), .val (.int ((p3 &&& (2147483647 : Int32)) % (x9_43 + (2 : Int32)))), .unset, .unset, .unset, .unset, .unset, .unset, .unset, .unset] [])
  generalize hx10_54 : ((p3 &&& (2147483647 : Int32)) % (x9_43 + (2 : Int32))) = x10_54
  show own_G p e below Φ T2 (mkF m 56 #[.val (.int p0), .val (.int p1), .val (.int p2), .val (.int p3), .val (.int p4), .val (.int x5_7), .val (.int x6_15), .val (.int x7_23), .val (.int x8_34), .val (.int x9_43), .val (.int x10_54), .unset, .unset, .unset, .unset, .unset, .unset, .unset, .unset] [])
  refine own_go (fun _ => XS.iload X2.here hx rfl (hb hby at_56) rfl) ?_
  show own_G p e below Φ T2 (mkF m 58 #[.val (.int p0), .val (.int p1), .val (.int p2), .val (.int p3), .val (.int p4), .val (.int x5_7), .val (.int x6_15), .val (.int x7_23), .val (.int x8_34), .val (.int x9_43), .val (.int x10_54), .unset, .unset, .unset, .unset, .unset, .unset, .unset, .unset] [(.int x9_43)])
  refine own_go (fun _ => XS.iload X2.here hx rfl (hb hby at_58) rfl) ?_
  show own_G p e below Φ T2 (mkF m 60 #[.val (.int p0), .val (.int p1), .val (.int p2), .val (.int p3), .val (.int p4), .val (.int x5_7), .val (.int x6_15), .val (.int x7_23), .val (.int x8_34), .val (.int x9_43), .val (.int x10_54), .unset, .unset, .unset, .unset, .unset, .unset, .unset, .unset] [(.int x10_54), (.int x9_43)])
  obtain ⟨_, _, ⟨T3, zL3, zk3, zn3⟩, -, X3, ⟨Lc3, hQ3, l3, y3, z3⟩, st3⟩ := Jvm.LawKit.callS X2 hx (y := (⟨"java/lang/Math", "max", "(II)I"⟩ : MethodName)) hown (mvT hZ (wd_1 hw)) (mvT hZ (wd_2 hw)) (mvT hZ (wd_3 hw)) (mvT hZ (wd_4 hw)) (by decide) (backOf (W := 0) (rmM l Z a0 hw [] x9_43 x10_54 h0 n0 Z0 ) hZ (wd_4 hw) (wd_3 hw) (by decide) (by decide)) (g := (mkF m 60 #[.val (.int p0), .val (.int p1), .val (.int p2), .val (.int p3), .val (.int p4), .val (.int x5_7), .val (.int x6_15), .val (.int x7_23), .val (.int x8_34), .val (.int x9_43), .val (.int x10_54), .unset, .unset, .unset, .unset, .unset, .unset, .unset, .unset] [(.int x10_54), (.int x9_43)])) rfl (by rw [hml]; rfl) (argsL := [(.int x9_43), (.int x10_54)]) (rest := []) (lenOf pd_0 rfl) rfl (by show 2 * 0 + _ ≤ _; exact Nat.le_of_eq rfl) (hb hby at_60) (fun _ _ => ⟨rfl, hs2, (by decide : 0 + 0 ≤ _), (by decide : 0 + 0 ≤ _)⟩)
  dsimp only [Pt.U, Pt.locs, Pt.cells, Pt.slots] at X3 l3 y3 z3 st3 hQ3
  subst l3 y3 z3
  obtain ⟨rfl, N3q, hs3⟩ := hQ3
  have N3 := Fr.app N2 N3q
  refine own_go st3 ?_
  show own_G p e below Φ T3 (mkF m 63 #[.val (.int p0), .val (.int p1), .val (.int p2), .val (.int p3), .val (.int p4), .val (.int x5_7), .val (.int x6_15), .val (.int x7_23), .val (.int x8_34), .val (.int x9_43), .val (.int x10_54), .unset, .unset, .unset, .unset, .unset, .unset, .unset, .unset] [(.int (own_max x9_43 x10_54))])
  refine own_go (fun _ => XS.istore X3.here hx rfl (hb hby at_63) rfl (l' := #[.val (.int p0), .val (.int p1), .val (.int p2), .val (.int p3), .val (.int p4), .val (.int x5_7), .val (.int x6_15), .val (.int x7_23), .val (.int x8_34), .val (.int x9_43), .val (.int x10_54), .val (.int (own_max x9_43 x10_54)), .unset, .unset, .unset, .unset, .unset, .unset, .unset]) rfl) ?_
  show own_G p e below Φ T3 (mkF m 65 #[.val (.int p0), .val (.int p1), .val (.int p2), .val (.int p3), .val (.int p4), .val (.int x5_7), .val (.int x6_15), .val (.int x7_23), .val (.int x8_34), .val (.int x9_43), .val (.int x10_54), .val (.int (own_max x9_43 x10_54)), .unset, .unset, .unset, .unset, .unset, .unset, .unset] [])
  generalize hx11_63 : (own_max x9_43 x10_54) = x11_63
  show own_G p e below Φ T3 (mkF m 65 #[.val (.int p0), .val (.int p1), .val (.int p2), .val (.int p3), .val (.int p4), .val (.int x5_7), .val (.int x6_15), .val (.int x7_23), .val (.int x8_34), .val (.int x9_43), .val (.int x10_54), .val (.int x11_63), .unset, .unset, .unset, .unset, .unset, .unset, .unset] [])
  refine own_go (fun _ => XS.iload X3.here hx rfl (hb hby at_65) rfl) ?_
  show own_G p e below Φ T3 (mkF m 67 #[.val (.int p0), .val (.int p1), .val (.int p2), .val (.int p3), .val (.int p4), .val (.int x5_7), .val (.int x6_15), .val (.int x7_23), .val (.int x8_34), .val (.int x9_43), .val (.int x10_54), .val (.int x11_63), .unset, .unset, .unset, .unset, .unset, .unset, .unset] [(.int p4)])
  refine own_go (fun _ => X3.ldcInt hx hown (mvT hZ (wd_0 hw)) (g := (mkF m 67 #[.val (.int p0), .val (.int p1), .val (.int p2), .val (.int p3), .val (.int p4), .val (.int x5_7), .val (.int x6_15), .val (.int x7_23), .val (.int x8_34), .val (.int x9_43), .val (.int x10_54), .val (.int x11_63), .unset, .unset, .unset, .unset, .unset, .unset, .unset] [(.int p4)])) rfl (hb hby at_67) _) ?_
  show own_G p e below Φ T3 (mkF m 69 #[.val (.int p0), .val (.int p1), .val (.int p2), .val (.int p3), .val (.int p4), .val (.int x5_7), .val (.int x6_15), .val (.int x7_23), .val (.int x8_34), .val (.int x9_43), .val (.int x10_54), .val (.int x11_63), .unset, .unset, .unset, .unset, .unset, .unset, .unset] [(.int (2147483647 : Int32)), (.int p4)])
  refine own_go (fun _ => XS.iand X3.here hx rfl (hb hby at_69) rfl) ?_
  show own_G p e below Φ T3 (mkF m 70 #[.val (.int p0), .val (.int p1), .val (.int p2), .val (.int p3), .val (.int p4), .val (.int x5_7), .val (.int x6_15), .val (.int x7_23), .val (.int x8_34), .val (.int x9_43), .val (.int x10_54), .val (.int x11_63), .unset, .unset, .unset, .unset, .unset, .unset, .unset] [(.int (p4 &&& (2147483647 : Int32)))])
  refine own_go (fun _ => XS.iload X3.here hx rfl (hb hby at_70) rfl) ?_
  show own_G p e below Φ T3 (mkF m 72 #[.val (.int p0), .val (.int p1), .val (.int p2), .val (.int p3), .val (.int p4), .val (.int x5_7), .val (.int x6_15), .val (.int x7_23), .val (.int x8_34), .val (.int x9_43), .val (.int x10_54), .val (.int x11_63), .unset, .unset, .unset, .unset, .unset, .unset, .unset] [(.int x11_63), (.int (p4 &&& (2147483647 : Int32)))])
  refine own_go (fun _ => XS.iconst X3.here hx rfl (hb hby at_72)) ?_
  show own_G p e below Φ T3 (mkF m 73 #[.val (.int p0), .val (.int p1), .val (.int p2), .val (.int p3), .val (.int p4), .val (.int x5_7), .val (.int x6_15), .val (.int x7_23), .val (.int x8_34), .val (.int x9_43), .val (.int x10_54), .val (.int x11_63), .unset, .unset, .unset, .unset, .unset, .unset, .unset] [(.int (2 : Int32)), (.int x11_63), (.int (p4 &&& (2147483647 : Int32)))])
  refine own_go (fun _ => XS.iadd X3.here hx rfl (hb hby at_73) rfl) ?_
  show own_G p e below Φ T3 (mkF m 74 #[.val (.int p0), .val (.int p1), .val (.int p2), .val (.int p3), .val (.int p4), .val (.int x5_7), .val (.int x6_15), .val (.int x7_23), .val (.int x8_34), .val (.int x9_43), .val (.int x10_54), .val (.int x11_63), .unset, .unset, .unset, .unset, .unset, .unset, .unset] [(.int (x11_63 + (2 : Int32))), (.int (p4 &&& (2147483647 : Int32)))])
  refine own_go (fun _ => iremM X3 hx rfl (hb hby at_74) rfl (own_nz3 hx6_15 hx7_23 hx8_34 hx9_43 hx10_54 hx11_63)) ?_
  show own_G p e below Φ T3 (mkF m 75 #[.val (.int p0), .val (.int p1), .val (.int p2), .val (.int p3), .val (.int p4), .val (.int x5_7), .val (.int x6_15), .val (.int x7_23), .val (.int x8_34), .val (.int x9_43), .val (.int x10_54), .val (.int x11_63), .unset, .unset, .unset, .unset, .unset, .unset, .unset] [(.int ((p4 &&& (2147483647 : Int32)) % (x11_63 + (2 : Int32))))])
  refine own_go (fun _ => XS.istore X3.here hx rfl (hb hby at_75) rfl (l' := #[.val (.int p0), .val (.int p1), .val (.int p2), .val (.int p3), .val (.int p4), .val (.int x5_7), .val (.int x6_15), .val (.int x7_23), .val (.int x8_34), .val (.int x9_43), .val (.int x10_54), .val (.int x11_63), .val (.int ((p4 &&& (2147483647 : Int32)) % (x11_63 + (2 : Int32)))), .unset, .unset, .unset, .unset, .unset, .unset]) rfl) ?_
  show own_G p e below Φ T3 (mkF m 77 #[.val (.int p0), .val (.int p1), .val (.int p2), .val (.int p3), .val (.int p4), .val (.int x5_7), .val (.int x6_15), .val (.int x7_23), .val (.int x8_34), .val (.int x9_43), .val (.int x10_54), .val (.int x11_63), .val (.int ((p4 &&& (2147483647 : Int32)) % (x11_63 + (2 : Int32)))), .unset, .unset, .unset, .unset, .unset, .unset] [])
  generalize hx12_75 : ((p4 &&& (2147483647 : Int32)) % (x11_63 + (2 : Int32))) = x12_75
  show own_G p e below Φ T3 (mkF m 77 #[.val (.int p0), .val (.int p1), .val (.int p2), .val (.int p3), .val (.int p4), .val (.int x5_7), .val (.int x6_15), .val (.int x7_23), .val (.int x8_34), .val (.int x9_43), .val (.int x10_54), .val (.int x11_63), .val (.int x12_75), .unset, .unset, .unset, .unset, .unset, .unset] [])
  refine own_go (fun _ => XS.iload X3.here hx rfl (hb hby at_77) rfl) ?_
  show own_G p e below Φ T3 (mkF m 79 #[.val (.int p0), .val (.int p1), .val (.int p2), .val (.int p3), .val (.int p4), .val (.int x5_7), .val (.int x6_15), .val (.int x7_23), .val (.int x8_34), .val (.int x9_43), .val (.int x10_54), .val (.int x11_63), .val (.int x12_75), .unset, .unset, .unset, .unset, .unset, .unset] [(.int x11_63)])
  refine own_go (fun _ => XS.iload X3.here hx rfl (hb hby at_79) rfl) ?_
  show own_G p e below Φ T3 (mkF m 81 #[.val (.int p0), .val (.int p1), .val (.int p2), .val (.int p3), .val (.int p4), .val (.int x5_7), .val (.int x6_15), .val (.int x7_23), .val (.int x8_34), .val (.int x9_43), .val (.int x10_54), .val (.int x11_63), .val (.int x12_75), .unset, .unset, .unset, .unset, .unset, .unset] [(.int x12_75), (.int x11_63)])
  obtain ⟨_, _, ⟨T4, zL4, zk4, zn4⟩, -, X4, ⟨Lc4, hQ4, l4, y4, z4⟩, st4⟩ := Jvm.LawKit.callS X3 hx (y := (⟨"java/lang/Math", "max", "(II)I"⟩ : MethodName)) hown (mvT hZ (wd_1 hw)) (mvT hZ (wd_2 hw)) (mvT hZ (wd_3 hw)) (mvT hZ (wd_4 hw)) (by decide) (backOf (W := 0) (rmM l Z a0 hw [] x11_63 x12_75 h0 n0 Z0 ) hZ (wd_4 hw) (wd_3 hw) (by decide) (by decide)) (g := (mkF m 81 #[.val (.int p0), .val (.int p1), .val (.int p2), .val (.int p3), .val (.int p4), .val (.int x5_7), .val (.int x6_15), .val (.int x7_23), .val (.int x8_34), .val (.int x9_43), .val (.int x10_54), .val (.int x11_63), .val (.int x12_75), .unset, .unset, .unset, .unset, .unset, .unset] [(.int x12_75), (.int x11_63)])) rfl (by rw [hml]; rfl) (argsL := [(.int x11_63), (.int x12_75)]) (rest := []) (lenOf pd_0 rfl) rfl (by show 2 * 0 + _ ≤ _; exact Nat.le_of_eq rfl) (hb hby at_81) (fun _ _ => ⟨rfl, hs3, (by decide : 0 + 0 ≤ _), (by decide : 0 + 0 ≤ _)⟩)
  dsimp only [Pt.U, Pt.locs, Pt.cells, Pt.slots] at X4 l4 y4 z4 st4 hQ4
  subst l4 y4 z4
  obtain ⟨rfl, N4q, hs4⟩ := hQ4
  have N4 := Fr.app N3 N4q
  refine own_go st4 ?_
  show own_G p e below Φ T4 (mkF m 84 #[.val (.int p0), .val (.int p1), .val (.int p2), .val (.int p3), .val (.int p4), .val (.int x5_7), .val (.int x6_15), .val (.int x7_23), .val (.int x8_34), .val (.int x9_43), .val (.int x10_54), .val (.int x11_63), .val (.int x12_75), .unset, .unset, .unset, .unset, .unset, .unset] [(.int (own_max x11_63 x12_75))])
  refine own_go (fun _ => XS.istore X4.here hx rfl (hb hby at_84) rfl (l' := #[.val (.int p0), .val (.int p1), .val (.int p2), .val (.int p3), .val (.int p4), .val (.int x5_7), .val (.int x6_15), .val (.int x7_23), .val (.int x8_34), .val (.int x9_43), .val (.int x10_54), .val (.int x11_63), .val (.int x12_75), .val (.int (own_max x11_63 x12_75)), .unset, .unset, .unset, .unset, .unset]) rfl) ?_
  show own_G p e below Φ T4 (mkF m 86 #[.val (.int p0), .val (.int p1), .val (.int p2), .val (.int p3), .val (.int p4), .val (.int x5_7), .val (.int x6_15), .val (.int x7_23), .val (.int x8_34), .val (.int x9_43), .val (.int x10_54), .val (.int x11_63), .val (.int x12_75), .val (.int (own_max x11_63 x12_75)), .unset, .unset, .unset, .unset, .unset] [])
  generalize hx13_84 : (own_max x11_63 x12_75) = x13_84
  show own_G p e below Φ T4 (mkF m 86 #[.val (.int p0), .val (.int p1), .val (.int p2), .val (.int p3), .val (.int p4), .val (.int x5_7), .val (.int x6_15), .val (.int x7_23), .val (.int x8_34), .val (.int x9_43), .val (.int x10_54), .val (.int x11_63), .val (.int x12_75), .val (.int x13_84), .unset, .unset, .unset, .unset, .unset] [])
  refine own_go (fun _ => XS.iconst X4.here hx rfl (hb hby at_86)) ?_
  show own_G p e below Φ T4 (mkF m 87 #[.val (.int p0), .val (.int p1), .val (.int p2), .val (.int p3), .val (.int p4), .val (.int x5_7), .val (.int x6_15), .val (.int x7_23), .val (.int x8_34), .val (.int x9_43), .val (.int x10_54), .val (.int x11_63), .val (.int x12_75), .val (.int x13_84), .unset, .unset, .unset, .unset, .unset] [(.int (5 : Int32))])
  obtain ⟨T5, h5, ka5, X5, e5, E5, A5, st5⟩ := newP (aty := .int) X4 hx hZ (wd_5 hw) hs4 (g := (mkF m 87 #[.val (.int p0), .val (.int p1), .val (.int p2), .val (.int p3), .val (.int p4), .val (.int x5_7), .val (.int x6_15), .val (.int x7_23), .val (.int x8_34), .val (.int x9_43), .val (.int x10_54), .val (.int x11_63), .val (.int x12_75), .val (.int x13_84), .unset, .unset, .unset, .unset, .unset] [(.int (5 : Int32))])) rfl (hb hby at_87) rfl (by decide) (cap := 5) (by decide) (by decide) (by decide) (by decide)
  obtain ⟨ob5, g5⟩ : ∃ z, z = h0.size := ⟨_, rfl⟩
  rw [← g5] at A5 st5
  have V5 : Arv Z h5 ob5 ka5 .int (5 : Int32) [(.int (0 : Int32)), (.int (0 : Int32)), (.int (0 : Int32)), (.int (0 : Int32)), (.int (0 : Int32))] (.int (0 : Int32)) := (Arv.new A5 (by decide)).pad (pad_rep [] (.int (0 : Int32)) 5)
  have g_ob5 : n0 ≤ ob5 := Nat.le_trans Z0 (Nat.le_of_eq g5.symm)
  have Zp5 : n0 ≤ h5.size := Nat.le_trans Z0 E5.1
  refine own_go st5 ?_
  show own_G p e below Φ T5 (mkF m 89 #[.val (.int p0), .val (.int p1), .val (.int p2), .val (.int p3), .val (.int p4), .val (.int x5_7), .val (.int x6_15), .val (.int x7_23), .val (.int x8_34), .val (.int x9_43), .val (.int x10_54), .val (.int x11_63), .val (.int x12_75), .val (.int x13_84), .unset, .unset, .unset, .unset, .unset] [(.ref ob5)])
  refine own_go (fun _ => XS.astore X5.here hx rfl (hb hby at_89) rfl rfl (l' := #[.val (.int p0), .val (.int p1), .val (.int p2), .val (.int p3), .val (.int p4), .val (.int x5_7), .val (.int x6_15), .val (.int x7_23), .val (.int x8_34), .val (.int x9_43), .val (.int x10_54), .val (.int x11_63), .val (.int x12_75), .val (.int x13_84), .val (.ref ob5), .unset, .unset, .unset, .unset]) rfl) ?_
  show own_G p e below Φ T5 (mkF m 91 #[.val (.int p0), .val (.int p1), .val (.int p2), .val (.int p3), .val (.int p4), .val (.int x5_7), .val (.int x6_15), .val (.int x7_23), .val (.int x8_34), .val (.int x9_43), .val (.int x10_54), .val (.int x11_63), .val (.int x12_75), .val (.int x13_84), .val (.ref ob5), .unset, .unset, .unset, .unset] [])
  refine own_go (fun _ => XS.aload X5.here hx rfl (hb hby at_91) rfl rfl) ?_
  show own_G p e below Φ T5 (mkF m 93 #[.val (.int p0), .val (.int p1), .val (.int p2), .val (.int p3), .val (.int p4), .val (.int x5_7), .val (.int x6_15), .val (.int x7_23), .val (.int x8_34), .val (.int x9_43), .val (.int x10_54), .val (.int x11_63), .val (.int x12_75), .val (.int x13_84), .val (.ref ob5), .unset, .unset, .unset, .unset] [(.ref ob5)])
  refine own_go (fun _ => XS.iconst X5.here hx rfl (hb hby at_93)) ?_
  show own_G p e below Φ T5 (mkF m 94 #[.val (.int p0), .val (.int p1), .val (.int p2), .val (.int p3), .val (.int p4), .val (.int x5_7), .val (.int x6_15), .val (.int x7_23), .val (.int x8_34), .val (.int x9_43), .val (.int x10_54), .val (.int x11_63), .val (.int x12_75), .val (.int x13_84), .val (.ref ob5), .unset, .unset, .unset, .unset] [(.int (0 : Int32)), (.ref ob5)])
  refine own_go (fun _ => XS.iconst X5.here hx rfl (hb hby at_94)) ?_
  show own_G p e below Φ T5 (mkF m 95 #[.val (.int p0), .val (.int p1), .val (.int p2), .val (.int p3), .val (.int p4), .val (.int x5_7), .val (.int x6_15), .val (.int x7_23), .val (.int x8_34), .val (.int x9_43), .val (.int x10_54), .val (.int x11_63), .val (.int x12_75), .val (.int x13_84), .val (.ref ob5), .unset, .unset, .unset, .unset] [(.int (0 : Int32)), (.int (0 : Int32)), (.ref ob5)])
  obtain ⟨cl6, Ar6, q6, S6, M6, H6, G6⟩ := id V5
  have hin6 : ¬ ((0 : Int32) < 0 ∨ cl6.slots.size ≤ ((0 : Int32)).toNatClampNeg) := inb_of S6 ⟨by decide, by decide⟩
  obtain ⟨T6, h6, X6, e6, W6, st6⟩ := stI X5 hx hZ e5 Ar6 (j := (0 : Int32)) hin6 (g := (mkF m 95 #[.val (.int p0), .val (.int p1), .val (.int p2), .val (.int p3), .val (.int p4), .val (.int x5_7), .val (.int x6_15), .val (.int x7_23), .val (.int x8_34), .val (.int x9_43), .val (.int x10_54), .val (.int x11_63), .val (.int x12_75), .val (.int x13_84), .val (.ref ob5), .unset, .unset, .unset, .unset] [(.int (0 : Int32)), (.int (0 : Int32)), (.ref ob5)])) rfl rfl (hb hby at_95)
  refine own_go st6 ?_
  have V6 : Arv Z h6 ob5 ka5 .int (5 : Int32) [(.int (0 : Int32)), (.int (0 : Int32)), (.int (0 : Int32)), (.int (0 : Int32)), (.int (0 : Int32))] (.int (0 : Int32)) := Arv.set Ar6 q6 S6 M6 H6 G6 rfl W6 0 rfl (Nat.le_of_ble_eq_true rfl)
  have N6 := Fr.snoc X6 N4 g_ob5
  have Zp6 : n0 ≤ h6.size := Nat.le_trans Zp5 (Keep.of_wr W6).1
  show own_G p e below Φ T6 (mkF m 96 #[.val (.int p0), .val (.int p1), .val (.int p2), .val (.int p3), .val (.int p4), .val (.int x5_7), .val (.int x6_15), .val (.int x7_23), .val (.int x8_34), .val (.int x9_43), .val (.int x10_54), .val (.int x11_63), .val (.int x12_75), .val (.int x13_84), .val (.ref ob5), .unset, .unset, .unset, .unset] [])
  refine own_go (fun _ => XS.aload X6.here hx rfl (hb hby at_96) rfl rfl) ?_
  show own_G p e below Φ T6 (mkF m 98 #[.val (.int p0), .val (.int p1), .val (.int p2), .val (.int p3), .val (.int p4), .val (.int x5_7), .val (.int x6_15), .val (.int x7_23), .val (.int x8_34), .val (.int x9_43), .val (.int x10_54), .val (.int x11_63), .val (.int x12_75), .val (.int x13_84), .val (.ref ob5), .unset, .unset, .unset, .unset] [(.ref ob5)])
  refine own_go (fun _ => XS.iconst X6.here hx rfl (hb hby at_98)) ?_
  show own_G p e below Φ T6 (mkF m 99 #[.val (.int p0), .val (.int p1), .val (.int p2), .val (.int p3), .val (.int p4), .val (.int x5_7), .val (.int x6_15), .val (.int x7_23), .val (.int x8_34), .val (.int x9_43), .val (.int x10_54), .val (.int x11_63), .val (.int x12_75), .val (.int x13_84), .val (.ref ob5), .unset, .unset, .unset, .unset] [(.int (1 : Int32)), (.ref ob5)])
  refine own_go (fun _ => XS.iload X6.here hx rfl (hb hby at_99) rfl) ?_
  show own_G p e below Φ T6 (mkF m 101 #[.val (.int p0), .val (.int p1), .val (.int p2), .val (.int p3), .val (.int p4), .val (.int x5_7), .val (.int x6_15), .val (.int x7_23), .val (.int x8_34), .val (.int x9_43), .val (.int x10_54), .val (.int x11_63), .val (.int x12_75), .val (.int x13_84), .val (.ref ob5), .unset, .unset, .unset, .unset] [(.int x6_15), (.int (1 : Int32)), (.ref ob5)])
  obtain ⟨cl7, Ar7, q7, S7, M7, H7, G7⟩ := id V6
  have hin7 : ¬ ((1 : Int32) < 0 ∨ cl7.slots.size ≤ ((1 : Int32)).toNatClampNeg) := inb_of S7 ⟨by decide, by decide⟩
  obtain ⟨T7, h7, X7, e7, W7, st7⟩ := stI X6 hx hZ e6 Ar7 (j := (1 : Int32)) hin7 (g := (mkF m 101 #[.val (.int p0), .val (.int p1), .val (.int p2), .val (.int p3), .val (.int p4), .val (.int x5_7), .val (.int x6_15), .val (.int x7_23), .val (.int x8_34), .val (.int x9_43), .val (.int x10_54), .val (.int x11_63), .val (.int x12_75), .val (.int x13_84), .val (.ref ob5), .unset, .unset, .unset, .unset] [(.int x6_15), (.int (1 : Int32)), (.ref ob5)])) rfl rfl (hb hby at_101)
  refine own_go st7 ?_
  have V7 : Arv Z h7 ob5 ka5 .int (5 : Int32) [(.int (0 : Int32)), (.int x6_15), (.int (0 : Int32)), (.int (0 : Int32)), (.int (0 : Int32))] (.int (0 : Int32)) := Arv.set Ar7 q7 S7 M7 H7 G7 rfl W7 1 rfl (Nat.le_of_ble_eq_true rfl)
  have N7 := Fr.snoc X7 N6 g_ob5
  have Zp7 : n0 ≤ h7.size := Nat.le_trans Zp6 (Keep.of_wr W7).1
  show own_G p e below Φ T7 (mkF m 102 #[.val (.int p0), .val (.int p1), .val (.int p2), .val (.int p3), .val (.int p4), .val (.int x5_7), .val (.int x6_15), .val (.int x7_23), .val (.int x8_34), .val (.int x9_43), .val (.int x10_54), .val (.int x11_63), .val (.int x12_75), .val (.int x13_84), .val (.ref ob5), .unset, .unset, .unset, .unset] [])
  refine own_go (fun _ => XS.aload X7.here hx rfl (hb hby at_102) rfl rfl) ?_
  show own_G p e below Φ T7 (mkF m 104 #[.val (.int p0), .val (.int p1), .val (.int p2), .val (.int p3), .val (.int p4), .val (.int x5_7), .val (.int x6_15), .val (.int x7_23), .val (.int x8_34), .val (.int x9_43), .val (.int x10_54), .val (.int x11_63), .val (.int x12_75), .val (.int x13_84), .val (.ref ob5), .unset, .unset, .unset, .unset] [(.ref ob5)])
  refine own_go (fun _ => XS.iconst X7.here hx rfl (hb hby at_104)) ?_
  show own_G p e below Φ T7 (mkF m 105 #[.val (.int p0), .val (.int p1), .val (.int p2), .val (.int p3), .val (.int p4), .val (.int x5_7), .val (.int x6_15), .val (.int x7_23), .val (.int x8_34), .val (.int x9_43), .val (.int x10_54), .val (.int x11_63), .val (.int x12_75), .val (.int x13_84), .val (.ref ob5), .unset, .unset, .unset, .unset] [(.int (2 : Int32)), (.ref ob5)])
  refine own_go (fun _ => XS.iload X7.here hx rfl (hb hby at_105) rfl) ?_
  show own_G p e below Φ T7 (mkF m 107 #[.val (.int p0), .val (.int p1), .val (.int p2), .val (.int p3), .val (.int p4), .val (.int x5_7), .val (.int x6_15), .val (.int x7_23), .val (.int x8_34), .val (.int x9_43), .val (.int x10_54), .val (.int x11_63), .val (.int x12_75), .val (.int x13_84), .val (.ref ob5), .unset, .unset, .unset, .unset] [(.int x8_34), (.int (2 : Int32)), (.ref ob5)])
  obtain ⟨cl8, Ar8, q8, S8, M8, H8, G8⟩ := id V7
  have hin8 : ¬ ((2 : Int32) < 0 ∨ cl8.slots.size ≤ ((2 : Int32)).toNatClampNeg) := inb_of S8 ⟨by decide, by decide⟩
  obtain ⟨T8, h8, X8, e8, W8, st8⟩ := stI X7 hx hZ e7 Ar8 (j := (2 : Int32)) hin8 (g := (mkF m 107 #[.val (.int p0), .val (.int p1), .val (.int p2), .val (.int p3), .val (.int p4), .val (.int x5_7), .val (.int x6_15), .val (.int x7_23), .val (.int x8_34), .val (.int x9_43), .val (.int x10_54), .val (.int x11_63), .val (.int x12_75), .val (.int x13_84), .val (.ref ob5), .unset, .unset, .unset, .unset] [(.int x8_34), (.int (2 : Int32)), (.ref ob5)])) rfl rfl (hb hby at_107)
  refine own_go st8 ?_
  have V8 : Arv Z h8 ob5 ka5 .int (5 : Int32) [(.int (0 : Int32)), (.int x6_15), (.int x8_34), (.int (0 : Int32)), (.int (0 : Int32))] (.int (0 : Int32)) := Arv.set Ar8 q8 S8 M8 H8 G8 rfl W8 2 rfl (Nat.le_of_ble_eq_true rfl)
  have N8 := Fr.snoc X8 N7 g_ob5
  have Zp8 : n0 ≤ h8.size := Nat.le_trans Zp7 (Keep.of_wr W8).1
  show own_G p e below Φ T8 (mkF m 108 #[.val (.int p0), .val (.int p1), .val (.int p2), .val (.int p3), .val (.int p4), .val (.int x5_7), .val (.int x6_15), .val (.int x7_23), .val (.int x8_34), .val (.int x9_43), .val (.int x10_54), .val (.int x11_63), .val (.int x12_75), .val (.int x13_84), .val (.ref ob5), .unset, .unset, .unset, .unset] [])
  refine own_go (fun _ => XS.aload X8.here hx rfl (hb hby at_108) rfl rfl) ?_
  show own_G p e below Φ T8 (mkF m 110 #[.val (.int p0), .val (.int p1), .val (.int p2), .val (.int p3), .val (.int p4), .val (.int x5_7), .val (.int x6_15), .val (.int x7_23), .val (.int x8_34), .val (.int x9_43), .val (.int x10_54), .val (.int x11_63), .val (.int x12_75), .val (.int x13_84), .val (.ref ob5), .unset, .unset, .unset, .unset] [(.ref ob5)])
  refine own_go (fun _ => XS.iconst X8.here hx rfl (hb hby at_110)) ?_
  show own_G p e below Φ T8 (mkF m 111 #[.val (.int p0), .val (.int p1), .val (.int p2), .val (.int p3), .val (.int p4), .val (.int x5_7), .val (.int x6_15), .val (.int x7_23), .val (.int x8_34), .val (.int x9_43), .val (.int x10_54), .val (.int x11_63), .val (.int x12_75), .val (.int x13_84), .val (.ref ob5), .unset, .unset, .unset, .unset] [(.int (3 : Int32)), (.ref ob5)])
  refine own_go (fun _ => XS.iload X8.here hx rfl (hb hby at_111) rfl) ?_
  show own_G p e below Φ T8 (mkF m 113 #[.val (.int p0), .val (.int p1), .val (.int p2), .val (.int p3), .val (.int p4), .val (.int x5_7), .val (.int x6_15), .val (.int x7_23), .val (.int x8_34), .val (.int x9_43), .val (.int x10_54), .val (.int x11_63), .val (.int x12_75), .val (.int x13_84), .val (.ref ob5), .unset, .unset, .unset, .unset] [(.int x10_54), (.int (3 : Int32)), (.ref ob5)])
  obtain ⟨cl9, Ar9, q9, S9, M9, H9, G9⟩ := id V8
  have hin9 : ¬ ((3 : Int32) < 0 ∨ cl9.slots.size ≤ ((3 : Int32)).toNatClampNeg) := inb_of S9 ⟨by decide, by decide⟩
  obtain ⟨T9, h9, X9, e9, W9, st9⟩ := stI X8 hx hZ e8 Ar9 (j := (3 : Int32)) hin9 (g := (mkF m 113 #[.val (.int p0), .val (.int p1), .val (.int p2), .val (.int p3), .val (.int p4), .val (.int x5_7), .val (.int x6_15), .val (.int x7_23), .val (.int x8_34), .val (.int x9_43), .val (.int x10_54), .val (.int x11_63), .val (.int x12_75), .val (.int x13_84), .val (.ref ob5), .unset, .unset, .unset, .unset] [(.int x10_54), (.int (3 : Int32)), (.ref ob5)])) rfl rfl (hb hby at_113)
  refine own_go st9 ?_
  have V9 : Arv Z h9 ob5 ka5 .int (5 : Int32) [(.int (0 : Int32)), (.int x6_15), (.int x8_34), (.int x10_54), (.int (0 : Int32))] (.int (0 : Int32)) := Arv.set Ar9 q9 S9 M9 H9 G9 rfl W9 3 rfl (Nat.le_of_ble_eq_true rfl)
  have N9 := Fr.snoc X9 N8 g_ob5
  have Zp9 : n0 ≤ h9.size := Nat.le_trans Zp8 (Keep.of_wr W9).1
  show own_G p e below Φ T9 (mkF m 114 #[.val (.int p0), .val (.int p1), .val (.int p2), .val (.int p3), .val (.int p4), .val (.int x5_7), .val (.int x6_15), .val (.int x7_23), .val (.int x8_34), .val (.int x9_43), .val (.int x10_54), .val (.int x11_63), .val (.int x12_75), .val (.int x13_84), .val (.ref ob5), .unset, .unset, .unset, .unset] [])
  refine own_go (fun _ => XS.aload X9.here hx rfl (hb hby at_114) rfl rfl) ?_
  show own_G p e below Φ T9 (mkF m 116 #[.val (.int p0), .val (.int p1), .val (.int p2), .val (.int p3), .val (.int p4), .val (.int x5_7), .val (.int x6_15), .val (.int x7_23), .val (.int x8_34), .val (.int x9_43), .val (.int x10_54), .val (.int x11_63), .val (.int x12_75), .val (.int x13_84), .val (.ref ob5), .unset, .unset, .unset, .unset] [(.ref ob5)])
  refine own_go (fun _ => XS.iconst X9.here hx rfl (hb hby at_116)) ?_
  show own_G p e below Φ T9 (mkF m 117 #[.val (.int p0), .val (.int p1), .val (.int p2), .val (.int p3), .val (.int p4), .val (.int x5_7), .val (.int x6_15), .val (.int x7_23), .val (.int x8_34), .val (.int x9_43), .val (.int x10_54), .val (.int x11_63), .val (.int x12_75), .val (.int x13_84), .val (.ref ob5), .unset, .unset, .unset, .unset] [(.int (4 : Int32)), (.ref ob5)])
  refine own_go (fun _ => XS.iload X9.here hx rfl (hb hby at_117) rfl) ?_
  show own_G p e below Φ T9 (mkF m 119 #[.val (.int p0), .val (.int p1), .val (.int p2), .val (.int p3), .val (.int p4), .val (.int x5_7), .val (.int x6_15), .val (.int x7_23), .val (.int x8_34), .val (.int x9_43), .val (.int x10_54), .val (.int x11_63), .val (.int x12_75), .val (.int x13_84), .val (.ref ob5), .unset, .unset, .unset, .unset] [(.int x12_75), (.int (4 : Int32)), (.ref ob5)])
  obtain ⟨cl10, Ar10, q10, S10, M10, H10, G10⟩ := id V9
  have hin10 : ¬ ((4 : Int32) < 0 ∨ cl10.slots.size ≤ ((4 : Int32)).toNatClampNeg) := inb_of S10 ⟨by decide, by decide⟩
  obtain ⟨T10, h10, X10, e10, W10, st10⟩ := stI X9 hx hZ e9 Ar10 (j := (4 : Int32)) hin10 (g := (mkF m 119 #[.val (.int p0), .val (.int p1), .val (.int p2), .val (.int p3), .val (.int p4), .val (.int x5_7), .val (.int x6_15), .val (.int x7_23), .val (.int x8_34), .val (.int x9_43), .val (.int x10_54), .val (.int x11_63), .val (.int x12_75), .val (.int x13_84), .val (.ref ob5), .unset, .unset, .unset, .unset] [(.int x12_75), (.int (4 : Int32)), (.ref ob5)])) rfl rfl (hb hby at_119)
  refine own_go st10 ?_
  have V10 : Arv Z h10 ob5 ka5 .int (5 : Int32) [(.int (0 : Int32)), (.int x6_15), (.int x8_34), (.int x10_54), (.int x12_75)] (.int (0 : Int32)) := Arv.set Ar10 q10 S10 M10 H10 G10 rfl W10 4 rfl (Nat.le_of_ble_eq_true rfl)
  have N10 := Fr.snoc X10 N9 g_ob5
  have Zp10 : n0 ≤ h10.size := Nat.le_trans Zp9 (Keep.of_wr W10).1
  have hall := own_all hx6_15 hx7_23 hx8_34 hx9_43 hx10_54 hx11_63 hx12_75 hx13_84
  show own_G p e below Φ T10 (mkF m 120 #[.val (.int p0), .val (.int p1), .val (.int p2), .val (.int p3), .val (.int p4), .val (.int x5_7), .val (.int x6_15), .val (.int x7_23), .val (.int x8_34), .val (.int x9_43), .val (.int x10_54), .val (.int x11_63), .val (.int x12_75), .val (.int x13_84), .val (.ref ob5), .unset, .unset, .unset, .unset] [])
  rcases own_r6 hx5_7 with rfl | rfl | rfl | rfl | rfl | rfl
  · show own_G p e below Φ T10 (mkF m 120 #[.val (.int p0), .val (.int p1), .val (.int p2), .val (.int p3), .val (.int p4), .val (.int (0 : Int32)), .val (.int x6_15), .val (.int x7_23), .val (.int x8_34), .val (.int x9_43), .val (.int x10_54), .val (.int x11_63), .val (.int x12_75), .val (.int x13_84), .val (.ref ob5), .unset, .unset, .unset, .unset] [])
    refine own_go (fun _ => XS.iload X10.here hx rfl (hb hby at_120) rfl) ?_
    show own_G p e below Φ T10 (mkF m 122 #[.val (.int p0), .val (.int p1), .val (.int p2), .val (.int p3), .val (.int p4), .val (.int (0 : Int32)), .val (.int x6_15), .val (.int x7_23), .val (.int x8_34), .val (.int x9_43), .val (.int x10_54), .val (.int x11_63), .val (.int x12_75), .val (.int x13_84), .val (.ref ob5), .unset, .unset, .unset, .unset] [(.int (0 : Int32))])
    obtain ⟨T11, h11, ka11, X11, e11, E11, A11, st11⟩ := newP (aty := .int) X10 hx hZ (wd_5 hw) e10 (g := (mkF m 122 #[.val (.int p0), .val (.int p1), .val (.int p2), .val (.int p3), .val (.int p4), .val (.int (0 : Int32)), .val (.int x6_15), .val (.int x7_23), .val (.int x8_34), .val (.int x9_43), .val (.int x10_54), .val (.int x11_63), .val (.int x12_75), .val (.int x13_84), .val (.ref ob5), .unset, .unset, .unset, .unset] [(.int (0 : Int32))])) rfl (hb hby at_122) rfl (by decide) (cap := 0) (by decide) (by decide) (by decide) (by decide)
    obtain ⟨ob11, g11⟩ : ∃ z, z = h10.size := ⟨_, rfl⟩
    rw [← g11] at A11 st11
    have ne_ob5_ob11 : ob5 ≠ ob11 := Nat.ne_of_lt (Nat.lt_of_lt_of_le V10.lt (Nat.le_of_eq g11.symm))
    have V11 : Arv Z h11 ob11 ka11 .int (0 : Int32) [] (.int (0 : Int32)) := (Arv.new A11 (by decide)).pad (pad_rep [] (.int (0 : Int32)) 0)
    have g_ob11 : n0 ≤ ob11 := Nat.le_trans Zp10 (Nat.le_of_eq g11.symm)
    have Zp11 : n0 ≤ h11.size := Nat.le_trans Zp10 E11.1
    refine own_go st11 ?_
    show own_G p e below Φ T11 (mkF m 124 #[.val (.int p0), .val (.int p1), .val (.int p2), .val (.int p3), .val (.int p4), .val (.int (0 : Int32)), .val (.int x6_15), .val (.int x7_23), .val (.int x8_34), .val (.int x9_43), .val (.int x10_54), .val (.int x11_63), .val (.int x12_75), .val (.int x13_84), .val (.ref ob5), .unset, .unset, .unset, .unset] [(.ref ob11)])
    refine own_go (fun _ => XS.astore X11.here hx rfl (hb hby at_124) rfl rfl (l' := #[.val (.int p0), .val (.int p1), .val (.int p2), .val (.int p3), .val (.int p4), .val (.int (0 : Int32)), .val (.int x6_15), .val (.int x7_23), .val (.int x8_34), .val (.int x9_43), .val (.int x10_54), .val (.int x11_63), .val (.int x12_75), .val (.int x13_84), .val (.ref ob5), .val (.ref ob11), .unset, .unset, .unset]) rfl) ?_
    show own_G p e below Φ T11 (mkF m 126 #[.val (.int p0), .val (.int p1), .val (.int p2), .val (.int p3), .val (.int p4), .val (.int (0 : Int32)), .val (.int x6_15), .val (.int x7_23), .val (.int x8_34), .val (.int x9_43), .val (.int x10_54), .val (.int x11_63), .val (.int x12_75), .val (.int x13_84), .val (.ref ob5), .val (.ref ob11), .unset, .unset, .unset] [])
    refine own_go (fun _ => XS.iload X11.here hx rfl (hb hby at_126) rfl) ?_
    show own_G p e below Φ T11 (mkF m 128 #[.val (.int p0), .val (.int p1), .val (.int p2), .val (.int p3), .val (.int p4), .val (.int (0 : Int32)), .val (.int x6_15), .val (.int x7_23), .val (.int x8_34), .val (.int x9_43), .val (.int x10_54), .val (.int x11_63), .val (.int x12_75), .val (.int x13_84), .val (.ref ob5), .val (.ref ob11), .unset, .unset, .unset] [(.int (0 : Int32))])
    refine own_go (fun _ => XS.ifYes X11.here hx rfl (pc0 := 128) (pc' := 136) rfl (hb hby at_128) rfl (Jvm.Free.XT.i0_le_t (by decide : ¬ ((0 : Int32) < (0 : Int32)))) (by decide) (by decide)) ?_
    show own_G p e below Φ T11 (mkF m 136 #[.val (.int p0), .val (.int p1), .val (.int p2), .val (.int p3), .val (.int p4), .val (.int (0 : Int32)), .val (.int x6_15), .val (.int x7_23), .val (.int x8_34), .val (.int x9_43), .val (.int x10_54), .val (.int x11_63), .val (.int x12_75), .val (.int x13_84), .val (.ref ob5), .val (.ref ob11), .unset, .unset, .unset] [])
    refine own_go (fun _ => XS.iload X11.here hx rfl (hb hby at_136) rfl) ?_
    show own_G p e below Φ T11 (mkF m 138 #[.val (.int p0), .val (.int p1), .val (.int p2), .val (.int p3), .val (.int p4), .val (.int (0 : Int32)), .val (.int x6_15), .val (.int x7_23), .val (.int x8_34), .val (.int x9_43), .val (.int x10_54), .val (.int x11_63), .val (.int x12_75), .val (.int x13_84), .val (.ref ob5), .val (.ref ob11), .unset, .unset, .unset] [(.int (0 : Int32))])
    refine own_go (fun _ => XS.iconst X11.here hx rfl (hb hby at_138)) ?_
    show own_G p e below Φ T11 (mkF m 139 #[.val (.int p0), .val (.int p1), .val (.int p2), .val (.int p3), .val (.int p4), .val (.int (0 : Int32)), .val (.int x6_15), .val (.int x7_23), .val (.int x8_34), .val (.int x9_43), .val (.int x10_54), .val (.int x11_63), .val (.int x12_75), .val (.int x13_84), .val (.ref ob5), .val (.ref ob11), .unset, .unset, .unset] [(.int (1 : Int32)), (.int (0 : Int32))])
    refine own_go (fun _ => XS.icmpYes X11.here hx rfl (pc0 := 139) (pc' := 148) rfl (hb hby at_139) rfl (Jvm.Free.XT.ii_le_t (by decide : ¬ ((1 : Int32) < (0 : Int32)))) (by decide) (by decide)) ?_
    show own_G p e below Φ T11 (mkF m 148 #[.val (.int p0), .val (.int p1), .val (.int p2), .val (.int p3), .val (.int p4), .val (.int (0 : Int32)), .val (.int x6_15), .val (.int x7_23), .val (.int x8_34), .val (.int x9_43), .val (.int x10_54), .val (.int x11_63), .val (.int x12_75), .val (.int x13_84), .val (.ref ob5), .val (.ref ob11), .unset, .unset, .unset] [])
    refine own_go (fun _ => XS.iload X11.here hx rfl (hb hby at_148) rfl) ?_
    show own_G p e below Φ T11 (mkF m 150 #[.val (.int p0), .val (.int p1), .val (.int p2), .val (.int p3), .val (.int p4), .val (.int (0 : Int32)), .val (.int x6_15), .val (.int x7_23), .val (.int x8_34), .val (.int x9_43), .val (.int x10_54), .val (.int x11_63), .val (.int x12_75), .val (.int x13_84), .val (.ref ob5), .val (.ref ob11), .unset, .unset, .unset] [(.int (0 : Int32))])
    refine own_go (fun _ => XS.iconst X11.here hx rfl (hb hby at_150)) ?_
    show own_G p e below Φ T11 (mkF m 151 #[.val (.int p0), .val (.int p1), .val (.int p2), .val (.int p3), .val (.int p4), .val (.int (0 : Int32)), .val (.int x6_15), .val (.int x7_23), .val (.int x8_34), .val (.int x9_43), .val (.int x10_54), .val (.int x11_63), .val (.int x12_75), .val (.int x13_84), .val (.ref ob5), .val (.ref ob11), .unset, .unset, .unset] [(.int (2 : Int32)), (.int (0 : Int32))])
    refine own_go (fun _ => XS.icmpYes X11.here hx rfl (pc0 := 151) (pc' := 160) rfl (hb hby at_151) rfl (Jvm.Free.XT.ii_le_t (by decide : ¬ ((2 : Int32) < (0 : Int32)))) (by decide) (by decide)) ?_
    show own_G p e below Φ T11 (mkF m 160 #[.val (.int p0), .val (.int p1), .val (.int p2), .val (.int p3), .val (.int p4), .val (.int (0 : Int32)), .val (.int x6_15), .val (.int x7_23), .val (.int x8_34), .val (.int x9_43), .val (.int x10_54), .val (.int x11_63), .val (.int x12_75), .val (.int x13_84), .val (.ref ob5), .val (.ref ob11), .unset, .unset, .unset] [])
    refine own_go (fun _ => XS.iload X11.here hx rfl (hb hby at_160) rfl) ?_
    show own_G p e below Φ T11 (mkF m 162 #[.val (.int p0), .val (.int p1), .val (.int p2), .val (.int p3), .val (.int p4), .val (.int (0 : Int32)), .val (.int x6_15), .val (.int x7_23), .val (.int x8_34), .val (.int x9_43), .val (.int x10_54), .val (.int x11_63), .val (.int x12_75), .val (.int x13_84), .val (.ref ob5), .val (.ref ob11), .unset, .unset, .unset] [(.int (0 : Int32))])
    refine own_go (fun _ => XS.iconst X11.here hx rfl (hb hby at_162)) ?_
    show own_G p e below Φ T11 (mkF m 163 #[.val (.int p0), .val (.int p1), .val (.int p2), .val (.int p3), .val (.int p4), .val (.int (0 : Int32)), .val (.int x6_15), .val (.int x7_23), .val (.int x8_34), .val (.int x9_43), .val (.int x10_54), .val (.int x11_63), .val (.int x12_75), .val (.int x13_84), .val (.ref ob5), .val (.ref ob11), .unset, .unset, .unset] [(.int (3 : Int32)), (.int (0 : Int32))])
    refine own_go (fun _ => XS.icmpYes X11.here hx rfl (pc0 := 163) (pc' := 172) rfl (hb hby at_163) rfl (Jvm.Free.XT.ii_le_t (by decide : ¬ ((3 : Int32) < (0 : Int32)))) (by decide) (by decide)) ?_
    show own_G p e below Φ T11 (mkF m 172 #[.val (.int p0), .val (.int p1), .val (.int p2), .val (.int p3), .val (.int p4), .val (.int (0 : Int32)), .val (.int x6_15), .val (.int x7_23), .val (.int x8_34), .val (.int x9_43), .val (.int x10_54), .val (.int x11_63), .val (.int x12_75), .val (.int x13_84), .val (.ref ob5), .val (.ref ob11), .unset, .unset, .unset] [])
    refine own_go (fun _ => XS.iload X11.here hx rfl (hb hby at_172) rfl) ?_
    show own_G p e below Φ T11 (mkF m 174 #[.val (.int p0), .val (.int p1), .val (.int p2), .val (.int p3), .val (.int p4), .val (.int (0 : Int32)), .val (.int x6_15), .val (.int x7_23), .val (.int x8_34), .val (.int x9_43), .val (.int x10_54), .val (.int x11_63), .val (.int x12_75), .val (.int x13_84), .val (.ref ob5), .val (.ref ob11), .unset, .unset, .unset] [(.int (0 : Int32))])
    refine own_go (fun _ => XS.iconst X11.here hx rfl (hb hby at_174)) ?_
    show own_G p e below Φ T11 (mkF m 175 #[.val (.int p0), .val (.int p1), .val (.int p2), .val (.int p3), .val (.int p4), .val (.int (0 : Int32)), .val (.int x6_15), .val (.int x7_23), .val (.int x8_34), .val (.int x9_43), .val (.int x10_54), .val (.int x11_63), .val (.int x12_75), .val (.int x13_84), .val (.ref ob5), .val (.ref ob11), .unset, .unset, .unset] [(.int (4 : Int32)), (.int (0 : Int32))])
    refine own_go (fun _ => XS.icmpYes X11.here hx rfl (pc0 := 175) (pc' := 184) rfl (hb hby at_175) rfl (Jvm.Free.XT.ii_le_t (by decide : ¬ ((4 : Int32) < (0 : Int32)))) (by decide) (by decide)) ?_
    show own_G p e below Φ T11 (mkF m 184 #[.val (.int p0), .val (.int p1), .val (.int p2), .val (.int p3), .val (.int p4), .val (.int (0 : Int32)), .val (.int x6_15), .val (.int x7_23), .val (.int x8_34), .val (.int x9_43), .val (.int x10_54), .val (.int x11_63), .val (.int x12_75), .val (.int x13_84), .val (.ref ob5), .val (.ref ob11), .unset, .unset, .unset] [])
    refine own_go (fun _ => XS.iconst X11.here hx rfl (hb hby at_184)) ?_
    show own_G p e below Φ T11 (mkF m 185 #[.val (.int p0), .val (.int p1), .val (.int p2), .val (.int p3), .val (.int p4), .val (.int (0 : Int32)), .val (.int x6_15), .val (.int x7_23), .val (.int x8_34), .val (.int x9_43), .val (.int x10_54), .val (.int x11_63), .val (.int x12_75), .val (.int x13_84), .val (.ref ob5), .val (.ref ob11), .unset, .unset, .unset] [(.int (0 : Int32))])
    refine own_go (fun _ => XS.istore X11.here hx rfl (hb hby at_185) rfl (l' := #[.val (.int p0), .val (.int p1), .val (.int p2), .val (.int p3), .val (.int p4), .val (.int (0 : Int32)), .val (.int x6_15), .val (.int x7_23), .val (.int x8_34), .val (.int x9_43), .val (.int x10_54), .val (.int x11_63), .val (.int x12_75), .val (.int x13_84), .val (.ref ob5), .val (.ref ob11), .val (.int (0 : Int32)), .unset, .unset]) rfl) ?_
    show own_G p e below Φ T11 (mkF m 187 #[.val (.int p0), .val (.int p1), .val (.int p2), .val (.int p3), .val (.int p4), .val (.int (0 : Int32)), .val (.int x6_15), .val (.int x7_23), .val (.int x8_34), .val (.int x9_43), .val (.int x10_54), .val (.int x11_63), .val (.int x12_75), .val (.int x13_84), .val (.ref ob5), .val (.ref ob11), .val (.int (0 : Int32)), .unset, .unset] [])
    refine own_go (fun _ => XS.iload X11.here hx rfl (hb hby at_187) rfl) ?_
    show own_G p e below Φ T11 (mkF m 189 #[.val (.int p0), .val (.int p1), .val (.int p2), .val (.int p3), .val (.int p4), .val (.int (0 : Int32)), .val (.int x6_15), .val (.int x7_23), .val (.int x8_34), .val (.int x9_43), .val (.int x10_54), .val (.int x11_63), .val (.int x12_75), .val (.int x13_84), .val (.ref ob5), .val (.ref ob11), .val (.int (0 : Int32)), .unset, .unset] [(.int (0 : Int32))])
    refine own_go (fun _ => XS.iconst X11.here hx rfl (hb hby at_189)) ?_
    show own_G p e below Φ T11 (mkF m 190 #[.val (.int p0), .val (.int p1), .val (.int p2), .val (.int p3), .val (.int p4), .val (.int (0 : Int32)), .val (.int x6_15), .val (.int x7_23), .val (.int x8_34), .val (.int x9_43), .val (.int x10_54), .val (.int x11_63), .val (.int x12_75), .val (.int x13_84), .val (.ref ob5), .val (.ref ob11), .val (.int (0 : Int32)), .unset, .unset] [(.int (1 : Int32)), (.int (0 : Int32))])
    refine own_go (fun _ => XS.icmpYes X11.here hx rfl (pc0 := 190) (pc' := 199) rfl (hb hby at_190) rfl (Jvm.Free.XT.ii_ne_t (by decide : ¬ ((0 : Int32) = (1 : Int32)))) (by decide) (by decide)) ?_
    show own_G p e below Φ T11 (mkF m 199 #[.val (.int p0), .val (.int p1), .val (.int p2), .val (.int p3), .val (.int p4), .val (.int (0 : Int32)), .val (.int x6_15), .val (.int x7_23), .val (.int x8_34), .val (.int x9_43), .val (.int x10_54), .val (.int x11_63), .val (.int x12_75), .val (.int x13_84), .val (.ref ob5), .val (.ref ob11), .val (.int (0 : Int32)), .unset, .unset] [])
    refine own_go (fun _ => XS.iload X11.here hx rfl (hb hby at_199) rfl) ?_
    show own_G p e below Φ T11 (mkF m 201 #[.val (.int p0), .val (.int p1), .val (.int p2), .val (.int p3), .val (.int p4), .val (.int (0 : Int32)), .val (.int x6_15), .val (.int x7_23), .val (.int x8_34), .val (.int x9_43), .val (.int x10_54), .val (.int x11_63), .val (.int x12_75), .val (.int x13_84), .val (.ref ob5), .val (.ref ob11), .val (.int (0 : Int32)), .unset, .unset] [(.int (0 : Int32))])
    refine own_go (fun _ => XS.iconst X11.here hx rfl (hb hby at_201)) ?_
    show own_G p e below Φ T11 (mkF m 202 #[.val (.int p0), .val (.int p1), .val (.int p2), .val (.int p3), .val (.int p4), .val (.int (0 : Int32)), .val (.int x6_15), .val (.int x7_23), .val (.int x8_34), .val (.int x9_43), .val (.int x10_54), .val (.int x11_63), .val (.int x12_75), .val (.int x13_84), .val (.ref ob5), .val (.ref ob11), .val (.int (0 : Int32)), .unset, .unset] [(.int (2 : Int32)), (.int (0 : Int32))])
    refine own_go (fun _ => XS.icmpYes X11.here hx rfl (pc0 := 202) (pc' := 214) rfl (hb hby at_202) rfl (Jvm.Free.XT.ii_ne_t (by decide : ¬ ((0 : Int32) = (2 : Int32)))) (by decide) (by decide)) ?_
    show own_G p e below Φ T11 (mkF m 214 #[.val (.int p0), .val (.int p1), .val (.int p2), .val (.int p3), .val (.int p4), .val (.int (0 : Int32)), .val (.int x6_15), .val (.int x7_23), .val (.int x8_34), .val (.int x9_43), .val (.int x10_54), .val (.int x11_63), .val (.int x12_75), .val (.int x13_84), .val (.ref ob5), .val (.ref ob11), .val (.int (0 : Int32)), .unset, .unset] [])
    refine own_go (fun _ => XS.iload X11.here hx rfl (hb hby at_214) rfl) ?_
    show own_G p e below Φ T11 (mkF m 216 #[.val (.int p0), .val (.int p1), .val (.int p2), .val (.int p3), .val (.int p4), .val (.int (0 : Int32)), .val (.int x6_15), .val (.int x7_23), .val (.int x8_34), .val (.int x9_43), .val (.int x10_54), .val (.int x11_63), .val (.int x12_75), .val (.int x13_84), .val (.ref ob5), .val (.ref ob11), .val (.int (0 : Int32)), .unset, .unset] [(.int (0 : Int32))])
    refine own_go (fun _ => XS.iconst X11.here hx rfl (hb hby at_216)) ?_
    show own_G p e below Φ T11 (mkF m 217 #[.val (.int p0), .val (.int p1), .val (.int p2), .val (.int p3), .val (.int p4), .val (.int (0 : Int32)), .val (.int x6_15), .val (.int x7_23), .val (.int x8_34), .val (.int x9_43), .val (.int x10_54), .val (.int x11_63), .val (.int x12_75), .val (.int x13_84), .val (.ref ob5), .val (.ref ob11), .val (.int (0 : Int32)), .unset, .unset] [(.int (3 : Int32)), (.int (0 : Int32))])
    refine own_go (fun _ => XS.icmpYes X11.here hx rfl (pc0 := 217) (pc' := 229) rfl (hb hby at_217) rfl (Jvm.Free.XT.ii_ne_t (by decide : ¬ ((0 : Int32) = (3 : Int32)))) (by decide) (by decide)) ?_
    show own_G p e below Φ T11 (mkF m 229 #[.val (.int p0), .val (.int p1), .val (.int p2), .val (.int p3), .val (.int p4), .val (.int (0 : Int32)), .val (.int x6_15), .val (.int x7_23), .val (.int x8_34), .val (.int x9_43), .val (.int x10_54), .val (.int x11_63), .val (.int x12_75), .val (.int x13_84), .val (.ref ob5), .val (.ref ob11), .val (.int (0 : Int32)), .unset, .unset] [])
    refine own_go (fun _ => XS.iload X11.here hx rfl (hb hby at_229) rfl) ?_
    show own_G p e below Φ T11 (mkF m 231 #[.val (.int p0), .val (.int p1), .val (.int p2), .val (.int p3), .val (.int p4), .val (.int (0 : Int32)), .val (.int x6_15), .val (.int x7_23), .val (.int x8_34), .val (.int x9_43), .val (.int x10_54), .val (.int x11_63), .val (.int x12_75), .val (.int x13_84), .val (.ref ob5), .val (.ref ob11), .val (.int (0 : Int32)), .unset, .unset] [(.int (0 : Int32))])
    refine own_go (fun _ => XS.iconst X11.here hx rfl (hb hby at_231)) ?_
    show own_G p e below Φ T11 (mkF m 232 #[.val (.int p0), .val (.int p1), .val (.int p2), .val (.int p3), .val (.int p4), .val (.int (0 : Int32)), .val (.int x6_15), .val (.int x7_23), .val (.int x8_34), .val (.int x9_43), .val (.int x10_54), .val (.int x11_63), .val (.int x12_75), .val (.int x13_84), .val (.ref ob5), .val (.ref ob11), .val (.int (0 : Int32)), .unset, .unset] [(.int (4 : Int32)), (.int (0 : Int32))])
    refine own_go (fun _ => XS.icmpYes X11.here hx rfl (pc0 := 232) (pc' := 244) rfl (hb hby at_232) rfl (Jvm.Free.XT.ii_ne_t (by decide : ¬ ((0 : Int32) = (4 : Int32)))) (by decide) (by decide)) ?_
    show own_G p e below Φ T11 (mkF m 244 #[.val (.int p0), .val (.int p1), .val (.int p2), .val (.int p3), .val (.int p4), .val (.int (0 : Int32)), .val (.int x6_15), .val (.int x7_23), .val (.int x8_34), .val (.int x9_43), .val (.int x10_54), .val (.int x11_63), .val (.int x12_75), .val (.int x13_84), .val (.ref ob5), .val (.ref ob11), .val (.int (0 : Int32)), .unset, .unset] [])
    refine own_go (fun _ => XS.iload X11.here hx rfl (hb hby at_244) rfl) ?_
    show own_G p e below Φ T11 (mkF m 246 #[.val (.int p0), .val (.int p1), .val (.int p2), .val (.int p3), .val (.int p4), .val (.int (0 : Int32)), .val (.int x6_15), .val (.int x7_23), .val (.int x8_34), .val (.int x9_43), .val (.int x10_54), .val (.int x11_63), .val (.int x12_75), .val (.int x13_84), .val (.ref ob5), .val (.ref ob11), .val (.int (0 : Int32)), .unset, .unset] [(.int (0 : Int32))])
    refine own_go (fun _ => XS.iconst X11.here hx rfl (hb hby at_246)) ?_
    show own_G p e below Φ T11 (mkF m 247 #[.val (.int p0), .val (.int p1), .val (.int p2), .val (.int p3), .val (.int p4), .val (.int (0 : Int32)), .val (.int x6_15), .val (.int x7_23), .val (.int x8_34), .val (.int x9_43), .val (.int x10_54), .val (.int x11_63), .val (.int x12_75), .val (.int x13_84), .val (.ref ob5), .val (.ref ob11), .val (.int (0 : Int32)), .unset, .unset] [(.int (5 : Int32)), (.int (0 : Int32))])
    refine own_go (fun _ => XS.icmpYes X11.here hx rfl (pc0 := 247) (pc' := 256) rfl (hb hby at_247) rfl (Jvm.Free.XT.ii_ne_t (by decide : ¬ ((0 : Int32) = (5 : Int32)))) (by decide) (by decide)) ?_
    show own_G p e below Φ T11 (mkF m 256 #[.val (.int p0), .val (.int p1), .val (.int p2), .val (.int p3), .val (.int p4), .val (.int (0 : Int32)), .val (.int x6_15), .val (.int x7_23), .val (.int x8_34), .val (.int x9_43), .val (.int x10_54), .val (.int x11_63), .val (.int x12_75), .val (.int x13_84), .val (.ref ob5), .val (.ref ob11), .val (.int (0 : Int32)), .unset, .unset] [])
    obtain ⟨T12, h12, X12, e12, E12, A12, D12, -, st12⟩ := newO X11 hx hZ hown (wd_6 hw) (wd_7 hw) (wd_8 hw) e11 (g := (mkF m 256 #[.val (.int p0), .val (.int p1), .val (.int p2), .val (.int p3), .val (.int p4), .val (.int (0 : Int32)), .val (.int x6_15), .val (.int x7_23), .val (.int x8_34), .val (.int x9_43), .val (.int x10_54), .val (.int x11_63), .val (.int x12_75), .val (.int x13_84), .val (.ref ob5), .val (.ref ob11), .val (.int (0 : Int32)), .unset, .unset] [])) rfl (hb hby at_256) (by decide) (by decide)
    obtain ⟨ob12, g12⟩ : ∃ z, z = h11.size := ⟨_, rfl⟩
    rw [← g12] at A12 D12 st12
    have f13 : Arv Z h11 ob5 ka5 .int (5 : Int32) [(.int (0 : Int32)), (.int x6_15), (.int x8_34), (.int x10_54), (.int x12_75)] (.int (0 : Int32)) := V10.ext E11
    have ne_ob5_ob12 : ob5 ≠ ob12 := Nat.ne_of_lt (Nat.lt_of_lt_of_le f13.lt (Nat.le_of_eq g12.symm))
    have ne_ob11_ob12 : ob11 ≠ ob12 := Nat.ne_of_lt (Nat.lt_of_lt_of_le V11.lt (Nat.le_of_eq g12.symm))
    have g_ob12 : n0 ≤ ob12 := Nat.le_trans Zp11 (Nat.le_of_eq g12.symm)
    have Zp12 : n0 ≤ h12.size := Nat.le_trans Zp11 E12.1
    refine own_go st12 ?_
    have F_m_aClasses_ob12 : Fld Z h12 ob12 "com/example/edgewarden/edgewarden/graph/Likeness" "m_aClasses" "[I" .null := D12 (Or.inr (wd_16 hw)) (ty := (.array .int)) (by decide)
    have F_m_nClassCount_ob12 : Fld Z h12 ob12 "com/example/edgewarden/edgewarden/graph/Likeness" "m_nClassCount" "I" (.int (0 : Int32)) := D12 (Or.inr (wd_18 hw)) (ty := .int) (by decide)
    show own_G p e below Φ T12 (mkF m 259 #[.val (.int p0), .val (.int p1), .val (.int p2), .val (.int p3), .val (.int p4), .val (.int (0 : Int32)), .val (.int x6_15), .val (.int x7_23), .val (.int x8_34), .val (.int x9_43), .val (.int x10_54), .val (.int x11_63), .val (.int x12_75), .val (.int x13_84), .val (.ref ob5), .val (.ref ob11), .val (.int (0 : Int32)), .unset, .unset] [(.ref ob12)])
    refine own_go (fun _ => XS.dup X12.here hx rfl (hb hby at_259) rfl rfl) ?_
    show own_G p e below Φ T12 (mkF m 260 #[.val (.int p0), .val (.int p1), .val (.int p2), .val (.int p3), .val (.int p4), .val (.int (0 : Int32)), .val (.int x6_15), .val (.int x7_23), .val (.int x8_34), .val (.int x9_43), .val (.int x10_54), .val (.int x11_63), .val (.int x12_75), .val (.int x13_84), .val (.ref ob5), .val (.ref ob11), .val (.int (0 : Int32)), .unset, .unset] [(.ref ob12), (.ref ob12)])
    refine own_go (fun _ => XS.aload X12.here hx rfl (hb hby at_260) rfl rfl) ?_
    show own_G p e below Φ T12 (mkF m 262 #[.val (.int p0), .val (.int p1), .val (.int p2), .val (.int p3), .val (.int p4), .val (.int (0 : Int32)), .val (.int x6_15), .val (.int x7_23), .val (.int x8_34), .val (.int x9_43), .val (.int x10_54), .val (.int x11_63), .val (.int x12_75), .val (.int x13_84), .val (.ref ob5), .val (.ref ob11), .val (.int (0 : Int32)), .unset, .unset] [(.ref ob11), (.ref ob12), (.ref ob12)])
    have f14 : Arv Z h12 ob11 ka11 .int (0 : Int32) [] (.int (0 : Int32)) := V11.ext E12
    obtain ⟨_, _, ⟨T15, zL15, zk15, zn15⟩, -, X15, ⟨Lc15, hQ15, l15, y15, z15⟩, st15⟩ := X12.specialBack hx (y := (⟨"com/example/edgewarden/edgewarden/graph/Likeness", "<init>", "([I)V"⟩ : MethodName)) rfl hown (mvT hZ (wd_9 hw)) (mvT hZ (wd_10 hw)) (mvT hZ (wd_11 hw)) (by decide) (backOf (W := 1) (rmI0 l Z a0 hw [] ob12 ob11 ka11 .null (.int (0 : Int32)) h12 n0 Zp12 A12 F_m_aClasses_ob12 F_m_nClassCount_ob12 g_ob12 f14 ne_ob11_ob12) hZ (wd_11 hw) (wd_8 hw) (by decide) (by decide)) (g := (mkF m 262 #[.val (.int p0), .val (.int p1), .val (.int p2), .val (.int p3), .val (.int p4), .val (.int (0 : Int32)), .val (.int x6_15), .val (.int x7_23), .val (.int x8_34), .val (.int x9_43), .val (.int x10_54), .val (.int x11_63), .val (.int x12_75), .val (.int x13_84), .val (.ref ob5), .val (.ref ob11), .val (.int (0 : Int32)), .unset, .unset] [(.ref ob11), (.ref ob12), (.ref ob12)])) rfl (by rw [hml]; rfl) (Steps.refl _) (a := ob12) (argsL := [(.ref ob11)]) (rest := [(.ref ob12)]) (lenOf pd_2 rfl) rfl (by show 2 * 0 + _ ≤ _; exact Nat.le_of_eq rfl) (hb hby at_262) (fun _ _ => ⟨rfl, e12, (by decide : 3 + 0 ≤ _), (by decide : 7 + 0 ≤ _)⟩)
    dsimp only [Pt.U, Pt.locs, Pt.cells, Pt.slots] at X15 l15 y15 z15 st15 hQ15
    subst l15 y15 z15
    obtain ⟨rfl, N15q, Kq15, p15_0, p15_1, p15_2⟩ := hQ15
    have N15 := Fr.app N10 N15q
    refine own_on st15 ?_
    have Zp15 : n0 ≤ T15.heap.size := Nat.le_trans Zp12 Kq15.1
    show own_G p e below Φ T15 (mkF m 265 #[.val (.int p0), .val (.int p1), .val (.int p2), .val (.int p3), .val (.int p4), .val (.int (0 : Int32)), .val (.int x6_15), .val (.int x7_23), .val (.int x8_34), .val (.int x9_43), .val (.int x10_54), .val (.int x11_63), .val (.int x12_75), .val (.int x13_84), .val (.ref ob5), .val (.ref ob11), .val (.int (0 : Int32)), .unset, .unset] [(.ref ob12)])
    refine own_go (fun _ => XS.astore X15.here hx rfl (hb hby at_265) rfl rfl (l' := #[.val (.int p0), .val (.int p1), .val (.int p2), .val (.int p3), .val (.int p4), .val (.int (0 : Int32)), .val (.int x6_15), .val (.int x7_23), .val (.int x8_34), .val (.int x9_43), .val (.int x10_54), .val (.int x11_63), .val (.int x12_75), .val (.int x13_84), .val (.ref ob5), .val (.ref ob11), .val (.int (0 : Int32)), .val (.ref ob12), .unset]) rfl) ?_
    show own_G p e below Φ T15 (mkF m 267 #[.val (.int p0), .val (.int p1), .val (.int p2), .val (.int p3), .val (.int p4), .val (.int (0 : Int32)), .val (.int x6_15), .val (.int x7_23), .val (.int x8_34), .val (.int x9_43), .val (.int x10_54), .val (.int x11_63), .val (.int x12_75), .val (.int x13_84), .val (.ref ob5), .val (.ref ob11), .val (.int (0 : Int32)), .val (.ref ob12), .unset] [])
    refine own_go (fun _ => XS.aload X15.here hx rfl (hb hby at_267) rfl rfl) ?_
    show own_G p e below Φ T15 (mkF m 269 #[.val (.int p0), .val (.int p1), .val (.int p2), .val (.int p3), .val (.int p4), .val (.int (0 : Int32)), .val (.int x6_15), .val (.int x7_23), .val (.int x8_34), .val (.int x9_43), .val (.int x10_54), .val (.int x11_63), .val (.int x12_75), .val (.int x13_84), .val (.ref ob5), .val (.ref ob11), .val (.int (0 : Int32)), .val (.ref ob12), .unset] [(.ref ob12)])
    have f16 : Arv Z T15.heap ob11 ka11 .int (0 : Int32) [] (.int (0 : Int32)) := f14.keep Kq15 (ninS ne_ob11_ob12 nin0)
    obtain ⟨cq17, kq17, q17a, q17b, q17c⟩ := isOf hZ rfl p15_0
    obtain ⟨_, _, ⟨T17, zL17, zk17, zn17⟩, -, X17, ⟨Lc17, hQ17, l17, y17, z17⟩, st17⟩ := X15.virtualBack hx (y := (⟨"com/example/edgewarden/edgewarden/graph/Likeness", "getFirstMembers", "()[I"⟩ : MethodName)) (z := (⟨"com/example/edgewarden/edgewarden/graph/Likeness", "getFirstMembers", "()[I"⟩ : MethodName)) hown (mvT hZ (wd_19 hw)) (mvT hZ (wd_20 hw)) (notFace_of_selects (args := #[]) (mvT hZ (wd_22 hw))) (mvT hZ (wd_22 hw)) (mvT hZ (wd_21 hw)) (by decide) (backOf (W := 0) (rmS0 l Z a0 hw [] ob12 ob11 ka11 (0 : Int32) T15.heap n0 Zp15 p15_2 p15_1 f16 (own_use (P := fun t => ¬ (0 : Int32) < 0) (by decide +kernel) hall) (own_use (P := fun t => ((0 : Int32)).toNatClampNeg ≤ 5) (by decide +kernel) hall)) hZ (wd_23 hw) (wd_8 hw) (by decide) (by decide)) q17a q17c (g := (mkF m 269 #[.val (.int p0), .val (.int p1), .val (.int p2), .val (.int p3), .val (.int p4), .val (.int (0 : Int32)), .val (.int x6_15), .val (.int x7_23), .val (.int x8_34), .val (.int x9_43), .val (.int x10_54), .val (.int x11_63), .val (.int x12_75), .val (.int x13_84), .val (.ref ob5), .val (.ref ob11), .val (.int (0 : Int32)), .val (.ref ob12), .unset] [(.ref ob12)])) rfl (by rw [hml]; rfl) (Steps.refl _) (argsL := []) (rest := []) (lenOf pd_3 rfl) rfl (by show 2 * 0 + _ ≤ _; exact Nat.le_of_eq rfl) (hb hby at_269) (fun _ _ => ⟨rfl, rfl, (by decide : 3 + 1 ≤ _), (by decide : 7 + 5 ≤ _)⟩)
    dsimp only [Pt.U, Pt.locs, Pt.cells, Pt.slots] at X17 l17 y17 z17 st17 hQ17
    subst l17 y17 z17
    obtain ⟨b_17, ns_b_17, kb_17, rfl, N17q, Kq17, p17_0⟩ := hQ17
    have N17 := Fr.app N15 N17q
    refine own_on st17 ?_
    have f18 : Arv Z h12 ob5 ka5 .int (5 : Int32) [(.int (0 : Int32)), (.int x6_15), (.int x8_34), (.int x10_54), (.int x12_75)] (.int (0 : Int32)) := f13.ext E12
    have f19 : Arv Z T15.heap ob5 ka5 .int (5 : Int32) [(.int (0 : Int32)), (.int x6_15), (.int x8_34), (.int x10_54), (.int x12_75)] (.int (0 : Int32)) := f18.keep Kq15 (ninS ne_ob5_ob12 nin0)
    have ne_ob5_b_17 : ob5 ≠ b_17 := Nat.ne_of_lt (Nat.lt_of_lt_of_le f19.lt ns_b_17)
    have ne_ob11_b_17 : ob11 ≠ b_17 := Nat.ne_of_lt (Nat.lt_of_lt_of_le f16.lt ns_b_17)
    have ne_ob12_b_17 : ob12 ≠ b_17 := Nat.ne_of_lt (Nat.lt_of_lt_of_le p15_0.lt ns_b_17)
    have g_b_17 : n0 ≤ b_17 := Nat.le_trans Zp15 ns_b_17
    have Zp17 : n0 ≤ T17.heap.size := Nat.le_trans Zp15 Kq17.1
    show own_G p e below Φ T17 (mkF m 272 #[.val (.int p0), .val (.int p1), .val (.int p2), .val (.int p3), .val (.int p4), .val (.int (0 : Int32)), .val (.int x6_15), .val (.int x7_23), .val (.int x8_34), .val (.int x9_43), .val (.int x10_54), .val (.int x11_63), .val (.int x12_75), .val (.int x13_84), .val (.ref ob5), .val (.ref ob11), .val (.int (0 : Int32)), .val (.ref ob12), .unset] [(.ref b_17)])
    refine own_go (fun _ => XS.astore X17.here hx rfl (hb hby at_272) rfl rfl (l' := #[.val (.int p0), .val (.int p1), .val (.int p2), .val (.int p3), .val (.int p4), .val (.int (0 : Int32)), .val (.int x6_15), .val (.int x7_23), .val (.int x8_34), .val (.int x9_43), .val (.int x10_54), .val (.int x11_63), .val (.int x12_75), .val (.int x13_84), .val (.ref ob5), .val (.ref ob11), .val (.int (0 : Int32)), .val (.ref ob12), .val (.ref b_17)]) rfl) ?_
    show own_G p e below Φ T17 (mkF m 274 #[.val (.int p0), .val (.int p1), .val (.int p2), .val (.int p3), .val (.int p4), .val (.int (0 : Int32)), .val (.int x6_15), .val (.int x7_23), .val (.int x8_34), .val (.int x9_43), .val (.int x10_54), .val (.int x11_63), .val (.int x12_75), .val (.int x13_84), .val (.ref ob5), .val (.ref ob11), .val (.int (0 : Int32)), .val (.ref ob12), .val (.ref b_17)] [])
    refine own_go (fun _ => XS.aload X17.here hx rfl (hb hby at_274) rfl rfl) ?_
    show own_G p e below Φ T17 (mkF m 276 #[.val (.int p0), .val (.int p1), .val (.int p2), .val (.int p3), .val (.int p4), .val (.int (0 : Int32)), .val (.int x6_15), .val (.int x7_23), .val (.int x8_34), .val (.int x9_43), .val (.int x10_54), .val (.int x11_63), .val (.int x12_75), .val (.int x13_84), .val (.ref ob5), .val (.ref ob11), .val (.int (0 : Int32)), .val (.ref ob12), .val (.ref b_17)] [(.ref b_17)])
    refine own_go (fun _ => XS.ifnullNo X17.here hx rfl (hb hby at_276) rfl) ?_
    show own_G p e below Φ T17 (mkF m 279 #[.val (.int p0), .val (.int p1), .val (.int p2), .val (.int p3), .val (.int p4), .val (.int (0 : Int32)), .val (.int x6_15), .val (.int x7_23), .val (.int x8_34), .val (.int x9_43), .val (.int x10_54), .val (.int x11_63), .val (.int x12_75), .val (.int x13_84), .val (.ref ob5), .val (.ref ob11), .val (.int (0 : Int32)), .val (.ref ob12), .val (.ref b_17)] [])
    refine own_go (fun _ => XS.aload X17.here hx rfl (hb hby at_279) rfl rfl) ?_
    show own_G p e below Φ T17 (mkF m 281 #[.val (.int p0), .val (.int p1), .val (.int p2), .val (.int p3), .val (.int p4), .val (.int (0 : Int32)), .val (.int x6_15), .val (.int x7_23), .val (.int x8_34), .val (.int x9_43), .val (.int x10_54), .val (.int x11_63), .val (.int x12_75), .val (.int x13_84), .val (.ref ob5), .val (.ref ob11), .val (.int (0 : Int32)), .val (.ref ob12), .val (.ref b_17)] [(.ref b_17)])
    obtain ⟨cl20, Ar20, q20, S20, M20, H20, G20⟩ := id p17_0
    refine own_go (fun _ => X17.arraylength hx Ar20.1 (State.isArrayOf_alike hZ.alike Ar20.2.1) (g := (mkF m 281 #[.val (.int p0), .val (.int p1), .val (.int p2), .val (.int p3), .val (.int p4), .val (.int (0 : Int32)), .val (.int x6_15), .val (.int x7_23), .val (.int x8_34), .val (.int x9_43), .val (.int x10_54), .val (.int x11_63), .val (.int x12_75), .val (.int x13_84), .val (.ref ob5), .val (.ref ob11), .val (.int (0 : Int32)), .val (.ref ob12), .val (.ref b_17)] [(.ref b_17)])) rfl rfl (hb hby at_281) _) ?_
    rw [len_of S20 M20]
    show own_G p e below Φ T17 (mkF m 282 #[.val (.int p0), .val (.int p1), .val (.int p2), .val (.int p3), .val (.int p4), .val (.int (0 : Int32)), .val (.int x6_15), .val (.int x7_23), .val (.int x8_34), .val (.int x9_43), .val (.int x10_54), .val (.int x11_63), .val (.int x12_75), .val (.int x13_84), .val (.ref ob5), .val (.ref ob11), .val (.int (0 : Int32)), .val (.ref ob12), .val (.ref b_17)] [(.int (0 : Int32))])
    refine own_go (fun _ => XS.iload X17.here hx rfl (hb hby at_282) rfl) ?_
    show own_G p e below Φ T17 (mkF m 284 #[.val (.int p0), .val (.int p1), .val (.int p2), .val (.int p3), .val (.int p4), .val (.int (0 : Int32)), .val (.int x6_15), .val (.int x7_23), .val (.int x8_34), .val (.int x9_43), .val (.int x10_54), .val (.int x11_63), .val (.int x12_75), .val (.int x13_84), .val (.ref ob5), .val (.ref ob11), .val (.int (0 : Int32)), .val (.ref ob12), .val (.ref b_17)] [(.int (0 : Int32)), (.int (0 : Int32))])
    refine own_go (fun _ => XS.icmpYes X17.here hx rfl (pc0 := 284) (pc' := 289) rfl (hb hby at_284) rfl (Jvm.Free.XT.ii_eq_t (own_use (P := fun t => (0 : Int32) = (0 : Int32)) (by decide +kernel) hall)) (by decide) (by decide)) ?_
    show own_G p e below Φ T17 (mkF m 289 #[.val (.int p0), .val (.int p1), .val (.int p2), .val (.int p3), .val (.int p4), .val (.int (0 : Int32)), .val (.int x6_15), .val (.int x7_23), .val (.int x8_34), .val (.int x9_43), .val (.int x10_54), .val (.int x11_63), .val (.int x12_75), .val (.int x13_84), .val (.ref ob5), .val (.ref ob11), .val (.int (0 : Int32)), .val (.ref ob12), .val (.ref b_17)] [])
    refine own_go (fun _ => XS.aload X17.here hx rfl (hb hby at_289) rfl rfl) ?_
    show own_G p e below Φ T17 (mkF m 291 #[.val (.int p0), .val (.int p1), .val (.int p2), .val (.int p3), .val (.int p4), .val (.int (0 : Int32)), .val (.int x6_15), .val (.int x7_23), .val (.int x8_34), .val (.int x9_43), .val (.int x10_54), .val (.int x11_63), .val (.int x12_75), .val (.int x13_84), .val (.ref ob5), .val (.ref ob11), .val (.int (0 : Int32)), .val (.ref ob12), .val (.ref b_17)] [(.ref b_17)])
    refine own_go (fun _ => XS.aload X17.here hx rfl (hb hby at_291) rfl rfl) ?_
    show own_G p e below Φ T17 (mkF m 293 #[.val (.int p0), .val (.int p1), .val (.int p2), .val (.int p3), .val (.int p4), .val (.int (0 : Int32)), .val (.int x6_15), .val (.int x7_23), .val (.int x8_34), .val (.int x9_43), .val (.int x10_54), .val (.int x11_63), .val (.int x12_75), .val (.int x13_84), .val (.ref ob5), .val (.ref ob11), .val (.int (0 : Int32)), .val (.ref ob12), .val (.ref b_17)] [(.ref ob5), (.ref b_17)])
    refine own_go (fun _ => XS.iload X17.here hx rfl (hb hby at_293) rfl) ?_
    show own_G p e below Φ T17 (mkF m 295 #[.val (.int p0), .val (.int p1), .val (.int p2), .val (.int p3), .val (.int p4), .val (.int (0 : Int32)), .val (.int x6_15), .val (.int x7_23), .val (.int x8_34), .val (.int x9_43), .val (.int x10_54), .val (.int x11_63), .val (.int x12_75), .val (.int x13_84), .val (.ref ob5), .val (.ref ob11), .val (.int (0 : Int32)), .val (.ref ob12), .val (.ref b_17)] [(.int (0 : Int32)), (.ref ob5), (.ref b_17)])
    refine own_go (fun _ => XS.iconst X17.here hx rfl (hb hby at_295)) ?_
    show own_G p e below Φ T17 (mkF m 296 #[.val (.int p0), .val (.int p1), .val (.int p2), .val (.int p3), .val (.int p4), .val (.int (0 : Int32)), .val (.int x6_15), .val (.int x7_23), .val (.int x8_34), .val (.int x9_43), .val (.int x10_54), .val (.int x11_63), .val (.int x12_75), .val (.int x13_84), .val (.ref ob5), .val (.ref ob11), .val (.int (0 : Int32)), .val (.ref ob12), .val (.ref b_17)] [(.int (0 : Int32)), (.int (0 : Int32)), (.ref ob5), (.ref b_17)])
    have f21 : Arv Z T17.heap ob5 ka5 .int (5 : Int32) [(.int (0 : Int32)), (.int x6_15), (.int x8_34), (.int x10_54), (.int x12_75)] (.int (0 : Int32)) := f19.keep Kq17 nin0
    obtain ⟨_, _, ⟨T22, zL22, zk22, zn22⟩, -, X22, ⟨Lc22, hQ22, l22, y22, z22⟩, st22⟩ := Jvm.LawKit.callS X17 hx (y := (⟨"com/example/edgewarden/edgewarden/graph/LikenessGetFirstMembersPinLaw", "ok", "([I[III)Z"⟩ : MethodName)) hown (mvT hZ (wd_24 hw)) (mvT hZ (wd_25 hw)) (mvT hZ (wd_26 hw)) (mvT hZ (wd_27 hw)) (by decide) (backOf (W := 0) (rmK l Z a0 hw [] b_17 ob5 kb_17 ka5 (0 : Int32) (own_zeros (0 : Int32)) (0 : Int32) (0 : Int32) (0 : Int32) x6_15 x8_34 x10_54 x12_75 T17.heap n0 Zp17 p17_0 f21 (by decide) (own_use (P := fun t => (0 : Int32) < (0 : Int32) → ((own_zeros (0 : Int32))).getD ((0 : Int32)).toNatClampNeg 0 = own_first (0 : Int32) t.1 t.2.2.1 t.2.2.2.2.1 t.2.2.2.2.2.2.1 (0 : Int32) (0 : Int32)) (by decide +kernel) hall)) hZ (wd_27 hw) (wd_26 hw) (by decide) (by decide)) (g := (mkF m 296 #[.val (.int p0), .val (.int p1), .val (.int p2), .val (.int p3), .val (.int p4), .val (.int (0 : Int32)), .val (.int x6_15), .val (.int x7_23), .val (.int x8_34), .val (.int x9_43), .val (.int x10_54), .val (.int x11_63), .val (.int x12_75), .val (.int x13_84), .val (.ref ob5), .val (.ref ob11), .val (.int (0 : Int32)), .val (.ref ob12), .val (.ref b_17)] [(.int (0 : Int32)), (.int (0 : Int32)), (.ref ob5), (.ref b_17)])) rfl (by rw [hml]; rfl) (argsL := [(.ref b_17), (.ref ob5), (.int (0 : Int32)), (.int (0 : Int32))]) (rest := []) (lenOf pd_4 rfl) rfl (by show 2 * 0 + _ ≤ _; exact Nat.le_of_eq rfl) (hb hby at_296) (fun _ _ => ⟨rfl, rfl, (by decide : 4 + 0 ≤ _), (by decide : 12 + 0 ≤ _)⟩)
    dsimp only [Pt.U, Pt.locs, Pt.cells, Pt.slots] at X22 l22 y22 z22 st22 hQ22
    subst l22 y22 z22
    obtain ⟨rfl, N22q, hs22⟩ := hQ22
    have N22 := Fr.app N17 N22q
    refine own_go st22 ?_
    show own_G p e below Φ T22 (mkF m 299 #[.val (.int p0), .val (.int p1), .val (.int p2), .val (.int p3), .val (.int p4), .val (.int (0 : Int32)), .val (.int x6_15), .val (.int x7_23), .val (.int x8_34), .val (.int x9_43), .val (.int x10_54), .val (.int x11_63), .val (.int x12_75), .val (.int x13_84), .val (.ref ob5), .val (.ref ob11), .val (.int (0 : Int32)), .val (.ref ob12), .val (.ref b_17)] [(.int (1 : Int32))])
    refine own_go (fun _ => XS.ifNo X22.here hx rfl (hb hby at_299) rfl (Jvm.Free.XT.i0_eq_f (by decide : ¬ ((1 : Int32) = (0 : Int32))))) ?_
    show own_G p e below Φ T22 (mkF m 302 #[.val (.int p0), .val (.int p1), .val (.int p2), .val (.int p3), .val (.int p4), .val (.int (0 : Int32)), .val (.int x6_15), .val (.int x7_23), .val (.int x8_34), .val (.int x9_43), .val (.int x10_54), .val (.int x11_63), .val (.int x12_75), .val (.int x13_84), .val (.ref ob5), .val (.ref ob11), .val (.int (0 : Int32)), .val (.ref ob12), .val (.ref b_17)] [])
    refine own_go (fun _ => XS.aload X22.here hx rfl (hb hby at_302) rfl rfl) ?_
    show own_G p e below Φ T22 (mkF m 304 #[.val (.int p0), .val (.int p1), .val (.int p2), .val (.int p3), .val (.int p4), .val (.int (0 : Int32)), .val (.int x6_15), .val (.int x7_23), .val (.int x8_34), .val (.int x9_43), .val (.int x10_54), .val (.int x11_63), .val (.int x12_75), .val (.int x13_84), .val (.ref ob5), .val (.ref ob11), .val (.int (0 : Int32)), .val (.ref ob12), .val (.ref b_17)] [(.ref b_17)])
    refine own_go (fun _ => XS.aload X22.here hx rfl (hb hby at_304) rfl rfl) ?_
    show own_G p e below Φ T22 (mkF m 306 #[.val (.int p0), .val (.int p1), .val (.int p2), .val (.int p3), .val (.int p4), .val (.int (0 : Int32)), .val (.int x6_15), .val (.int x7_23), .val (.int x8_34), .val (.int x9_43), .val (.int x10_54), .val (.int x11_63), .val (.int x12_75), .val (.int x13_84), .val (.ref ob5), .val (.ref ob11), .val (.int (0 : Int32)), .val (.ref ob12), .val (.ref b_17)] [(.ref ob5), (.ref b_17)])
    refine own_go (fun _ => XS.iload X22.here hx rfl (hb hby at_306) rfl) ?_
    show own_G p e below Φ T22 (mkF m 308 #[.val (.int p0), .val (.int p1), .val (.int p2), .val (.int p3), .val (.int p4), .val (.int (0 : Int32)), .val (.int x6_15), .val (.int x7_23), .val (.int x8_34), .val (.int x9_43), .val (.int x10_54), .val (.int x11_63), .val (.int x12_75), .val (.int x13_84), .val (.ref ob5), .val (.ref ob11), .val (.int (0 : Int32)), .val (.ref ob12), .val (.ref b_17)] [(.int (0 : Int32)), (.ref ob5), (.ref b_17)])
    refine own_go (fun _ => XS.iconst X22.here hx rfl (hb hby at_308)) ?_
    show own_G p e below Φ T22 (mkF m 309 #[.val (.int p0), .val (.int p1), .val (.int p2), .val (.int p3), .val (.int p4), .val (.int (0 : Int32)), .val (.int x6_15), .val (.int x7_23), .val (.int x8_34), .val (.int x9_43), .val (.int x10_54), .val (.int x11_63), .val (.int x12_75), .val (.int x13_84), .val (.ref ob5), .val (.ref ob11), .val (.int (0 : Int32)), .val (.ref ob12), .val (.ref b_17)] [(.int (1 : Int32)), (.int (0 : Int32)), (.ref ob5), (.ref b_17)])
    obtain ⟨_, _, ⟨T23, zL23, zk23, zn23⟩, -, X23, ⟨Lc23, hQ23, l23, y23, z23⟩, st23⟩ := Jvm.LawKit.callS X22 hx (y := (⟨"com/example/edgewarden/edgewarden/graph/LikenessGetFirstMembersPinLaw", "ok", "([I[III)Z"⟩ : MethodName)) hown (mvT hZ (wd_24 hw)) (mvT hZ (wd_25 hw)) (mvT hZ (wd_26 hw)) (mvT hZ (wd_27 hw)) (by decide) (backOf (W := 0) (rmK l Z a0 hw [] b_17 ob5 kb_17 ka5 (0 : Int32) (own_zeros (0 : Int32)) (0 : Int32) (1 : Int32) (0 : Int32) x6_15 x8_34 x10_54 x12_75 T17.heap n0 Zp17 p17_0 f21 (by decide) (own_use (P := fun t => (1 : Int32) < (0 : Int32) → ((own_zeros (0 : Int32))).getD ((1 : Int32)).toNatClampNeg 0 = own_first (0 : Int32) t.1 t.2.2.1 t.2.2.2.2.1 t.2.2.2.2.2.2.1 (0 : Int32) (1 : Int32)) (by decide +kernel) hall)) hZ (wd_27 hw) (wd_26 hw) (by decide) (by decide)) (g := (mkF m 309 #[.val (.int p0), .val (.int p1), .val (.int p2), .val (.int p3), .val (.int p4), .val (.int (0 : Int32)), .val (.int x6_15), .val (.int x7_23), .val (.int x8_34), .val (.int x9_43), .val (.int x10_54), .val (.int x11_63), .val (.int x12_75), .val (.int x13_84), .val (.ref ob5), .val (.ref ob11), .val (.int (0 : Int32)), .val (.ref ob12), .val (.ref b_17)] [(.int (1 : Int32)), (.int (0 : Int32)), (.ref ob5), (.ref b_17)])) rfl (by rw [hml]; rfl) (argsL := [(.ref b_17), (.ref ob5), (.int (0 : Int32)), (.int (1 : Int32))]) (rest := []) (lenOf pd_4 rfl) rfl (by show 2 * 0 + _ ≤ _; exact Nat.le_of_eq rfl) (hb hby at_309) (fun _ _ => ⟨rfl, hs22, (by decide : 4 + 0 ≤ _), (by decide : 12 + 0 ≤ _)⟩)
    dsimp only [Pt.U, Pt.locs, Pt.cells, Pt.slots] at X23 l23 y23 z23 st23 hQ23
    subst l23 y23 z23
    obtain ⟨rfl, N23q, hs23⟩ := hQ23
    have N23 := Fr.app N22 N23q
    refine own_go st23 ?_
    show own_G p e below Φ T23 (mkF m 312 #[.val (.int p0), .val (.int p1), .val (.int p2), .val (.int p3), .val (.int p4), .val (.int (0 : Int32)), .val (.int x6_15), .val (.int x7_23), .val (.int x8_34), .val (.int x9_43), .val (.int x10_54), .val (.int x11_63), .val (.int x12_75), .val (.int x13_84), .val (.ref ob5), .val (.ref ob11), .val (.int (0 : Int32)), .val (.ref ob12), .val (.ref b_17)] [(.int (1 : Int32))])
    refine own_go (fun _ => XS.ifNo X23.here hx rfl (hb hby at_312) rfl (Jvm.Free.XT.i0_eq_f (by decide : ¬ ((1 : Int32) = (0 : Int32))))) ?_
    show own_G p e below Φ T23 (mkF m 315 #[.val (.int p0), .val (.int p1), .val (.int p2), .val (.int p3), .val (.int p4), .val (.int (0 : Int32)), .val (.int x6_15), .val (.int x7_23), .val (.int x8_34), .val (.int x9_43), .val (.int x10_54), .val (.int x11_63), .val (.int x12_75), .val (.int x13_84), .val (.ref ob5), .val (.ref ob11), .val (.int (0 : Int32)), .val (.ref ob12), .val (.ref b_17)] [])
    refine own_go (fun _ => XS.aload X23.here hx rfl (hb hby at_315) rfl rfl) ?_
    show own_G p e below Φ T23 (mkF m 317 #[.val (.int p0), .val (.int p1), .val (.int p2), .val (.int p3), .val (.int p4), .val (.int (0 : Int32)), .val (.int x6_15), .val (.int x7_23), .val (.int x8_34), .val (.int x9_43), .val (.int x10_54), .val (.int x11_63), .val (.int x12_75), .val (.int x13_84), .val (.ref ob5), .val (.ref ob11), .val (.int (0 : Int32)), .val (.ref ob12), .val (.ref b_17)] [(.ref b_17)])
    refine own_go (fun _ => XS.aload X23.here hx rfl (hb hby at_317) rfl rfl) ?_
    show own_G p e below Φ T23 (mkF m 319 #[.val (.int p0), .val (.int p1), .val (.int p2), .val (.int p3), .val (.int p4), .val (.int (0 : Int32)), .val (.int x6_15), .val (.int x7_23), .val (.int x8_34), .val (.int x9_43), .val (.int x10_54), .val (.int x11_63), .val (.int x12_75), .val (.int x13_84), .val (.ref ob5), .val (.ref ob11), .val (.int (0 : Int32)), .val (.ref ob12), .val (.ref b_17)] [(.ref ob5), (.ref b_17)])
    refine own_go (fun _ => XS.iload X23.here hx rfl (hb hby at_319) rfl) ?_
    show own_G p e below Φ T23 (mkF m 321 #[.val (.int p0), .val (.int p1), .val (.int p2), .val (.int p3), .val (.int p4), .val (.int (0 : Int32)), .val (.int x6_15), .val (.int x7_23), .val (.int x8_34), .val (.int x9_43), .val (.int x10_54), .val (.int x11_63), .val (.int x12_75), .val (.int x13_84), .val (.ref ob5), .val (.ref ob11), .val (.int (0 : Int32)), .val (.ref ob12), .val (.ref b_17)] [(.int (0 : Int32)), (.ref ob5), (.ref b_17)])
    refine own_go (fun _ => XS.iconst X23.here hx rfl (hb hby at_321)) ?_
    show own_G p e below Φ T23 (mkF m 322 #[.val (.int p0), .val (.int p1), .val (.int p2), .val (.int p3), .val (.int p4), .val (.int (0 : Int32)), .val (.int x6_15), .val (.int x7_23), .val (.int x8_34), .val (.int x9_43), .val (.int x10_54), .val (.int x11_63), .val (.int x12_75), .val (.int x13_84), .val (.ref ob5), .val (.ref ob11), .val (.int (0 : Int32)), .val (.ref ob12), .val (.ref b_17)] [(.int (2 : Int32)), (.int (0 : Int32)), (.ref ob5), (.ref b_17)])
    obtain ⟨_, _, ⟨T24, zL24, zk24, zn24⟩, -, X24, ⟨Lc24, hQ24, l24, y24, z24⟩, st24⟩ := Jvm.LawKit.callS X23 hx (y := (⟨"com/example/edgewarden/edgewarden/graph/LikenessGetFirstMembersPinLaw", "ok", "([I[III)Z"⟩ : MethodName)) hown (mvT hZ (wd_24 hw)) (mvT hZ (wd_25 hw)) (mvT hZ (wd_26 hw)) (mvT hZ (wd_27 hw)) (by decide) (backOf (W := 0) (rmK l Z a0 hw [] b_17 ob5 kb_17 ka5 (0 : Int32) (own_zeros (0 : Int32)) (0 : Int32) (2 : Int32) (0 : Int32) x6_15 x8_34 x10_54 x12_75 T17.heap n0 Zp17 p17_0 f21 (by decide) (own_use (P := fun t => (2 : Int32) < (0 : Int32) → ((own_zeros (0 : Int32))).getD ((2 : Int32)).toNatClampNeg 0 = own_first (0 : Int32) t.1 t.2.2.1 t.2.2.2.2.1 t.2.2.2.2.2.2.1 (0 : Int32) (2 : Int32)) (by decide +kernel) hall)) hZ (wd_27 hw) (wd_26 hw) (by decide) (by decide)) (g := (mkF m 322 #[.val (.int p0), .val (.int p1), .val (.int p2), .val (.int p3), .val (.int p4), .val (.int (0 : Int32)), .val (.int x6_15), .val (.int x7_23), .val (.int x8_34), .val (.int x9_43), .val (.int x10_54), .val (.int x11_63), .val (.int x12_75), .val (.int x13_84), .val (.ref ob5), .val (.ref ob11), .val (.int (0 : Int32)), .val (.ref ob12), .val (.ref b_17)] [(.int (2 : Int32)), (.int (0 : Int32)), (.ref ob5), (.ref b_17)])) rfl (by rw [hml]; rfl) (argsL := [(.ref b_17), (.ref ob5), (.int (0 : Int32)), (.int (2 : Int32))]) (rest := []) (lenOf pd_4 rfl) rfl (by show 2 * 0 + _ ≤ _; exact Nat.le_of_eq rfl) (hb hby at_322) (fun _ _ => ⟨rfl, hs23, (by decide : 4 + 0 ≤ _), (by decide : 12 + 0 ≤ _)⟩)
    dsimp only [Pt.U, Pt.locs, Pt.cells, Pt.slots] at X24 l24 y24 z24 st24 hQ24
    subst l24 y24 z24
    obtain ⟨rfl, N24q, hs24⟩ := hQ24
    have N24 := Fr.app N23 N24q
    refine own_go st24 ?_
    show own_G p e below Φ T24 (mkF m 325 #[.val (.int p0), .val (.int p1), .val (.int p2), .val (.int p3), .val (.int p4), .val (.int (0 : Int32)), .val (.int x6_15), .val (.int x7_23), .val (.int x8_34), .val (.int x9_43), .val (.int x10_54), .val (.int x11_63), .val (.int x12_75), .val (.int x13_84), .val (.ref ob5), .val (.ref ob11), .val (.int (0 : Int32)), .val (.ref ob12), .val (.ref b_17)] [(.int (1 : Int32))])
    refine own_go (fun _ => XS.ifNo X24.here hx rfl (hb hby at_325) rfl (Jvm.Free.XT.i0_eq_f (by decide : ¬ ((1 : Int32) = (0 : Int32))))) ?_
    show own_G p e below Φ T24 (mkF m 328 #[.val (.int p0), .val (.int p1), .val (.int p2), .val (.int p3), .val (.int p4), .val (.int (0 : Int32)), .val (.int x6_15), .val (.int x7_23), .val (.int x8_34), .val (.int x9_43), .val (.int x10_54), .val (.int x11_63), .val (.int x12_75), .val (.int x13_84), .val (.ref ob5), .val (.ref ob11), .val (.int (0 : Int32)), .val (.ref ob12), .val (.ref b_17)] [])
    refine own_go (fun _ => XS.aload X24.here hx rfl (hb hby at_328) rfl rfl) ?_
    show own_G p e below Φ T24 (mkF m 330 #[.val (.int p0), .val (.int p1), .val (.int p2), .val (.int p3), .val (.int p4), .val (.int (0 : Int32)), .val (.int x6_15), .val (.int x7_23), .val (.int x8_34), .val (.int x9_43), .val (.int x10_54), .val (.int x11_63), .val (.int x12_75), .val (.int x13_84), .val (.ref ob5), .val (.ref ob11), .val (.int (0 : Int32)), .val (.ref ob12), .val (.ref b_17)] [(.ref b_17)])
    refine own_go (fun _ => XS.aload X24.here hx rfl (hb hby at_330) rfl rfl) ?_
    show own_G p e below Φ T24 (mkF m 332 #[.val (.int p0), .val (.int p1), .val (.int p2), .val (.int p3), .val (.int p4), .val (.int (0 : Int32)), .val (.int x6_15), .val (.int x7_23), .val (.int x8_34), .val (.int x9_43), .val (.int x10_54), .val (.int x11_63), .val (.int x12_75), .val (.int x13_84), .val (.ref ob5), .val (.ref ob11), .val (.int (0 : Int32)), .val (.ref ob12), .val (.ref b_17)] [(.ref ob5), (.ref b_17)])
    refine own_go (fun _ => XS.iload X24.here hx rfl (hb hby at_332) rfl) ?_
    show own_G p e below Φ T24 (mkF m 334 #[.val (.int p0), .val (.int p1), .val (.int p2), .val (.int p3), .val (.int p4), .val (.int (0 : Int32)), .val (.int x6_15), .val (.int x7_23), .val (.int x8_34), .val (.int x9_43), .val (.int x10_54), .val (.int x11_63), .val (.int x12_75), .val (.int x13_84), .val (.ref ob5), .val (.ref ob11), .val (.int (0 : Int32)), .val (.ref ob12), .val (.ref b_17)] [(.int (0 : Int32)), (.ref ob5), (.ref b_17)])
    refine own_go (fun _ => XS.iconst X24.here hx rfl (hb hby at_334)) ?_
    show own_G p e below Φ T24 (mkF m 335 #[.val (.int p0), .val (.int p1), .val (.int p2), .val (.int p3), .val (.int p4), .val (.int (0 : Int32)), .val (.int x6_15), .val (.int x7_23), .val (.int x8_34), .val (.int x9_43), .val (.int x10_54), .val (.int x11_63), .val (.int x12_75), .val (.int x13_84), .val (.ref ob5), .val (.ref ob11), .val (.int (0 : Int32)), .val (.ref ob12), .val (.ref b_17)] [(.int (3 : Int32)), (.int (0 : Int32)), (.ref ob5), (.ref b_17)])
    obtain ⟨_, _, ⟨T25, zL25, zk25, zn25⟩, -, X25, ⟨Lc25, hQ25, l25, y25, z25⟩, st25⟩ := Jvm.LawKit.callS X24 hx (y := (⟨"com/example/edgewarden/edgewarden/graph/LikenessGetFirstMembersPinLaw", "ok", "([I[III)Z"⟩ : MethodName)) hown (mvT hZ (wd_24 hw)) (mvT hZ (wd_25 hw)) (mvT hZ (wd_26 hw)) (mvT hZ (wd_27 hw)) (by decide) (backOf (W := 0) (rmK l Z a0 hw [] b_17 ob5 kb_17 ka5 (0 : Int32) (own_zeros (0 : Int32)) (0 : Int32) (3 : Int32) (0 : Int32) x6_15 x8_34 x10_54 x12_75 T17.heap n0 Zp17 p17_0 f21 (by decide) (own_use (P := fun t => (3 : Int32) < (0 : Int32) → ((own_zeros (0 : Int32))).getD ((3 : Int32)).toNatClampNeg 0 = own_first (0 : Int32) t.1 t.2.2.1 t.2.2.2.2.1 t.2.2.2.2.2.2.1 (0 : Int32) (3 : Int32)) (by decide +kernel) hall)) hZ (wd_27 hw) (wd_26 hw) (by decide) (by decide)) (g := (mkF m 335 #[.val (.int p0), .val (.int p1), .val (.int p2), .val (.int p3), .val (.int p4), .val (.int (0 : Int32)), .val (.int x6_15), .val (.int x7_23), .val (.int x8_34), .val (.int x9_43), .val (.int x10_54), .val (.int x11_63), .val (.int x12_75), .val (.int x13_84), .val (.ref ob5), .val (.ref ob11), .val (.int (0 : Int32)), .val (.ref ob12), .val (.ref b_17)] [(.int (3 : Int32)), (.int (0 : Int32)), (.ref ob5), (.ref b_17)])) rfl (by rw [hml]; rfl) (argsL := [(.ref b_17), (.ref ob5), (.int (0 : Int32)), (.int (3 : Int32))]) (rest := []) (lenOf pd_4 rfl) rfl (by show 2 * 0 + _ ≤ _; exact Nat.le_of_eq rfl) (hb hby at_335) (fun _ _ => ⟨rfl, hs24, (by decide : 4 + 0 ≤ _), (by decide : 12 + 0 ≤ _)⟩)
    dsimp only [Pt.U, Pt.locs, Pt.cells, Pt.slots] at X25 l25 y25 z25 st25 hQ25
    subst l25 y25 z25
    obtain ⟨rfl, N25q, hs25⟩ := hQ25
    have N25 := Fr.app N24 N25q
    refine own_go st25 ?_
    show own_G p e below Φ T25 (mkF m 338 #[.val (.int p0), .val (.int p1), .val (.int p2), .val (.int p3), .val (.int p4), .val (.int (0 : Int32)), .val (.int x6_15), .val (.int x7_23), .val (.int x8_34), .val (.int x9_43), .val (.int x10_54), .val (.int x11_63), .val (.int x12_75), .val (.int x13_84), .val (.ref ob5), .val (.ref ob11), .val (.int (0 : Int32)), .val (.ref ob12), .val (.ref b_17)] [(.int (1 : Int32))])
    refine own_go (fun _ => XS.ifNo X25.here hx rfl (hb hby at_338) rfl (Jvm.Free.XT.i0_eq_f (by decide : ¬ ((1 : Int32) = (0 : Int32))))) ?_
    show own_G p e below Φ T25 (mkF m 341 #[.val (.int p0), .val (.int p1), .val (.int p2), .val (.int p3), .val (.int p4), .val (.int (0 : Int32)), .val (.int x6_15), .val (.int x7_23), .val (.int x8_34), .val (.int x9_43), .val (.int x10_54), .val (.int x11_63), .val (.int x12_75), .val (.int x13_84), .val (.ref ob5), .val (.ref ob11), .val (.int (0 : Int32)), .val (.ref ob12), .val (.ref b_17)] [])
    refine own_go (fun _ => XS.aload X25.here hx rfl (hb hby at_341) rfl rfl) ?_
    show own_G p e below Φ T25 (mkF m 343 #[.val (.int p0), .val (.int p1), .val (.int p2), .val (.int p3), .val (.int p4), .val (.int (0 : Int32)), .val (.int x6_15), .val (.int x7_23), .val (.int x8_34), .val (.int x9_43), .val (.int x10_54), .val (.int x11_63), .val (.int x12_75), .val (.int x13_84), .val (.ref ob5), .val (.ref ob11), .val (.int (0 : Int32)), .val (.ref ob12), .val (.ref b_17)] [(.ref b_17)])
    refine own_go (fun _ => XS.aload X25.here hx rfl (hb hby at_343) rfl rfl) ?_
    show own_G p e below Φ T25 (mkF m 345 #[.val (.int p0), .val (.int p1), .val (.int p2), .val (.int p3), .val (.int p4), .val (.int (0 : Int32)), .val (.int x6_15), .val (.int x7_23), .val (.int x8_34), .val (.int x9_43), .val (.int x10_54), .val (.int x11_63), .val (.int x12_75), .val (.int x13_84), .val (.ref ob5), .val (.ref ob11), .val (.int (0 : Int32)), .val (.ref ob12), .val (.ref b_17)] [(.ref ob5), (.ref b_17)])
    refine own_go (fun _ => XS.iload X25.here hx rfl (hb hby at_345) rfl) ?_
    show own_G p e below Φ T25 (mkF m 347 #[.val (.int p0), .val (.int p1), .val (.int p2), .val (.int p3), .val (.int p4), .val (.int (0 : Int32)), .val (.int x6_15), .val (.int x7_23), .val (.int x8_34), .val (.int x9_43), .val (.int x10_54), .val (.int x11_63), .val (.int x12_75), .val (.int x13_84), .val (.ref ob5), .val (.ref ob11), .val (.int (0 : Int32)), .val (.ref ob12), .val (.ref b_17)] [(.int (0 : Int32)), (.ref ob5), (.ref b_17)])
    refine own_go (fun _ => XS.iconst X25.here hx rfl (hb hby at_347)) ?_
    show own_G p e below Φ T25 (mkF m 348 #[.val (.int p0), .val (.int p1), .val (.int p2), .val (.int p3), .val (.int p4), .val (.int (0 : Int32)), .val (.int x6_15), .val (.int x7_23), .val (.int x8_34), .val (.int x9_43), .val (.int x10_54), .val (.int x11_63), .val (.int x12_75), .val (.int x13_84), .val (.ref ob5), .val (.ref ob11), .val (.int (0 : Int32)), .val (.ref ob12), .val (.ref b_17)] [(.int (4 : Int32)), (.int (0 : Int32)), (.ref ob5), (.ref b_17)])
    obtain ⟨_, _, ⟨T26, zL26, zk26, zn26⟩, -, X26, ⟨Lc26, hQ26, l26, y26, z26⟩, st26⟩ := Jvm.LawKit.callS X25 hx (y := (⟨"com/example/edgewarden/edgewarden/graph/LikenessGetFirstMembersPinLaw", "ok", "([I[III)Z"⟩ : MethodName)) hown (mvT hZ (wd_24 hw)) (mvT hZ (wd_25 hw)) (mvT hZ (wd_26 hw)) (mvT hZ (wd_27 hw)) (by decide) (backOf (W := 0) (rmK l Z a0 hw [] b_17 ob5 kb_17 ka5 (0 : Int32) (own_zeros (0 : Int32)) (0 : Int32) (4 : Int32) (0 : Int32) x6_15 x8_34 x10_54 x12_75 T17.heap n0 Zp17 p17_0 f21 (by decide) (own_use (P := fun t => (4 : Int32) < (0 : Int32) → ((own_zeros (0 : Int32))).getD ((4 : Int32)).toNatClampNeg 0 = own_first (0 : Int32) t.1 t.2.2.1 t.2.2.2.2.1 t.2.2.2.2.2.2.1 (0 : Int32) (4 : Int32)) (by decide +kernel) hall)) hZ (wd_27 hw) (wd_26 hw) (by decide) (by decide)) (g := (mkF m 348 #[.val (.int p0), .val (.int p1), .val (.int p2), .val (.int p3), .val (.int p4), .val (.int (0 : Int32)), .val (.int x6_15), .val (.int x7_23), .val (.int x8_34), .val (.int x9_43), .val (.int x10_54), .val (.int x11_63), .val (.int x12_75), .val (.int x13_84), .val (.ref ob5), .val (.ref ob11), .val (.int (0 : Int32)), .val (.ref ob12), .val (.ref b_17)] [(.int (4 : Int32)), (.int (0 : Int32)), (.ref ob5), (.ref b_17)])) rfl (by rw [hml]; rfl) (argsL := [(.ref b_17), (.ref ob5), (.int (0 : Int32)), (.int (4 : Int32))]) (rest := []) (lenOf pd_4 rfl) rfl (by show 2 * 0 + _ ≤ _; exact Nat.le_of_eq rfl) (hb hby at_348) (fun _ _ => ⟨rfl, hs25, (by decide : 4 + 0 ≤ _), (by decide : 12 + 0 ≤ _)⟩)
    dsimp only [Pt.U, Pt.locs, Pt.cells, Pt.slots] at X26 l26 y26 z26 st26 hQ26
    subst l26 y26 z26
    obtain ⟨rfl, N26q, hs26⟩ := hQ26
    have N26 := Fr.app N25 N26q
    refine own_go st26 ?_
    show own_G p e below Φ T26 (mkF m 351 #[.val (.int p0), .val (.int p1), .val (.int p2), .val (.int p3), .val (.int p4), .val (.int (0 : Int32)), .val (.int x6_15), .val (.int x7_23), .val (.int x8_34), .val (.int x9_43), .val (.int x10_54), .val (.int x11_63), .val (.int x12_75), .val (.int x13_84), .val (.ref ob5), .val (.ref ob11), .val (.int (0 : Int32)), .val (.ref ob12), .val (.ref b_17)] [(.int (1 : Int32))])
    refine own_go (fun _ => XS.ifNo X26.here hx rfl (hb hby at_351) rfl (Jvm.Free.XT.i0_eq_f (by decide : ¬ ((1 : Int32) = (0 : Int32))))) ?_
    show own_G p e below Φ T26 (mkF m 354 #[.val (.int p0), .val (.int p1), .val (.int p2), .val (.int p3), .val (.int p4), .val (.int (0 : Int32)), .val (.int x6_15), .val (.int x7_23), .val (.int x8_34), .val (.int x9_43), .val (.int x10_54), .val (.int x11_63), .val (.int x12_75), .val (.int x13_84), .val (.ref ob5), .val (.ref ob11), .val (.int (0 : Int32)), .val (.ref ob12), .val (.ref b_17)] [])
    refine own_go (fun _ => XS.iconst X26.here hx rfl (hb hby at_354)) ?_
    show own_G p e below Φ T26 (mkF m 355 #[.val (.int p0), .val (.int p1), .val (.int p2), .val (.int p3), .val (.int p4), .val (.int (0 : Int32)), .val (.int x6_15), .val (.int x7_23), .val (.int x8_34), .val (.int x9_43), .val (.int x10_54), .val (.int x11_63), .val (.int x12_75), .val (.int x13_84), .val (.ref ob5), .val (.ref ob11), .val (.int (0 : Int32)), .val (.ref ob12), .val (.ref b_17)] [(.int (1 : Int32))])
    refine own_go (fun _ => XS.goto X26.here hx rfl (pc0 := 355) (pc' := 359) rfl (hb hby at_355) (by decide) (by decide)) ?_
    show own_G p e below Φ T26 (mkF m 359 #[.val (.int p0), .val (.int p1), .val (.int p2), .val (.int p3), .val (.int p4), .val (.int (0 : Int32)), .val (.int x6_15), .val (.int x7_23), .val (.int x8_34), .val (.int x9_43), .val (.int x10_54), .val (.int x11_63), .val (.int x12_75), .val (.int x13_84), .val (.ref ob5), .val (.ref ob11), .val (.int (0 : Int32)), .val (.ref ob12), .val (.ref b_17)] [(.int (1 : Int32))])
    rw [hΦ]
    refine own_ret X26 (v := some (.int (1 : Int32))) (fun h => by rw [Bd.returns] at h; cases h) (BodyLoose.notSynchronized Bd) (fun fs hr => retN X26 hx (t := .boolean) Bd.returns (by simp) (hb hby at_359) hr) ?_ (by decide) (by decide)
    rw [hs26]
    exact ⟨rfl, N26⟩
  · show own_G p e below Φ T10 (mkF m 120 #[.val (.int p0), .val (.int p1), .val (.int p2), .val (.int p3), .val (.int p4), .val (.int (1 : Int32)), .val (.int x6_15), .val (.int x7_23), .val (.int x8_34), .val (.int x9_43), .val (.int x10_54), .val (.int x11_63), .val (.int x12_75), .val (.int x13_84), .val (.ref ob5), .unset, .unset, .unset, .unset] [])
    refine own_go (fun _ => XS.iload X10.here hx rfl (hb hby at_120) rfl) ?_
    show own_G p e below Φ T10 (mkF m 122 #[.val (.int p0), .val (.int p1), .val (.int p2), .val (.int p3), .val (.int p4), .val (.int (1 : Int32)), .val (.int x6_15), .val (.int x7_23), .val (.int x8_34), .val (.int x9_43), .val (.int x10_54), .val (.int x11_63), .val (.int x12_75), .val (.int x13_84), .val (.ref ob5), .unset, .unset, .unset, .unset] [(.int (1 : Int32))])
    obtain ⟨T27, h27, ka27, X27, e27, E27, A27, st27⟩ := newP (aty := .int) X10 hx hZ (wd_5 hw) e10 (g := (mkF m 122 #[.val (.int p0), .val (.int p1), .val (.int p2), .val (.int p3), .val (.int p4), .val (.int (1 : Int32)), .val (.int x6_15), .val (.int x7_23), .val (.int x8_34), .val (.int x9_43), .val (.int x10_54), .val (.int x11_63), .val (.int x12_75), .val (.int x13_84), .val (.ref ob5), .unset, .unset, .unset, .unset] [(.int (1 : Int32))])) rfl (hb hby at_122) rfl (by decide) (cap := 1) (by decide) (by decide) (by decide) (by decide)
    obtain ⟨ob27, g27⟩ : ∃ z, z = h10.size := ⟨_, rfl⟩
    rw [← g27] at A27 st27
    have ne_ob5_ob27 : ob5 ≠ ob27 := Nat.ne_of_lt (Nat.lt_of_lt_of_le V10.lt (Nat.le_of_eq g27.symm))
    have V27 : Arv Z h27 ob27 ka27 .int (1 : Int32) [(.int (0 : Int32))] (.int (0 : Int32)) := (Arv.new A27 (by decide)).pad (pad_rep [] (.int (0 : Int32)) 1)
    have g_ob27 : n0 ≤ ob27 := Nat.le_trans Zp10 (Nat.le_of_eq g27.symm)
    have Zp27 : n0 ≤ h27.size := Nat.le_trans Zp10 E27.1
    refine own_go st27 ?_
    show own_G p e below Φ T27 (mkF m 124 #[.val (.int p0), .val (.int p1), .val (.int p2), .val (.int p3), .val (.int p4), .val (.int (1 : Int32)), .val (.int x6_15), .val (.int x7_23), .val (.int x8_34), .val (.int x9_43), .val (.int x10_54), .val (.int x11_63), .val (.int x12_75), .val (.int x13_84), .val (.ref ob5), .unset, .unset, .unset, .unset] [(.ref ob27)])
    refine own_go (fun _ => XS.astore X27.here hx rfl (hb hby at_124) rfl rfl (l' := #[.val (.int p0), .val (.int p1), .val (.int p2), .val (.int p3), .val (.int p4), .val (.int (1 : Int32)), .val (.int x6_15), .val (.int x7_23), .val (.int x8_34), .val (.int x9_43), .val (.int x10_54), .val (.int x11_63), .val (.int x12_75), .val (.int x13_84), .val (.ref ob5), .val (.ref ob27), .unset, .unset, .unset]) rfl) ?_
    show own_G p e below Φ T27 (mkF m 126 #[.val (.int p0), .val (.int p1), .val (.int p2), .val (.int p3), .val (.int p4), .val (.int (1 : Int32)), .val (.int x6_15), .val (.int x7_23), .val (.int x8_34), .val (.int x9_43), .val (.int x10_54), .val (.int x11_63), .val (.int x12_75), .val (.int x13_84), .val (.ref ob5), .val (.ref ob27), .unset, .unset, .unset] [])
    refine own_go (fun _ => XS.iload X27.here hx rfl (hb hby at_126) rfl) ?_
    show own_G p e below Φ T27 (mkF m 128 #[.val (.int p0), .val (.int p1), .val (.int p2), .val (.int p3), .val (.int p4), .val (.int (1 : Int32)), .val (.int x6_15), .val (.int x7_23), .val (.int x8_34), .val (.int x9_43), .val (.int x10_54), .val (.int x11_63), .val (.int x12_75), .val (.int x13_84), .val (.ref ob5), .val (.ref ob27), .unset, .unset, .unset] [(.int (1 : Int32))])
    refine own_go (fun _ => XS.ifNo X27.here hx rfl (hb hby at_128) rfl (Jvm.Free.XT.i0_le_f (by decide : ((0 : Int32) < (1 : Int32))))) ?_
    show own_G p e below Φ T27 (mkF m 131 #[.val (.int p0), .val (.int p1), .val (.int p2), .val (.int p3), .val (.int p4), .val (.int (1 : Int32)), .val (.int x6_15), .val (.int x7_23), .val (.int x8_34), .val (.int x9_43), .val (.int x10_54), .val (.int x11_63), .val (.int x12_75), .val (.int x13_84), .val (.ref ob5), .val (.ref ob27), .unset, .unset, .unset] [])
    refine own_go (fun _ => XS.aload X27.here hx rfl (hb hby at_131) rfl rfl) ?_
    show own_G p e below Φ T27 (mkF m 133 #[.val (.int p0), .val (.int p1), .val (.int p2), .val (.int p3), .val (.int p4), .val (.int (1 : Int32)), .val (.int x6_15), .val (.int x7_23), .val (.int x8_34), .val (.int x9_43), .val (.int x10_54), .val (.int x11_63), .val (.int x12_75), .val (.int x13_84), .val (.ref ob5), .val (.ref ob27), .unset, .unset, .unset] [(.ref ob27)])
    refine own_go (fun _ => XS.iconst X27.here hx rfl (hb hby at_133)) ?_
    show own_G p e below Φ T27 (mkF m 134 #[.val (.int p0), .val (.int p1), .val (.int p2), .val (.int p3), .val (.int p4), .val (.int (1 : Int32)), .val (.int x6_15), .val (.int x7_23), .val (.int x8_34), .val (.int x9_43), .val (.int x10_54), .val (.int x11_63), .val (.int x12_75), .val (.int x13_84), .val (.ref ob5), .val (.ref ob27), .unset, .unset, .unset] [(.int (0 : Int32)), (.ref ob27)])
    refine own_go (fun _ => XS.iconst X27.here hx rfl (hb hby at_134)) ?_
    show own_G p e below Φ T27 (mkF m 135 #[.val (.int p0), .val (.int p1), .val (.int p2), .val (.int p3), .val (.int p4), .val (.int (1 : Int32)), .val (.int x6_15), .val (.int x7_23), .val (.int x8_34), .val (.int x9_43), .val (.int x10_54), .val (.int x11_63), .val (.int x12_75), .val (.int x13_84), .val (.ref ob5), .val (.ref ob27), .unset, .unset, .unset] [(.int (0 : Int32)), (.int (0 : Int32)), (.ref ob27)])
    obtain ⟨cl28, Ar28, q28, S28, M28, H28, G28⟩ := id V27
    have hin28 : ¬ ((0 : Int32) < 0 ∨ cl28.slots.size ≤ ((0 : Int32)).toNatClampNeg) := inb_of S28 ⟨by decide, by decide⟩
    obtain ⟨T28, h28, X28, e28, W28, st28⟩ := stI X27 hx hZ e27 Ar28 (j := (0 : Int32)) hin28 (g := (mkF m 135 #[.val (.int p0), .val (.int p1), .val (.int p2), .val (.int p3), .val (.int p4), .val (.int (1 : Int32)), .val (.int x6_15), .val (.int x7_23), .val (.int x8_34), .val (.int x9_43), .val (.int x10_54), .val (.int x11_63), .val (.int x12_75), .val (.int x13_84), .val (.ref ob5), .val (.ref ob27), .unset, .unset, .unset] [(.int (0 : Int32)), (.int (0 : Int32)), (.ref ob27)])) rfl rfl (hb hby at_135)
    refine own_go st28 ?_
    have V28 : Arv Z h28 ob27 ka27 .int (1 : Int32) [(.int (0 : Int32))] (.int (0 : Int32)) := Arv.set Ar28 q28 S28 M28 H28 G28 rfl W28 0 rfl (Nat.le_of_ble_eq_true rfl)
    have N28 := Fr.snoc X28 N10 g_ob27
    have Zp28 : n0 ≤ h28.size := Nat.le_trans Zp27 (Keep.of_wr W28).1
    show own_G p e below Φ T28 (mkF m 136 #[.val (.int p0), .val (.int p1), .val (.int p2), .val (.int p3), .val (.int p4), .val (.int (1 : Int32)), .val (.int x6_15), .val (.int x7_23), .val (.int x8_34), .val (.int x9_43), .val (.int x10_54), .val (.int x11_63), .val (.int x12_75), .val (.int x13_84), .val (.ref ob5), .val (.ref ob27), .unset, .unset, .unset] [])
    refine own_go (fun _ => XS.iload X28.here hx rfl (hb hby at_136) rfl) ?_
    show own_G p e below Φ T28 (mkF m 138 #[.val (.int p0), .val (.int p1), .val (.int p2), .val (.int p3), .val (.int p4), .val (.int (1 : Int32)), .val (.int x6_15), .val (.int x7_23), .val (.int x8_34), .val (.int x9_43), .val (.int x10_54), .val (.int x11_63), .val (.int x12_75), .val (.int x13_84), .val (.ref ob5), .val (.ref ob27), .unset, .unset, .unset] [(.int (1 : Int32))])
    refine own_go (fun _ => XS.iconst X28.here hx rfl (hb hby at_138)) ?_
    show own_G p e below Φ T28 (mkF m 139 #[.val (.int p0), .val (.int p1), .val (.int p2), .val (.int p3), .val (.int p4), .val (.int (1 : Int32)), .val (.int x6_15), .val (.int x7_23), .val (.int x8_34), .val (.int x9_43), .val (.int x10_54), .val (.int x11_63), .val (.int x12_75), .val (.int x13_84), .val (.ref ob5), .val (.ref ob27), .unset, .unset, .unset] [(.int (1 : Int32)), (.int (1 : Int32))])
    refine own_go (fun _ => XS.icmpYes X28.here hx rfl (pc0 := 139) (pc' := 148) rfl (hb hby at_139) rfl (Jvm.Free.XT.ii_le_t (by decide : ¬ ((1 : Int32) < (1 : Int32)))) (by decide) (by decide)) ?_
    show own_G p e below Φ T28 (mkF m 148 #[.val (.int p0), .val (.int p1), .val (.int p2), .val (.int p3), .val (.int p4), .val (.int (1 : Int32)), .val (.int x6_15), .val (.int x7_23), .val (.int x8_34), .val (.int x9_43), .val (.int x10_54), .val (.int x11_63), .val (.int x12_75), .val (.int x13_84), .val (.ref ob5), .val (.ref ob27), .unset, .unset, .unset] [])
    refine own_go (fun _ => XS.iload X28.here hx rfl (hb hby at_148) rfl) ?_
    show own_G p e below Φ T28 (mkF m 150 #[.val (.int p0), .val (.int p1), .val (.int p2), .val (.int p3), .val (.int p4), .val (.int (1 : Int32)), .val (.int x6_15), .val (.int x7_23), .val (.int x8_34), .val (.int x9_43), .val (.int x10_54), .val (.int x11_63), .val (.int x12_75), .val (.int x13_84), .val (.ref ob5), .val (.ref ob27), .unset, .unset, .unset] [(.int (1 : Int32))])
    refine own_go (fun _ => XS.iconst X28.here hx rfl (hb hby at_150)) ?_
    show own_G p e below Φ T28 (mkF m 151 #[.val (.int p0), .val (.int p1), .val (.int p2), .val (.int p3), .val (.int p4), .val (.int (1 : Int32)), .val (.int x6_15), .val (.int x7_23), .val (.int x8_34), .val (.int x9_43), .val (.int x10_54), .val (.int x11_63), .val (.int x12_75), .val (.int x13_84), .val (.ref ob5), .val (.ref ob27), .unset, .unset, .unset] [(.int (2 : Int32)), (.int (1 : Int32))])
    refine own_go (fun _ => XS.icmpYes X28.here hx rfl (pc0 := 151) (pc' := 160) rfl (hb hby at_151) rfl (Jvm.Free.XT.ii_le_t (by decide : ¬ ((2 : Int32) < (1 : Int32)))) (by decide) (by decide)) ?_
    show own_G p e below Φ T28 (mkF m 160 #[.val (.int p0), .val (.int p1), .val (.int p2), .val (.int p3), .val (.int p4), .val (.int (1 : Int32)), .val (.int x6_15), .val (.int x7_23), .val (.int x8_34), .val (.int x9_43), .val (.int x10_54), .val (.int x11_63), .val (.int x12_75), .val (.int x13_84), .val (.ref ob5), .val (.ref ob27), .unset, .unset, .unset] [])
    refine own_go (fun _ => XS.iload X28.here hx rfl (hb hby at_160) rfl) ?_
    show own_G p e below Φ T28 (mkF m 162 #[.val (.int p0), .val (.int p1), .val (.int p2), .val (.int p3), .val (.int p4), .val (.int (1 : Int32)), .val (.int x6_15), .val (.int x7_23), .val (.int x8_34), .val (.int x9_43), .val (.int x10_54), .val (.int x11_63), .val (.int x12_75), .val (.int x13_84), .val (.ref ob5), .val (.ref ob27), .unset, .unset, .unset] [(.int (1 : Int32))])
    refine own_go (fun _ => XS.iconst X28.here hx rfl (hb hby at_162)) ?_
    show own_G p e below Φ T28 (mkF m 163 #[.val (.int p0), .val (.int p1), .val (.int p2), .val (.int p3), .val (.int p4), .val (.int (1 : Int32)), .val (.int x6_15), .val (.int x7_23), .val (.int x8_34), .val (.int x9_43), .val (.int x10_54), .val (.int x11_63), .val (.int x12_75), .val (.int x13_84), .val (.ref ob5), .val (.ref ob27), .unset, .unset, .unset] [(.int (3 : Int32)), (.int (1 : Int32))])
    refine own_go (fun _ => XS.icmpYes X28.here hx rfl (pc0 := 163) (pc' := 172) rfl (hb hby at_163) rfl (Jvm.Free.XT.ii_le_t (by decide : ¬ ((3 : Int32) < (1 : Int32)))) (by decide) (by decide)) ?_
    show own_G p e below Φ T28 (mkF m 172 #[.val (.int p0), .val (.int p1), .val (.int p2), .val (.int p3), .val (.int p4), .val (.int (1 : Int32)), .val (.int x6_15), .val (.int x7_23), .val (.int x8_34), .val (.int x9_43), .val (.int x10_54), .val (.int x11_63), .val (.int x12_75), .val (.int x13_84), .val (.ref ob5), .val (.ref ob27), .unset, .unset, .unset] [])
    refine own_go (fun _ => XS.iload X28.here hx rfl (hb hby at_172) rfl) ?_
    show own_G p e below Φ T28 (mkF m 174 #[.val (.int p0), .val (.int p1), .val (.int p2), .val (.int p3), .val (.int p4), .val (.int (1 : Int32)), .val (.int x6_15), .val (.int x7_23), .val (.int x8_34), .val (.int x9_43), .val (.int x10_54), .val (.int x11_63), .val (.int x12_75), .val (.int x13_84), .val (.ref ob5), .val (.ref ob27), .unset, .unset, .unset] [(.int (1 : Int32))])
    refine own_go (fun _ => XS.iconst X28.here hx rfl (hb hby at_174)) ?_
    show own_G p e below Φ T28 (mkF m 175 #[.val (.int p0), .val (.int p1), .val (.int p2), .val (.int p3), .val (.int p4), .val (.int (1 : Int32)), .val (.int x6_15), .val (.int x7_23), .val (.int x8_34), .val (.int x9_43), .val (.int x10_54), .val (.int x11_63), .val (.int x12_75), .val (.int x13_84), .val (.ref ob5), .val (.ref ob27), .unset, .unset, .unset] [(.int (4 : Int32)), (.int (1 : Int32))])
    refine own_go (fun _ => XS.icmpYes X28.here hx rfl (pc0 := 175) (pc' := 184) rfl (hb hby at_175) rfl (Jvm.Free.XT.ii_le_t (by decide : ¬ ((4 : Int32) < (1 : Int32)))) (by decide) (by decide)) ?_
    show own_G p e below Φ T28 (mkF m 184 #[.val (.int p0), .val (.int p1), .val (.int p2), .val (.int p3), .val (.int p4), .val (.int (1 : Int32)), .val (.int x6_15), .val (.int x7_23), .val (.int x8_34), .val (.int x9_43), .val (.int x10_54), .val (.int x11_63), .val (.int x12_75), .val (.int x13_84), .val (.ref ob5), .val (.ref ob27), .unset, .unset, .unset] [])
    refine own_go (fun _ => XS.iconst X28.here hx rfl (hb hby at_184)) ?_
    show own_G p e below Φ T28 (mkF m 185 #[.val (.int p0), .val (.int p1), .val (.int p2), .val (.int p3), .val (.int p4), .val (.int (1 : Int32)), .val (.int x6_15), .val (.int x7_23), .val (.int x8_34), .val (.int x9_43), .val (.int x10_54), .val (.int x11_63), .val (.int x12_75), .val (.int x13_84), .val (.ref ob5), .val (.ref ob27), .unset, .unset, .unset] [(.int (0 : Int32))])
    refine own_go (fun _ => XS.istore X28.here hx rfl (hb hby at_185) rfl (l' := #[.val (.int p0), .val (.int p1), .val (.int p2), .val (.int p3), .val (.int p4), .val (.int (1 : Int32)), .val (.int x6_15), .val (.int x7_23), .val (.int x8_34), .val (.int x9_43), .val (.int x10_54), .val (.int x11_63), .val (.int x12_75), .val (.int x13_84), .val (.ref ob5), .val (.ref ob27), .val (.int (0 : Int32)), .unset, .unset]) rfl) ?_
    show own_G p e below Φ T28 (mkF m 187 #[.val (.int p0), .val (.int p1), .val (.int p2), .val (.int p3), .val (.int p4), .val (.int (1 : Int32)), .val (.int x6_15), .val (.int x7_23), .val (.int x8_34), .val (.int x9_43), .val (.int x10_54), .val (.int x11_63), .val (.int x12_75), .val (.int x13_84), .val (.ref ob5), .val (.ref ob27), .val (.int (0 : Int32)), .unset, .unset] [])
    refine own_go (fun _ => XS.iload X28.here hx rfl (hb hby at_187) rfl) ?_
    show own_G p e below Φ T28 (mkF m 189 #[.val (.int p0), .val (.int p1), .val (.int p2), .val (.int p3), .val (.int p4), .val (.int (1 : Int32)), .val (.int x6_15), .val (.int x7_23), .val (.int x8_34), .val (.int x9_43), .val (.int x10_54), .val (.int x11_63), .val (.int x12_75), .val (.int x13_84), .val (.ref ob5), .val (.ref ob27), .val (.int (0 : Int32)), .unset, .unset] [(.int (1 : Int32))])
    refine own_go (fun _ => XS.iconst X28.here hx rfl (hb hby at_189)) ?_
    show own_G p e below Φ T28 (mkF m 190 #[.val (.int p0), .val (.int p1), .val (.int p2), .val (.int p3), .val (.int p4), .val (.int (1 : Int32)), .val (.int x6_15), .val (.int x7_23), .val (.int x8_34), .val (.int x9_43), .val (.int x10_54), .val (.int x11_63), .val (.int x12_75), .val (.int x13_84), .val (.ref ob5), .val (.ref ob27), .val (.int (0 : Int32)), .unset, .unset] [(.int (1 : Int32)), (.int (1 : Int32))])
    refine own_go (fun _ => XS.icmpNo X28.here hx rfl (hb hby at_190) rfl (Jvm.Free.XT.ii_ne_f (by decide : ((1 : Int32) = (1 : Int32))))) ?_
    show own_G p e below Φ T28 (mkF m 193 #[.val (.int p0), .val (.int p1), .val (.int p2), .val (.int p3), .val (.int p4), .val (.int (1 : Int32)), .val (.int x6_15), .val (.int x7_23), .val (.int x8_34), .val (.int x9_43), .val (.int x10_54), .val (.int x11_63), .val (.int x12_75), .val (.int x13_84), .val (.ref ob5), .val (.ref ob27), .val (.int (0 : Int32)), .unset, .unset] [])
    refine own_go (fun _ => XS.iconst X28.here hx rfl (hb hby at_193)) ?_
    show own_G p e below Φ T28 (mkF m 194 #[.val (.int p0), .val (.int p1), .val (.int p2), .val (.int p3), .val (.int p4), .val (.int (1 : Int32)), .val (.int x6_15), .val (.int x7_23), .val (.int x8_34), .val (.int x9_43), .val (.int x10_54), .val (.int x11_63), .val (.int x12_75), .val (.int x13_84), .val (.ref ob5), .val (.ref ob27), .val (.int (0 : Int32)), .unset, .unset] [(.int (1 : Int32))])
    refine own_go (fun _ => XS.istore X28.here hx rfl (hb hby at_194) rfl (l' := #[.val (.int p0), .val (.int p1), .val (.int p2), .val (.int p3), .val (.int p4), .val (.int (1 : Int32)), .val (.int x6_15), .val (.int x7_23), .val (.int x8_34), .val (.int x9_43), .val (.int x10_54), .val (.int x11_63), .val (.int x12_75), .val (.int x13_84), .val (.ref ob5), .val (.ref ob27), .val (.int (1 : Int32)), .unset, .unset]) rfl) ?_
    show own_G p e below Φ T28 (mkF m 196 #[.val (.int p0), .val (.int p1), .val (.int p2), .val (.int p3), .val (.int p4), .val (.int (1 : Int32)), .val (.int x6_15), .val (.int x7_23), .val (.int x8_34), .val (.int x9_43), .val (.int x10_54), .val (.int x11_63), .val (.int x12_75), .val (.int x13_84), .val (.ref ob5), .val (.ref ob27), .val (.int (1 : Int32)), .unset, .unset] [])
    refine own_go (fun _ => XS.goto X28.here hx rfl (pc0 := 196) (pc' := 256) rfl (hb hby at_196) (by decide) (by decide)) ?_
    show own_G p e below Φ T28 (mkF m 256 #[.val (.int p0), .val (.int p1), .val (.int p2), .val (.int p3), .val (.int p4), .val (.int (1 : Int32)), .val (.int x6_15), .val (.int x7_23), .val (.int x8_34), .val (.int x9_43), .val (.int x10_54), .val (.int x11_63), .val (.int x12_75), .val (.int x13_84), .val (.ref ob5), .val (.ref ob27), .val (.int (1 : Int32)), .unset, .unset] [])
    obtain ⟨T29, h29, X29, e29, E29, A29, D29, -, st29⟩ := newO X28 hx hZ hown (wd_6 hw) (wd_7 hw) (wd_8 hw) e28 (g := (mkF m 256 #[.val (.int p0), .val (.int p1), .val (.int p2), .val (.int p3), .val (.int p4), .val (.int (1 : Int32)), .val (.int x6_15), .val (.int x7_23), .val (.int x8_34), .val (.int x9_43), .val (.int x10_54), .val (.int x11_63), .val (.int x12_75), .val (.int x13_84), .val (.ref ob5), .val (.ref ob27), .val (.int (1 : Int32)), .unset, .unset] [])) rfl (hb hby at_256) (by decide) (by decide)
    obtain ⟨ob29, g29⟩ : ∃ z, z = h28.size := ⟨_, rfl⟩
    rw [← g29] at A29 D29 st29
    have f30 : Arv Z h27 ob5 ka5 .int (5 : Int32) [(.int (0 : Int32)), (.int x6_15), (.int x8_34), (.int x10_54), (.int x12_75)] (.int (0 : Int32)) := V10.ext E27
    have f31 : Arv Z h28 ob5 ka5 .int (5 : Int32) [(.int (0 : Int32)), (.int x6_15), (.int x8_34), (.int x10_54), (.int x12_75)] (.int (0 : Int32)) := f30.other W28 ne_ob5_ob27
    have ne_ob5_ob29 : ob5 ≠ ob29 := Nat.ne_of_lt (Nat.lt_of_lt_of_le f31.lt (Nat.le_of_eq g29.symm))
    have ne_ob27_ob29 : ob27 ≠ ob29 := Nat.ne_of_lt (Nat.lt_of_lt_of_le V28.lt (Nat.le_of_eq g29.symm))
    have g_ob29 : n0 ≤ ob29 := Nat.le_trans Zp28 (Nat.le_of_eq g29.symm)
    have Zp29 : n0 ≤ h29.size := Nat.le_trans Zp28 E29.1
    refine own_go st29 ?_
    have F_m_aClasses_ob29 : Fld Z h29 ob29 "com/example/edgewarden/edgewarden/graph/Likeness" "m_aClasses" "[I" .null := D29 (Or.inr (wd_16 hw)) (ty := (.array .int)) (by decide)
    have F_m_nClassCount_ob29 : Fld Z h29 ob29 "com/example/edgewarden/edgewarden/graph/Likeness" "m_nClassCount" "I" (.int (0 : Int32)) := D29 (Or.inr (wd_18 hw)) (ty := .int) (by decide)
    show own_G p e below Φ T29 (mkF m 259 #[.val (.int p0), .val (.int p1), .val (.int p2), .val (.int p3), .val (.int p4), .val (.int (1 : Int32)), .val (.int x6_15), .val (.int x7_23), .val (.int x8_34), .val (.int x9_43), .val (.int x10_54), .val (.int x11_63), .val (.int x12_75), .val (.int x13_84), .val (.ref ob5), .val (.ref ob27), .val (.int (1 : Int32)), .unset, .unset] [(.ref ob29)])
    refine own_go (fun _ => XS.dup X29.here hx rfl (hb hby at_259) rfl rfl) ?_
    show own_G p e below Φ T29 (mkF m 260 #[.val (.int p0), .val (.int p1), .val (.int p2), .val (.int p3), .val (.int p4), .val (.int (1 : Int32)), .val (.int x6_15), .val (.int x7_23), .val (.int x8_34), .val (.int x9_43), .val (.int x10_54), .val (.int x11_63), .val (.int x12_75), .val (.int x13_84), .val (.ref ob5), .val (.ref ob27), .val (.int (1 : Int32)), .unset, .unset] [(.ref ob29), (.ref ob29)])
    refine own_go (fun _ => XS.aload X29.here hx rfl (hb hby at_260) rfl rfl) ?_
    show own_G p e below Φ T29 (mkF m 262 #[.val (.int p0), .val (.int p1), .val (.int p2), .val (.int p3), .val (.int p4), .val (.int (1 : Int32)), .val (.int x6_15), .val (.int x7_23), .val (.int x8_34), .val (.int x9_43), .val (.int x10_54), .val (.int x11_63), .val (.int x12_75), .val (.int x13_84), .val (.ref ob5), .val (.ref ob27), .val (.int (1 : Int32)), .unset, .unset] [(.ref ob27), (.ref ob29), (.ref ob29)])
    have f32 : Arv Z h29 ob27 ka27 .int (1 : Int32) [(.int (0 : Int32))] (.int (0 : Int32)) := V28.ext E29
    obtain ⟨_, _, ⟨T33, zL33, zk33, zn33⟩, -, X33, ⟨Lc33, hQ33, l33, y33, z33⟩, st33⟩ := X29.specialBack hx (y := (⟨"com/example/edgewarden/edgewarden/graph/Likeness", "<init>", "([I)V"⟩ : MethodName)) rfl hown (mvT hZ (wd_9 hw)) (mvT hZ (wd_10 hw)) (mvT hZ (wd_11 hw)) (by decide) (backOf (W := 1) (rmI1 l Z a0 hw [] ob29 ob27 ka27 (0 : Int32) .null (.int (0 : Int32)) h29 n0 Zp29 A29 F_m_aClasses_ob29 F_m_nClassCount_ob29 g_ob29 f32 ne_ob27_ob29) hZ (wd_11 hw) (wd_8 hw) (by decide) (by decide)) (g := (mkF m 262 #[.val (.int p0), .val (.int p1), .val (.int p2), .val (.int p3), .val (.int p4), .val (.int (1 : Int32)), .val (.int x6_15), .val (.int x7_23), .val (.int x8_34), .val (.int x9_43), .val (.int x10_54), .val (.int x11_63), .val (.int x12_75), .val (.int x13_84), .val (.ref ob5), .val (.ref ob27), .val (.int (1 : Int32)), .unset, .unset] [(.ref ob27), (.ref ob29), (.ref ob29)])) rfl (by rw [hml]; rfl) (Steps.refl _) (a := ob29) (argsL := [(.ref ob27)]) (rest := [(.ref ob29)]) (lenOf pd_2 rfl) rfl (by show 2 * 0 + _ ≤ _; exact Nat.le_of_eq rfl) (hb hby at_262) (fun _ _ => ⟨rfl, e29, (by decide : 3 + 0 ≤ _), (by decide : 8 + 0 ≤ _)⟩)
    dsimp only [Pt.U, Pt.locs, Pt.cells, Pt.slots] at X33 l33 y33 z33 st33 hQ33
    subst l33 y33 z33
    obtain ⟨rfl, N33q, Kq33, p33_0, p33_1, p33_2⟩ := hQ33
    have N33 := Fr.app N28 N33q
    refine own_on st33 ?_
    have Zp33 : n0 ≤ T33.heap.size := Nat.le_trans Zp29 Kq33.1
    show own_G p e below Φ T33 (mkF m 265 #[.val (.int p0), .val (.int p1), .val (.int p2), .val (.int p3), .val (.int p4), .val (.int (1 : Int32)), .val (.int x6_15), .val (.int x7_23), .val (.int x8_34), .val (.int x9_43), .val (.int x10_54), .val (.int x11_63), .val (.int x12_75), .val (.int x13_84), .val (.ref ob5), .val (.ref ob27), .val (.int (1 : Int32)), .unset, .unset] [(.ref ob29)])
    refine own_go (fun _ => XS.astore X33.here hx rfl (hb hby at_265) rfl rfl (l' := #[.val (.int p0), .val (.int p1), .val (.int p2), .val (.int p3), .val (.int p4), .val (.int (1 : Int32)), .val (.int x6_15), .val (.int x7_23), .val (.int x8_34), .val (.int x9_43), .val (.int x10_54), .val (.int x11_63), .val (.int x12_75), .val (.int x13_84), .val (.ref ob5), .val (.ref ob27), .val (.int (1 : Int32)), .val (.ref ob29), .unset]) rfl) ?_
    show own_G p e below Φ T33 (mkF m 267 #[.val (.int p0), .val (.int p1), .val (.int p2), .val (.int p3), .val (.int p4), .val (.int (1 : Int32)), .val (.int x6_15), .val (.int x7_23), .val (.int x8_34), .val (.int x9_43), .val (.int x10_54), .val (.int x11_63), .val (.int x12_75), .val (.int x13_84), .val (.ref ob5), .val (.ref ob27), .val (.int (1 : Int32)), .val (.ref ob29), .unset] [])
    refine own_go (fun _ => XS.aload X33.here hx rfl (hb hby at_267) rfl rfl) ?_
    show own_G p e below Φ T33 (mkF m 269 #[.val (.int p0), .val (.int p1), .val (.int p2), .val (.int p3), .val (.int p4), .val (.int (1 : Int32)), .val (.int x6_15), .val (.int x7_23), .val (.int x8_34), .val (.int x9_43), .val (.int x10_54), .val (.int x11_63), .val (.int x12_75), .val (.int x13_84), .val (.ref ob5), .val (.ref ob27), .val (.int (1 : Int32)), .val (.ref ob29), .unset] [(.ref ob29)])
    have f34 : Arv Z T33.heap ob27 ka27 .int (1 : Int32) [(.int (0 : Int32))] (.int (0 : Int32)) := f32.keep Kq33 (ninS ne_ob27_ob29 nin0)
    obtain ⟨cq35, kq35, q35a, q35b, q35c⟩ := isOf hZ rfl p33_0
    obtain ⟨_, _, ⟨T35, zL35, zk35, zn35⟩, -, X35, ⟨Lc35, hQ35, l35, y35, z35⟩, st35⟩ := X33.virtualBack hx (y := (⟨"com/example/edgewarden/edgewarden/graph/Likeness", "getFirstMembers", "()[I"⟩ : MethodName)) (z := (⟨"com/example/edgewarden/edgewarden/graph/Likeness", "getFirstMembers", "()[I"⟩ : MethodName)) hown (mvT hZ (wd_19 hw)) (mvT hZ (wd_20 hw)) (notFace_of_selects (args := #[]) (mvT hZ (wd_22 hw))) (mvT hZ (wd_22 hw)) (mvT hZ (wd_21 hw)) (by decide) (backOf (W := 0) (rmS1 l Z a0 hw [] ob29 ob27 ka27 (own_max (0 : Int32) ((0 : Int32) + (1 : Int32))) (0 : Int32) T33.heap n0 Zp33 p33_2 p33_1 f34 (own_use (P := fun t => ¬ (own_max (0 : Int32) ((0 : Int32) + (1 : Int32))) < 0) (by decide +kernel) hall) (own_use (P := fun t => ((own_max (0 : Int32) ((0 : Int32) + (1 : Int32)))).toNatClampNeg ≤ 5) (by decide +kernel) hall) (own_use (P := fun t => ¬ (0 : Int32) < 0 ∧ (0 : Int32) < (own_max (0 : Int32) ((0 : Int32) + (1 : Int32)))) (by decide +kernel) hall)) hZ (wd_23 hw) (wd_8 hw) (by decide) (by decide)) q35a q35c (g := (mkF m 269 #[.val (.int p0), .val (.int p1), .val (.int p2), .val (.int p3), .val (.int p4), .val (.int (1 : Int32)), .val (.int x6_15), .val (.int x7_23), .val (.int x8_34), .val (.int x9_43), .val (.int x10_54), .val (.int x11_63), .val (.int x12_75), .val (.int x13_84), .val (.ref ob5), .val (.ref ob27), .val (.int (1 : Int32)), .val (.ref ob29), .unset] [(.ref ob29)])) rfl (by rw [hml]; rfl) (Steps.refl _) (argsL := []) (rest := []) (lenOf pd_3 rfl) rfl (by show 2 * 0 + _ ≤ _; exact Nat.le_of_eq rfl) (hb hby at_269) (fun _ _ => ⟨rfl, rfl, (by decide : 3 + 1 ≤ _), (by decide : 8 + 5 ≤ _)⟩)
    dsimp only [Pt.U, Pt.locs, Pt.cells, Pt.slots] at X35 l35 y35 z35 st35 hQ35
    subst l35 y35 z35
    obtain ⟨b_35, ns_b_35, kb_35, rfl, N35q, Kq35, p35_0⟩ := hQ35
    have N35 := Fr.app N33 N35q
    refine own_on st35 ?_
    have f36 : Arv Z h29 ob5 ka5 .int (5 : Int32) [(.int (0 : Int32)), (.int x6_15), (.int x8_34), (.int x10_54), (.int x12_75)] (.int (0 : Int32)) := f31.ext E29
    have f37 : Arv Z T33.heap ob5 ka5 .int (5 : Int32) [(.int (0 : Int32)), (.int x6_15), (.int x8_34), (.int x10_54), (.int x12_75)] (.int (0 : Int32)) := f36.keep Kq33 (ninS ne_ob5_ob29 nin0)
    have ne_ob5_b_35 : ob5 ≠ b_35 := Nat.ne_of_lt (Nat.lt_of_lt_of_le f37.lt ns_b_35)
    have ne_ob27_b_35 : ob27 ≠ b_35 := Nat.ne_of_lt (Nat.lt_of_lt_of_le f34.lt ns_b_35)
    have ne_ob29_b_35 : ob29 ≠ b_35 := Nat.ne_of_lt (Nat.lt_of_lt_of_le p33_0.lt ns_b_35)
    have g_b_35 : n0 ≤ b_35 := Nat.le_trans Zp33 ns_b_35
    have Zp35 : n0 ≤ T35.heap.size := Nat.le_trans Zp33 Kq35.1
    show own_G p e below Φ T35 (mkF m 272 #[.val (.int p0), .val (.int p1), .val (.int p2), .val (.int p3), .val (.int p4), .val (.int (1 : Int32)), .val (.int x6_15), .val (.int x7_23), .val (.int x8_34), .val (.int x9_43), .val (.int x10_54), .val (.int x11_63), .val (.int x12_75), .val (.int x13_84), .val (.ref ob5), .val (.ref ob27), .val (.int (1 : Int32)), .val (.ref ob29), .unset] [(.ref b_35)])
    refine own_go (fun _ => XS.astore X35.here hx rfl (hb hby at_272) rfl rfl (l' := #[.val (.int p0), .val (.int p1), .val (.int p2), .val (.int p3), .val (.int p4), .val (.int (1 : Int32)), .val (.int x6_15), .val (.int x7_23), .val (.int x8_34), .val (.int x9_43), .val (.int x10_54), .val (.int x11_63), .val (.int x12_75), .val (.int x13_84), .val (.ref ob5), .val (.ref ob27), .val (.int (1 : Int32)), .val (.ref ob29), .val (.ref b_35)]) rfl) ?_
    show own_G p e below Φ T35 (mkF m 274 #[.val (.int p0), .val (.int p1), .val (.int p2), .val (.int p3), .val (.int p4), .val (.int (1 : Int32)), .val (.int x6_15), .val (.int x7_23), .val (.int x8_34), .val (.int x9_43), .val (.int x10_54), .val (.int x11_63), .val (.int x12_75), .val (.int x13_84), .val (.ref ob5), .val (.ref ob27), .val (.int (1 : Int32)), .val (.ref ob29), .val (.ref b_35)] [])
    refine own_go (fun _ => XS.aload X35.here hx rfl (hb hby at_274) rfl rfl) ?_
    show own_G p e below Φ T35 (mkF m 276 #[.val (.int p0), .val (.int p1), .val (.int p2), .val (.int p3), .val (.int p4), .val (.int (1 : Int32)), .val (.int x6_15), .val (.int x7_23), .val (.int x8_34), .val (.int x9_43), .val (.int x10_54), .val (.int x11_63), .val (.int x12_75), .val (.int x13_84), .val (.ref ob5), .val (.ref ob27), .val (.int (1 : Int32)), .val (.ref ob29), .val (.ref b_35)] [(.ref b_35)])
    refine own_go (fun _ => XS.ifnullNo X35.here hx rfl (hb hby at_276) rfl) ?_
    show own_G p e below Φ T35 (mkF m 279 #[.val (.int p0), .val (.int p1), .val (.int p2), .val (.int p3), .val (.int p4), .val (.int (1 : Int32)), .val (.int x6_15), .val (.int x7_23), .val (.int x8_34), .val (.int x9_43), .val (.int x10_54), .val (.int x11_63), .val (.int x12_75), .val (.int x13_84), .val (.ref ob5), .val (.ref ob27), .val (.int (1 : Int32)), .val (.ref ob29), .val (.ref b_35)] [])
    refine own_go (fun _ => XS.aload X35.here hx rfl (hb hby at_279) rfl rfl) ?_
    show own_G p e below Φ T35 (mkF m 281 #[.val (.int p0), .val (.int p1), .val (.int p2), .val (.int p3), .val (.int p4), .val (.int (1 : Int32)), .val (.int x6_15), .val (.int x7_23), .val (.int x8_34), .val (.int x9_43), .val (.int x10_54), .val (.int x11_63), .val (.int x12_75), .val (.int x13_84), .val (.ref ob5), .val (.ref ob27), .val (.int (1 : Int32)), .val (.ref ob29), .val (.ref b_35)] [(.ref b_35)])
    obtain ⟨cl38, Ar38, q38, S38, M38, H38, G38⟩ := id p35_0
    refine own_go (fun _ => X35.arraylength hx Ar38.1 (State.isArrayOf_alike hZ.alike Ar38.2.1) (g := (mkF m 281 #[.val (.int p0), .val (.int p1), .val (.int p2), .val (.int p3), .val (.int p4), .val (.int (1 : Int32)), .val (.int x6_15), .val (.int x7_23), .val (.int x8_34), .val (.int x9_43), .val (.int x10_54), .val (.int x11_63), .val (.int x12_75), .val (.int x13_84), .val (.ref ob5), .val (.ref ob27), .val (.int (1 : Int32)), .val (.ref ob29), .val (.ref b_35)] [(.ref b_35)])) rfl rfl (hb hby at_281) _) ?_
    rw [len_of S38 M38]
    show own_G p e below Φ T35 (mkF m 282 #[.val (.int p0), .val (.int p1), .val (.int p2), .val (.int p3), .val (.int p4), .val (.int (1 : Int32)), .val (.int x6_15), .val (.int x7_23), .val (.int x8_34), .val (.int x9_43), .val (.int x10_54), .val (.int x11_63), .val (.int x12_75), .val (.int x13_84), .val (.ref ob5), .val (.ref ob27), .val (.int (1 : Int32)), .val (.ref ob29), .val (.ref b_35)] [(.int (own_max (0 : Int32) ((0 : Int32) + (1 : Int32))))])
    refine own_go (fun _ => XS.iload X35.here hx rfl (hb hby at_282) rfl) ?_
    show own_G p e below Φ T35 (mkF m 284 #[.val (.int p0), .val (.int p1), .val (.int p2), .val (.int p3), .val (.int p4), .val (.int (1 : Int32)), .val (.int x6_15), .val (.int x7_23), .val (.int x8_34), .val (.int x9_43), .val (.int x10_54), .val (.int x11_63), .val (.int x12_75), .val (.int x13_84), .val (.ref ob5), .val (.ref ob27), .val (.int (1 : Int32)), .val (.ref ob29), .val (.ref b_35)] [(.int (1 : Int32)), (.int (own_max (0 : Int32) ((0 : Int32) + (1 : Int32))))])
    refine own_go (fun _ => XS.icmpYes X35.here hx rfl (pc0 := 284) (pc' := 289) rfl (hb hby at_284) rfl (Jvm.Free.XT.ii_eq_t (own_use (P := fun t => (own_max (0 : Int32) ((0 : Int32) + (1 : Int32))) = (1 : Int32)) (by decide +kernel) hall)) (by decide) (by decide)) ?_
    show own_G p e below Φ T35 (mkF m 289 #[.val (.int p0), .val (.int p1), .val (.int p2), .val (.int p3), .val (.int p4), .val (.int (1 : Int32)), .val (.int x6_15), .val (.int x7_23), .val (.int x8_34), .val (.int x9_43), .val (.int x10_54), .val (.int x11_63), .val (.int x12_75), .val (.int x13_84), .val (.ref ob5), .val (.ref ob27), .val (.int (1 : Int32)), .val (.ref ob29), .val (.ref b_35)] [])
    refine own_go (fun _ => XS.aload X35.here hx rfl (hb hby at_289) rfl rfl) ?_
    show own_G p e below Φ T35 (mkF m 291 #[.val (.int p0), .val (.int p1), .val (.int p2), .val (.int p3), .val (.int p4), .val (.int (1 : Int32)), .val (.int x6_15), .val (.int x7_23), .val (.int x8_34), .val (.int x9_43), .val (.int x10_54), .val (.int x11_63), .val (.int x12_75), .val (.int x13_84), .val (.ref ob5), .val (.ref ob27), .val (.int (1 : Int32)), .val (.ref ob29), .val (.ref b_35)] [(.ref b_35)])
    refine own_go (fun _ => XS.aload X35.here hx rfl (hb hby at_291) rfl rfl) ?_
    show own_G p e below Φ T35 (mkF m 293 #[.val (.int p0), .val (.int p1), .val (.int p2), .val (.int p3), .val (.int p4), .val (.int (1 : Int32)), .val (.int x6_15), .val (.int x7_23), .val (.int x8_34), .val (.int x9_43), .val (.int x10_54), .val (.int x11_63), .val (.int x12_75), .val (.int x13_84), .val (.ref ob5), .val (.ref ob27), .val (.int (1 : Int32)), .val (.ref ob29), .val (.ref b_35)] [(.ref ob5), (.ref b_35)])
    refine own_go (fun _ => XS.iload X35.here hx rfl (hb hby at_293) rfl) ?_
    show own_G p e below Φ T35 (mkF m 295 #[.val (.int p0), .val (.int p1), .val (.int p2), .val (.int p3), .val (.int p4), .val (.int (1 : Int32)), .val (.int x6_15), .val (.int x7_23), .val (.int x8_34), .val (.int x9_43), .val (.int x10_54), .val (.int x11_63), .val (.int x12_75), .val (.int x13_84), .val (.ref ob5), .val (.ref ob27), .val (.int (1 : Int32)), .val (.ref ob29), .val (.ref b_35)] [(.int (1 : Int32)), (.ref ob5), (.ref b_35)])
    refine own_go (fun _ => XS.iconst X35.here hx rfl (hb hby at_295)) ?_
    show own_G p e below Φ T35 (mkF m 296 #[.val (.int p0), .val (.int p1), .val (.int p2), .val (.int p3), .val (.int p4), .val (.int (1 : Int32)), .val (.int x6_15), .val (.int x7_23), .val (.int x8_34), .val (.int x9_43), .val (.int x10_54), .val (.int x11_63), .val (.int x12_75), .val (.int x13_84), .val (.ref ob5), .val (.ref ob27), .val (.int (1 : Int32)), .val (.ref ob29), .val (.ref b_35)] [(.int (0 : Int32)), (.int (1 : Int32)), (.ref ob5), (.ref b_35)])
    have f39 : Arv Z T35.heap ob5 ka5 .int (5 : Int32) [(.int (0 : Int32)), (.int x6_15), (.int x8_34), (.int x10_54), (.int x12_75)] (.int (0 : Int32)) := f37.keep Kq35 nin0
    obtain ⟨_, _, ⟨T40, zL40, zk40, zn40⟩, -, X40, ⟨Lc40, hQ40, l40, y40, z40⟩, st40⟩ := Jvm.LawKit.callS X35 hx (y := (⟨"com/example/edgewarden/edgewarden/graph/LikenessGetFirstMembersPinLaw", "ok", "([I[III)Z"⟩ : MethodName)) hown (mvT hZ (wd_24 hw)) (mvT hZ (wd_25 hw)) (mvT hZ (wd_26 hw)) (mvT hZ (wd_27 hw)) (by decide) (backOf (W := 0) (rmK l Z a0 hw [] b_35 ob5 kb_35 ka5 (own_max (0 : Int32) ((0 : Int32) + (1 : Int32))) (own_put (own_zeros (own_max (0 : Int32) ((0 : Int32) + (1 : Int32)))) (0 : Int32) (0 : Int32)) (1 : Int32) (0 : Int32) (0 : Int32) x6_15 x8_34 x10_54 x12_75 T35.heap n0 Zp35 p35_0 f39 (by decide) (own_use (P := fun t => (0 : Int32) < (own_max (0 : Int32) ((0 : Int32) + (1 : Int32))) → ((own_put (own_zeros (own_max (0 : Int32) ((0 : Int32) + (1 : Int32)))) (0 : Int32) (0 : Int32))).getD ((0 : Int32)).toNatClampNeg 0 = own_first (0 : Int32) t.1 t.2.2.1 t.2.2.2.2.1 t.2.2.2.2.2.2.1 (1 : Int32) (0 : Int32)) (by decide +kernel) hall)) hZ (wd_27 hw) (wd_26 hw) (by decide) (by decide)) (g := (mkF m 296 #[.val (.int p0), .val (.int p1), .val (.int p2), .val (.int p3), .val (.int p4), .val (.int (1 : Int32)), .val (.int x6_15), .val (.int x7_23), .val (.int x8_34), .val (.int x9_43), .val (.int x10_54), .val (.int x11_63), .val (.int x12_75), .val (.int x13_84), .val (.ref ob5), .val (.ref ob27), .val (.int (1 : Int32)), .val (.ref ob29), .val (.ref b_35)] [(.int (0 : Int32)), (.int (1 : Int32)), (.ref ob5), (.ref b_35)])) rfl (by rw [hml]; rfl) (argsL := [(.ref b_35), (.ref ob5), (.int (1 : Int32)), (.int (0 : Int32))]) (rest := []) (lenOf pd_4 rfl) rfl (by show 2 * 0 + _ ≤ _; exact Nat.le_of_eq rfl) (hb hby at_296) (fun _ _ => ⟨rfl, rfl, (by decide : 4 + 0 ≤ _), (by decide : 13 + 0 ≤ _)⟩)
    dsimp only [Pt.U, Pt.locs, Pt.cells, Pt.slots] at X40 l40 y40 z40 st40 hQ40
    subst l40 y40 z40
    obtain ⟨rfl, N40q, hs40⟩ := hQ40
    have N40 := Fr.app N35 N40q
    refine own_go st40 ?_
    show own_G p e below Φ T40 (mkF m 299 #[.val (.int p0), .val (.int p1), .val (.int p2), .val (.int p3), .val (.int p4), .val (.int (1 : Int32)), .val (.int x6_15), .val (.int x7_23), .val (.int x8_34), .val (.int x9_43), .val (.int x10_54), .val (.int x11_63), .val (.int x12_75), .val (.int x13_84), .val (.ref ob5), .val (.ref ob27), .val (.int (1 : Int32)), .val (.ref ob29), .val (.ref b_35)] [(.int (1 : Int32))])
    refine own_go (fun _ => XS.ifNo X40.here hx rfl (hb hby at_299) rfl (Jvm.Free.XT.i0_eq_f (by decide : ¬ ((1 : Int32) = (0 : Int32))))) ?_
    show own_G p e below Φ T40 (mkF m 302 #[.val (.int p0), .val (.int p1), .val (.int p2), .val (.int p3), .val (.int p4), .val (.int (1 : Int32)), .val (.int x6_15), .val (.int x7_23), .val (.int x8_34), .val (.int x9_43), .val (.int x10_54), .val (.int x11_63), .val (.int x12_75), .val (.int x13_84), .val (.ref ob5), .val (.ref ob27), .val (.int (1 : Int32)), .val (.ref ob29), .val (.ref b_35)] [])
    refine own_go (fun _ => XS.aload X40.here hx rfl (hb hby at_302) rfl rfl) ?_
    show own_G p e below Φ T40 (mkF m 304 #[.val (.int p0), .val (.int p1), .val (.int p2), .val (.int p3), .val (.int p4), .val (.int (1 : Int32)), .val (.int x6_15), .val (.int x7_23), .val (.int x8_34), .val (.int x9_43), .val (.int x10_54), .val (.int x11_63), .val (.int x12_75), .val (.int x13_84), .val (.ref ob5), .val (.ref ob27), .val (.int (1 : Int32)), .val (.ref ob29), .val (.ref b_35)] [(.ref b_35)])
    refine own_go (fun _ => XS.aload X40.here hx rfl (hb hby at_304) rfl rfl) ?_
    show own_G p e below Φ T40 (mkF m 306 #[.val (.int p0), .val (.int p1), .val (.int p2), .val (.int p3), .val (.int p4), .val (.int (1 : Int32)), .val (.int x6_15), .val (.int x7_23), .val (.int x8_34), .val (.int x9_43), .val (.int x10_54), .val (.int x11_63), .val (.int x12_75), .val (.int x13_84), .val (.ref ob5), .val (.ref ob27), .val (.int (1 : Int32)), .val (.ref ob29), .val (.ref b_35)] [(.ref ob5), (.ref b_35)])
    refine own_go (fun _ => XS.iload X40.here hx rfl (hb hby at_306) rfl) ?_
    show own_G p e below Φ T40 (mkF m 308 #[.val (.int p0), .val (.int p1), .val (.int p2), .val (.int p3), .val (.int p4), .val (.int (1 : Int32)), .val (.int x6_15), .val (.int x7_23), .val (.int x8_34), .val (.int x9_43), .val (.int x10_54), .val (.int x11_63), .val (.int x12_75), .val (.int x13_84), .val (.ref ob5), .val (.ref ob27), .val (.int (1 : Int32)), .val (.ref ob29), .val (.ref b_35)] [(.int (1 : Int32)), (.ref ob5), (.ref b_35)])
    refine own_go (fun _ => XS.iconst X40.here hx rfl (hb hby at_308)) ?_
    show own_G p e below Φ T40 (mkF m 309 #[.val (.int p0), .val (.int p1), .val (.int p2), .val (.int p3), .val (.int p4), .val (.int (1 : Int32)), .val (.int x6_15), .val (.int x7_23), .val (.int x8_34), .val (.int x9_43), .val (.int x10_54), .val (.int x11_63), .val (.int x12_75), .val (.int x13_84), .val (.ref ob5), .val (.ref ob27), .val (.int (1 : Int32)), .val (.ref ob29), .val (.ref b_35)] [(.int (1 : Int32)), (.int (1 : Int32)), (.ref ob5), (.ref b_35)])
    obtain ⟨_, _, ⟨T41, zL41, zk41, zn41⟩, -, X41, ⟨Lc41, hQ41, l41, y41, z41⟩, st41⟩ := Jvm.LawKit.callS X40 hx (y := (⟨"com/example/edgewarden/edgewarden/graph/LikenessGetFirstMembersPinLaw", "ok", "([I[III)Z"⟩ : MethodName)) hown (mvT hZ (wd_24 hw)) (mvT hZ (wd_25 hw)) (mvT hZ (wd_26 hw)) (mvT hZ (wd_27 hw)) (by decide) (backOf (W := 0) (rmK l Z a0 hw [] b_35 ob5 kb_35 ka5 (own_max (0 : Int32) ((0 : Int32) + (1 : Int32))) (own_put (own_zeros (own_max (0 : Int32) ((0 : Int32) + (1 : Int32)))) (0 : Int32) (0 : Int32)) (1 : Int32) (1 : Int32) (0 : Int32) x6_15 x8_34 x10_54 x12_75 T35.heap n0 Zp35 p35_0 f39 (by decide) (own_use (P := fun t => (1 : Int32) < (own_max (0 : Int32) ((0 : Int32) + (1 : Int32))) → ((own_put (own_zeros (own_max (0 : Int32) ((0 : Int32) + (1 : Int32)))) (0 : Int32) (0 : Int32))).getD ((1 : Int32)).toNatClampNeg 0 = own_first (0 : Int32) t.1 t.2.2.1 t.2.2.2.2.1 t.2.2.2.2.2.2.1 (1 : Int32) (1 : Int32)) (by decide +kernel) hall)) hZ (wd_27 hw) (wd_26 hw) (by decide) (by decide)) (g := (mkF m 309 #[.val (.int p0), .val (.int p1), .val (.int p2), .val (.int p3), .val (.int p4), .val (.int (1 : Int32)), .val (.int x6_15), .val (.int x7_23), .val (.int x8_34), .val (.int x9_43), .val (.int x10_54), .val (.int x11_63), .val (.int x12_75), .val (.int x13_84), .val (.ref ob5), .val (.ref ob27), .val (.int (1 : Int32)), .val (.ref ob29), .val (.ref b_35)] [(.int (1 : Int32)), (.int (1 : Int32)), (.ref ob5), (.ref b_35)])) rfl (by rw [hml]; rfl) (argsL := [(.ref b_35), (.ref ob5), (.int (1 : Int32)), (.int (1 : Int32))]) (rest := []) (lenOf pd_4 rfl) rfl (by show 2 * 0 + _ ≤ _; exact Nat.le_of_eq rfl) (hb hby at_309) (fun _ _ => ⟨rfl, hs40, (by decide : 4 + 0 ≤ _), (by decide : 13 + 0 ≤ _)⟩)
    dsimp only [Pt.U, Pt.locs, Pt.cells, Pt.slots] at X41 l41 y41 z41 st41 hQ41
    subst l41 y41 z41
    obtain ⟨rfl, N41q, hs41⟩ := hQ41
    have N41 := Fr.app N40 N41q
    refine own_go st41 ?_
    show own_G p e below Φ T41 (mkF m 312 #[.val (.int p0), .val (.int p1), .val (.int p2), .val (.int p3), .val (.int p4), .val (.int (1 : Int32)), .val (.int x6_15), .val (.int x7_23), .val (.int x8_34), .val (.int x9_43), .val (.int x10_54), .val (.int x11_63), .val (.int x12_75), .val (.int x13_84), .val (.ref ob5), .val (.ref ob27), .val (.int (1 : Int32)), .val (.ref ob29), .val (.ref b_35)] [(.int (1 : Int32))])
    refine own_go (fun _ => XS.ifNo X41.here hx rfl (hb hby at_312) rfl (Jvm.Free.XT.i0_eq_f (by decide : ¬ ((1 : Int32) = (0 : Int32))))) ?_
    show own_G p e below Φ T41 (mkF m 315 #[.val (.int p0), .val (.int p1), .val (.int p2), .val (.int p3), .val (.int p4), .val (.int (1 : Int32)), .val (.int x6_15), .val (.int x7_23), .val (.int x8_34), .val (.int x9_43), .val (.int x10_54), .val (.int x11_63), .val (.int x12_75), .val (.int x13_84), .val (.ref ob5), .val (.ref ob27), .val (.int (1 : Int32)), .val (.ref ob29), .val (.ref b_35)] [])
    refine own_go (fun _ => XS.aload X41.here hx rfl (hb hby at_315) rfl rfl) ?_
    show own_G p e below Φ T41 (mkF m 317 #[.val (.int p0), .val (.int p1), .val (.int p2), .val (.int p3), .val (.int p4), .val (.int (1 : Int32)), .val (.int x6_15), .val (.int x7_23), .val (.int x8_34), .val (.int x9_43), .val (.int x10_54), .val (.int x11_63), .val (.int x12_75), .val (.int x13_84), .val (.ref ob5), .val (.ref ob27), .val (.int (1 : Int32)), .val (.ref ob29), .val (.ref b_35)] [(.ref b_35)])
    refine own_go (fun _ => XS.aload X41.here hx rfl (hb hby at_317) rfl rfl) ?_
    show own_G p e below Φ T41 (mkF m 319 #[.val (.int p0), .val (.int p1), .val (.int p2), .val (.int p3), .val (.int p4), .val (.int (1 : Int32)), .val (.int x6_15), .val (.int x7_23), .val (.int x8_34), .val (.int x9_43), .val (.int x10_54), .val (.int x11_63), .val (.int x12_75), .val (.int x13_84), .val (.ref ob5), .val (.ref ob27), .val (.int (1 : Int32)), .val (.ref ob29), .val (.ref b_35)] [(.ref ob5), (.ref b_35)])
    refine own_go (fun _ => XS.iload X41.here hx rfl (hb hby at_319) rfl) ?_
    show own_G p e below Φ T41 (mkF m 321 #[.val (.int p0), .val (.int p1), .val (.int p2), .val (.int p3), .val (.int p4), .val (.int (1 : Int32)), .val (.int x6_15), .val (.int x7_23), .val (.int x8_34), .val (.int x9_43), .val (.int x10_54), .val (.int x11_63), .val (.int x12_75), .val (.int x13_84), .val (.ref ob5), .val (.ref ob27), .val (.int (1 : Int32)), .val (.ref ob29), .val (.ref b_35)] [(.int (1 : Int32)), (.ref ob5), (.ref b_35)])
    refine own_go (fun _ => XS.iconst X41.here hx rfl (hb hby at_321)) ?_
    show own_G p e below Φ T41 (mkF m 322 #[.val (.int p0), .val (.int p1), .val (.int p2), .val (.int p3), .val (.int p4), .val (.int (1 : Int32)), .val (.int x6_15), .val (.int x7_23), .val (.int x8_34), .val (.int x9_43), .val (.int x10_54), .val (.int x11_63), .val (.int x12_75), .val (.int x13_84), .val (.ref ob5), .val (.ref ob27), .val (.int (1 : Int32)), .val (.ref ob29), .val (.ref b_35)] [(.int (2 : Int32)), (.int (1 : Int32)), (.ref ob5), (.ref b_35)])
    obtain ⟨_, _, ⟨T42, zL42, zk42, zn42⟩, -, X42, ⟨Lc42, hQ42, l42, y42, z42⟩, st42⟩ := Jvm.LawKit.callS X41 hx (y := (⟨"com/example/edgewarden/edgewarden/graph/LikenessGetFirstMembersPinLaw", "ok", "([I[III)Z"⟩ : MethodName)) hown (mvT hZ (wd_24 hw)) (mvT hZ (wd_25 hw)) (mvT hZ (wd_26 hw)) (mvT hZ (wd_27 hw)) (by decide) (backOf (W := 0) (rmK l Z a0 hw [] b_35 ob5 kb_35 ka5 (own_max (0 : Int32) ((0 : Int32) + (1 : Int32))) (own_put (own_zeros (own_max (0 : Int32) ((0 : Int32) + (1 : Int32)))) (0 : Int32) (0 : Int32)) (1 : Int32) (2 : Int32) (0 : Int32) x6_15 x8_34 x10_54 x12_75 T35.heap n0 Zp35 p35_0 f39 (by decide) (own_use (P := fun t => (2 : Int32) < (own_max (0 : Int32) ((0 : Int32) + (1 : Int32))) → ((own_put (own_zeros (own_max (0 : Int32) ((0 : Int32) + (1 : Int32)))) (0 : Int32) (0 : Int32))).getD ((2 : Int32)).toNatClampNeg 0 = own_first (0 : Int32) t.1 t.2.2.1 t.2.2.2.2.1 t.2.2.2.2.2.2.1 (1 : Int32) (2 : Int32)) (by decide +kernel) hall)) hZ (wd_27 hw) (wd_26 hw) (by decide) (by decide)) (g := (mkF m 322 #[.val (.int p0), .val (.int p1), .val (.int p2), .val (.int p3), .val (.int p4), .val (.int (1 : Int32)), .val (.int x6_15), .val (.int x7_23), .val (.int x8_34), .val (.int x9_43), .val (.int x10_54), .val (.int x11_63), .val (.int x12_75), .val (.int x13_84), .val (.ref ob5), .val (.ref ob27), .val (.int (1 : Int32)), .val (.ref ob29), .val (.ref b_35)] [(.int (2 : Int32)), (.int (1 : Int32)), (.ref ob5), (.ref b_35)])) rfl (by rw [hml]; rfl) (argsL := [(.ref b_35), (.ref ob5), (.int (1 : Int32)), (.int (2 : Int32))]) (rest := []) (lenOf pd_4 rfl) rfl (by show 2 * 0 + _ ≤ _; exact Nat.le_of_eq rfl) (hb hby at_322) (fun _ _ => ⟨rfl, hs41, (by decide : 4 + 0 ≤ _), (by decide : 13 + 0 ≤ _)⟩)
    dsimp only [Pt.U, Pt.locs, Pt.cells, Pt.slots] at X42 l42 y42 z42 st42 hQ42
    subst l42 y42 z42
    obtain ⟨rfl, N42q, hs42⟩ := hQ42
    have N42 := Fr.app N41 N42q
    refine own_go st42 ?_
    show own_G p e below Φ T42 (mkF m 325 #[.val (.int p0), .val (.int p1), .val (.int p2), .val (.int p3), .val (.int p4), .val (.int (1 : Int32)), .val (.int x6_15), .val (.int x7_23), .val (.int x8_34), .val (.int x9_43), .val (.int x10_54), .val (.int x11_63), .val (.int x12_75), .val (.int x13_84), .val (.ref ob5), .val (.ref ob27), .val (.int (1 : Int32)), .val (.ref ob29), .val (.ref b_35)] [(.int (1 : Int32))])
    refine own_go (fun _ => XS.ifNo X42.here hx rfl (hb hby at_325) rfl (Jvm.Free.XT.i0_eq_f (by decide : ¬ ((1 : Int32) = (0 : Int32))))) ?_
    show own_G p e below Φ T42 (mkF m 328 #[.val (.int p0), .val (.int p1), .val (.int p2), .val (.int p3), .val (.int p4), .val (.int (1 : Int32)), .val (.int x6_15), .val (.int x7_23), .val (.int x8_34), .val (.int x9_43), .val (.int x10_54), .val (.int x11_63), .val (.int x12_75), .val (.int x13_84), .val (.ref ob5), .val (.ref ob27), .val (.int (1 : Int32)), .val (.ref ob29), .val (.ref b_35)] [])
    refine own_go (fun _ => XS.aload X42.here hx rfl (hb hby at_328) rfl rfl) ?_
    show own_G p e below Φ T42 (mkF m 330 #[.val (.int p0), .val (.int p1), .val (.int p2), .val (.int p3), .val (.int p4), .val (.int (1 : Int32)), .val (.int x6_15), .val (.int x7_23), .val (.int x8_34), .val (.int x9_43), .val (.int x10_54), .val (.int x11_63), .val (.int x12_75), .val (.int x13_84), .val (.ref ob5), .val (.ref ob27), .val (.int (1 : Int32)), .val (.ref ob29), .val (.ref b_35)] [(.ref b_35)])
    refine own_go (fun _ => XS.aload X42.here hx rfl (hb hby at_330) rfl rfl) ?_
    show own_G p e below Φ T42 (mkF m 332 #[.val (.int p0), .val (.int p1), .val (.int p2), .val (.int p3), .val (.int p4), .val (.int (1 : Int32)), .val (.int x6_15), .val (.int x7_23), .val (.int x8_34), .val (.int x9_43), .val (.int x10_54), .val (.int x11_63), .val (.int x12_75), .val (.int x13_84), .val (.ref ob5), .val (.ref ob27), .val (.int (1 : Int32)), .val (.ref ob29), .val (.ref b_35)] [(.ref ob5), (.ref b_35)])
    refine own_go (fun _ => XS.iload X42.here hx rfl (hb hby at_332) rfl) ?_
    show own_G p e below Φ T42 (mkF m 334 #[.val (.int p0), .val (.int p1), .val (.int p2), .val (.int p3), .val (.int p4), .val (.int (1 : Int32)), .val (.int x6_15), .val (.int x7_23), .val (.int x8_34), .val (.int x9_43), .val (.int x10_54), .val (.int x11_63), .val (.int x12_75), .val (.int x13_84), .val (.ref ob5), .val (.ref ob27), .val (.int (1 : Int32)), .val (.ref ob29), .val (.ref b_35)] [(.int (1 : Int32)), (.ref ob5), (.ref b_35)])
    refine own_go (fun _ => XS.iconst X42.here hx rfl (hb hby at_334)) ?_
    show own_G p e below Φ T42 (mkF m 335 #[.val (.int p0), .val (.int p1), .val (.int p2), .val (.int p3), .val (.int p4), .val (.int (1 : Int32)), .val (.int x6_15), .val (.int x7_23), .val (.int x8_34), .val (.int x9_43), .val (.int x10_54), .val (.int x11_63), .val (.int x12_75), .val (.int x13_84), .val (.ref ob5), .val (.ref ob27), .val (.int (1 : Int32)), .val (.ref ob29), .val (.ref b_35)] [(.int (3 : Int32)), (.int (1 : Int32)), (.ref ob5), (.ref b_35)])
    obtain ⟨_, _, ⟨T43, zL43, zk43, zn43⟩, -, X43, ⟨Lc43, hQ43, l43, y43, z43⟩, st43⟩ := Jvm.LawKit.callS X42 hx (y := (⟨"com/example/edgewarden/edgewarden/graph/LikenessGetFirstMembersPinLaw", "ok", "([I[III)Z"⟩ : MethodName)) hown (mvT hZ (wd_24 hw)) (mvT hZ (wd_25 hw)) (mvT hZ (wd_26 hw)) (mvT hZ (wd_27 hw)) (by decide) (backOf (W := 0) (rmK l Z a0 hw [] b_35 ob5 kb_35 ka5 (own_max (0 : Int32) ((0 : Int32) + (1 : Int32))) (own_put (own_zeros (own_max (0 : Int32) ((0 : Int32) + (1 : Int32)))) (0 : Int32) (0 : Int32)) (1 : Int32) (3 : Int32) (0 : Int32) x6_15 x8_34 x10_54 x12_75 T35.heap n0 Zp35 p35_0 f39 (by decide) (own_use (P := fun t => (3 : Int32) < (own_max (0 : Int32) ((0 : Int32) + (1 : Int32))) → ((own_put (own_zeros (own_max (0 : Int32) ((0 : Int32) + (1 : Int32)))) (0 : Int32) (0 : Int32))).getD ((3 : Int32)).toNatClampNeg 0 = own_first (0 : Int32) t.1 t.2.2.1 t.2.2.2.2.1 t.2.2.2.2.2.2.1 (1 : Int32) (3 : Int32)) (by decide +kernel) hall)) hZ (wd_27 hw) (wd_26 hw) (by decide) (by decide)) (g := (mkF m 335 #[.val (.int p0), .val (.int p1), .val (.int p2), .val (.int p3), .val (.int p4), .val (.int (1 : Int32)), .val (.int x6_15), .val (.int x7_23), .val (.int x8_34), .val (.int x9_43), .val (.int x10_54), .val (.int x11_63), .val (.int x12_75), .val (.int x13_84), .val (.ref ob5), .val (.ref ob27), .val (.int (1 : Int32)), .val (.ref ob29), .val (.ref b_35)] [(.int (3 : Int32)), (.int (1 : Int32)), (.ref ob5), (.ref b_35)])) rfl (by rw [hml]; rfl) (argsL := [(.ref b_35), (.ref ob5), (.int (1 : Int32)), (.int (3 : Int32))]) (rest := []) (lenOf pd_4 rfl) rfl (by show 2 * 0 + _ ≤ _; exact Nat.le_of_eq rfl) (hb hby at_335) (fun _ _ => ⟨rfl, hs42, (by decide : 4 + 0 ≤ _), (by decide : 13 + 0 ≤ _)⟩)
    dsimp only [Pt.U, Pt.locs, Pt.cells, Pt.slots] at X43 l43 y43 z43 st43 hQ43
    subst l43 y43 z43
    obtain ⟨rfl, N43q, hs43⟩ := hQ43
    have N43 := Fr.app N42 N43q
    refine own_go st43 ?_
    show own_G p e below Φ T43 (mkF m 338 #[.val (.int p0), .val (.int p1), .val (.int p2), .val (.int p3), .val (.int p4), .val (.int (1 : Int32)), .val (.int x6_15), .val (.int x7_23), .val (.int x8_34), .val (.int x9_43), .val (.int x10_54), .val (.int x11_63), .val (.int x12_75), .val (.int x13_84), .val (.ref ob5), .val (.ref ob27), .val (.int (1 : Int32)), .val (.ref ob29), .val (.ref b_35)] [(.int (1 : Int32))])
    refine own_go (fun _ => XS.ifNo X43.here hx rfl (hb hby at_338) rfl (Jvm.Free.XT.i0_eq_f (by decide : ¬ ((1 : Int32) = (0 : Int32))))) ?_
    show own_G p e below Φ T43 (mkF m 341 #[.val (.int p0), .val (.int p1), .val (.int p2), .val (.int p3), .val (.int p4), .val (.int (1 : Int32)), .val (.int x6_15), .val (.int x7_23), .val (.int x8_34), .val (.int x9_43), .val (.int x10_54), .val (.int x11_63), .val (.int x12_75), .val (.int x13_84), .val (.ref ob5), .val (.ref ob27), .val (.int (1 : Int32)), .val (.ref ob29), .val (.ref b_35)] [])
    refine own_go (fun _ => XS.aload X43.here hx rfl (hb hby at_341) rfl rfl) ?_
    show own_G p e below Φ T43 (mkF m 343 #[.val (.int p0), .val (.int p1), .val (.int p2), .val (.int p3), .val (.int p4), .val (.int (1 : Int32)), .val (.int x6_15), .val (.int x7_23), .val (.int x8_34), .val (.int x9_43), .val (.int x10_54), .val (.int x11_63), .val (.int x12_75), .val (.int x13_84), .val (.ref ob5), .val (.ref ob27), .val (.int (1 : Int32)), .val (.ref ob29), .val (.ref b_35)] [(.ref b_35)])
    refine own_go (fun _ => XS.aload X43.here hx rfl (hb hby at_343) rfl rfl) ?_
    show own_G p e below Φ T43 (mkF m 345 #[.val (.int p0), .val (.int p1), .val (.int p2), .val (.int p3), .val (.int p4), .val (.int (1 : Int32)), .val (.int x6_15), .val (.int x7_23), .val (.int x8_34), .val (.int x9_43), .val (.int x10_54), .val (.int x11_63), .val (.int x12_75), .val (.int x13_84), .val (.ref ob5), .val (.ref ob27), .val (.int (1 : Int32)), .val (.ref ob29), .val (.ref b_35)] [(.ref ob5), (.ref b_35)])
    refine own_go (fun _ => XS.iload X43.here hx rfl (hb hby at_345) rfl) ?_
    show own_G p e below Φ T43 (mkF m 347 #[.val (.int p0), .val (.int p1), .val (.int p2), .val (.int p3), .val (.int p4), .val (.int (1 : Int32)), .val (.int x6_15), .val (.int x7_23), .val (.int x8_34), .val (.int x9_43), .val (.int x10_54), .val (.int x11_63), .val (.int x12_75), .val (.int x13_84), .val (.ref ob5), .val (.ref ob27), .val (.int (1 : Int32)), .val (.ref ob29), .val (.ref b_35)] [(.int (1 : Int32)), (.ref ob5), (.ref b_35)])
    refine own_go (fun _ => XS.iconst X43.here hx rfl (hb hby at_347)) ?_
    show own_G p e below Φ T43 (mkF m 348 #[.val (.int p0), .val (.int p1), .val (.int p2), .val (.int p3), .val (.int p4), .val (.int (1 : Int32)), .val (.int x6_15), .val (.int x7_23), .val (.int x8_34), .val (.int x9_43), .val (.int x10_54), .val (.int x11_63), .val (.int x12_75), .val (.int x13_84), .val (.ref ob5), .val (.ref ob27), .val (.int (1 : Int32)), .val (.ref ob29), .val (.ref b_35)] [(.int (4 : Int32)), (.int (1 : Int32)), (.ref ob5), (.ref b_35)])
    obtain ⟨_, _, ⟨T44, zL44, zk44, zn44⟩, -, X44, ⟨Lc44, hQ44, l44, y44, z44⟩, st44⟩ := Jvm.LawKit.callS X43 hx (y := (⟨"com/example/edgewarden/edgewarden/graph/LikenessGetFirstMembersPinLaw", "ok", "([I[III)Z"⟩ : MethodName)) hown (mvT hZ (wd_24 hw)) (mvT hZ (wd_25 hw)) (mvT hZ (wd_26 hw)) (mvT hZ (wd_27 hw)) (by decide) (backOf (W := 0) (rmK l Z a0 hw [] b_35 ob5 kb_35 ka5 (own_max (0 : Int32) ((0 : Int32) + (1 : Int32))) (own_put (own_zeros (own_max (0 : Int32) ((0 : Int32) + (1 : Int32)))) (0 : Int32) (0 : Int32)) (1 : Int32) (4 : Int32) (0 : Int32) x6_15 x8_34 x10_54 x12_75 T35.heap n0 Zp35 p35_0 f39 (by decide) (own_use (P := fun t => (4 : Int32) < (own_max (0 : Int32) ((0 : Int32) + (1 : Int32))) → ((own_put (own_zeros (own_max (0 : Int32) ((0 : Int32) + (1 : Int32)))) (0 : Int32) (0 : Int32))).getD ((4 : Int32)).toNatClampNeg 0 = own_first (0 : Int32) t.1 t.2.2.1 t.2.2.2.2.1 t.2.2.2.2.2.2.1 (1 : Int32) (4 : Int32)) (by decide +kernel) hall)) hZ (wd_27 hw) (wd_26 hw) (by decide) (by decide)) (g := (mkF m 348 #[.val (.int p0), .val (.int p1), .val (.int p2), .val (.int p3), .val (.int p4), .val (.int (1 : Int32)), .val (.int x6_15), .val (.int x7_23), .val (.int x8_34), .val (.int x9_43), .val (.int x10_54), .val (.int x11_63), .val (.int x12_75), .val (.int x13_84), .val (.ref ob5), .val (.ref ob27), .val (.int (1 : Int32)), .val (.ref ob29), .val (.ref b_35)] [(.int (4 : Int32)), (.int (1 : Int32)), (.ref ob5), (.ref b_35)])) rfl (by rw [hml]; rfl) (argsL := [(.ref b_35), (.ref ob5), (.int (1 : Int32)), (.int (4 : Int32))]) (rest := []) (lenOf pd_4 rfl) rfl (by show 2 * 0 + _ ≤ _; exact Nat.le_of_eq rfl) (hb hby at_348) (fun _ _ => ⟨rfl, hs43, (by decide : 4 + 0 ≤ _), (by decide : 13 + 0 ≤ _)⟩)
    dsimp only [Pt.U, Pt.locs, Pt.cells, Pt.slots] at X44 l44 y44 z44 st44 hQ44
    subst l44 y44 z44
    obtain ⟨rfl, N44q, hs44⟩ := hQ44
    have N44 := Fr.app N43 N44q
    refine own_go st44 ?_
    show own_G p e below Φ T44 (mkF m 351 #[.val (.int p0), .val (.int p1), .val (.int p2), .val (.int p3), .val (.int p4), .val (.int (1 : Int32)), .val (.int x6_15), .val (.int x7_23), .val (.int x8_34), .val (.int x9_43), .val (.int x10_54), .val (.int x11_63), .val (.int x12_75), .val (.int x13_84), .val (.ref ob5), .val (.ref ob27), .val (.int (1 : Int32)), .val (.ref ob29), .val (.ref b_35)] [(.int (1 : Int32))])
    refine own_go (fun _ => XS.ifNo X44.here hx rfl (hb hby at_351) rfl (Jvm.Free.XT.i0_eq_f (by decide : ¬ ((1 : Int32) = (0 : Int32))))) ?_
    show own_G p e below Φ T44 (mkF m 354 #[.val (.int p0), .val (.int p1), .val (.int p2), .val (.int p3), .val (.int p4), .val (.int (1 : Int32)), .val (.int x6_15), .val (.int x7_23), .val (.int x8_34), .val (.int x9_43), .val (.int x10_54), .val (.int x11_63), .val (.int x12_75), .val (.int x13_84), .val (.ref ob5), .val (.ref ob27), .val (.int (1 : Int32)), .val (.ref ob29), .val (.ref b_35)] [])
    refine own_go (fun _ => XS.iconst X44.here hx rfl (hb hby at_354)) ?_
    show own_G p e below Φ T44 (mkF m 355 #[.val (.int p0), .val (.int p1), .val (.int p2), .val (.int p3), .val (.int p4), .val (.int (1 : Int32)), .val (.int x6_15), .val (.int x7_23), .val (.int x8_34), .val (.int x9_43), .val (.int x10_54), .val (.int x11_63), .val (.int x12_75), .val (.int x13_84), .val (.ref ob5), .val (.ref ob27), .val (.int (1 : Int32)), .val (.ref ob29), .val (.ref b_35)] [(.int (1 : Int32))])
    refine own_go (fun _ => XS.goto X44.here hx rfl (pc0 := 355) (pc' := 359) rfl (hb hby at_355) (by decide) (by decide)) ?_
    show own_G p e below Φ T44 (mkF m 359 #[.val (.int p0), .val (.int p1), .val (.int p2), .val (.int p3), .val (.int p4), .val (.int (1 : Int32)), .val (.int x6_15), .val (.int x7_23), .val (.int x8_34), .val (.int x9_43), .val (.int x10_54), .val (.int x11_63), .val (.int x12_75), .val (.int x13_84), .val (.ref ob5), .val (.ref ob27), .val (.int (1 : Int32)), .val (.ref ob29), .val (.ref b_35)] [(.int (1 : Int32))])
    rw [hΦ]
    refine own_ret X44 (v := some (.int (1 : Int32))) (fun h => by rw [Bd.returns] at h; cases h) (BodyLoose.notSynchronized Bd) (fun fs hr => retN X44 hx (t := .boolean) Bd.returns (by simp) (hb hby at_359) hr) ?_ (by decide) (by decide)
    rw [hs44]
    exact ⟨rfl, N44⟩
  · show own_G p e below Φ T10 (mkF m 120 #[.val (.int p0), .val (.int p1), .val (.int p2), .val (.int p3), .val (.int p4), .val (.int (2 : Int32)), .val (.int x6_15), .val (.int x7_23), .val (.int x8_34), .val (.int x9_43), .val (.int x10_54), .val (.int x11_63), .val (.int x12_75), .val (.int x13_84), .val (.ref ob5), .unset, .unset, .unset, .unset] [])
    refine own_go (fun _ => XS.iload X10.here hx rfl (hb hby at_120) rfl) ?_
    show own_G p e below Φ T10 (mkF m 122 #[.val (.int p0), .val (.int p1), .val (.int p2), .val (.int p3), .val (.int p4), .val (.int (2 : Int32)), .val (.int x6_15), .val (.int x7_23), .val (.int x8_34), .val (.int x9_43), .val (.int x10_54), .val (.int x11_63), .val (.int x12_75), .val (.int x13_84), .val (.ref ob5), .unset, .unset, .unset, .unset] [(.int (2 : Int32))])
    obtain ⟨T45, h45, ka45, X45, e45, E45, A45, st45⟩ := newP (aty := .int) X10 hx hZ (wd_5 hw) e10 (g := (mkF m 122 #[.val (.int p0), .val (.int p1), .val (.int p2), .val (.int p3), .val (.int p4), .val (.int (2 : Int32)), .val (.int x6_15), .val (.int x7_23), .val (.int x8_34), .val (.int x9_43), .val (.int x10_54), .val (.int x11_63), .val (.int x12_75), .val (.int x13_84), .val (.ref ob5), .unset, .unset, .unset, .unset] [(.int (2 : Int32))])) rfl (hb hby at_122) rfl (by decide) (cap := 2) (by decide) (by decide) (by decide) (by decide)
    obtain ⟨ob45, g45⟩ : ∃ z, z = h10.size := ⟨_, rfl⟩
    rw [← g45] at A45 st45
    have ne_ob5_ob45 : ob5 ≠ ob45 := Nat.ne_of_lt (Nat.lt_of_lt_of_le V10.lt (Nat.le_of_eq g45.symm))
    have V45 : Arv Z h45 ob45 ka45 .int (2 : Int32) [(.int (0 : Int32)), (.int (0 : Int32))] (.int (0 : Int32)) := (Arv.new A45 (by decide)).pad (pad_rep [] (.int (0 : Int32)) 2)
    have g_ob45 : n0 ≤ ob45 := Nat.le_trans Zp10 (Nat.le_of_eq g45.symm)
    have Zp45 : n0 ≤ h45.size := Nat.le_trans Zp10 E45.1
    refine own_go st45 ?_
    show own_G p e below Φ T45 (mkF m 124 #[.val (.int p0), .val (.int p1), .val (.int p2), .val (.int p3), .val (.int p4), .val (.int (2 : Int32)), .val (.int x6_15), .val (.int x7_23), .val (.int x8_34), .val (.int x9_43), .val (.int x10_54), .val (.int x11_63), .val (.int x12_75), .val (.int x13_84), .val (.ref ob5), .unset, .unset, .unset, .unset] [(.ref ob45)])
    refine own_go (fun _ => XS.astore X45.here hx rfl (hb hby at_124) rfl rfl (l' := #[.val (.int p0), .val (.int p1), .val (.int p2), .val (.int p3), .val (.int p4), .val (.int (2 : Int32)), .val (.int x6_15), .val (.int x7_23), .val (.int x8_34), .val (.int x9_43), .val (.int x10_54), .val (.int x11_63), .val (.int x12_75), .val (.int x13_84), .val (.ref ob5), .val (.ref ob45), .unset, .unset, .unset]) rfl) ?_
    show own_G p e below Φ T45 (mkF m 126 #[.val (.int p0), .val (.int p1), .val (.int p2), .val (.int p3), .val (.int p4), .val (.int (2 : Int32)), .val (.int x6_15), .val (.int x7_23), .val (.int x8_34), .val (.int x9_43), .val (.int x10_54), .val (.int x11_63), .val (.int x12_75), .val (.int x13_84), .val (.ref ob5), .val (.ref ob45), .unset, .unset, .unset] [])
    refine own_go (fun _ => XS.iload X45.here hx rfl (hb hby at_126) rfl) ?_
    show own_G p e below Φ T45 (mkF m 128 #[.val (.int p0), .val (.int p1), .val (.int p2), .val (.int p3), .val (.int p4), .val (.int (2 : Int32)), .val (.int x6_15), .val (.int x7_23), .val (.int x8_34), .val (.int x9_43), .val (.int x10_54), .val (.int x11_63), .val (.int x12_75), .val (.int x13_84), .val (.ref ob5), .val (.ref ob45), .unset, .unset, .unset] [(.int (2 : Int32))])
    refine own_go (fun _ => XS.ifNo X45.here hx rfl (hb hby at_128) rfl (Jvm.Free.XT.i0_le_f (by decide : ((0 : Int32) < (2 : Int32))))) ?_
    show own_G p e below Φ T45 (mkF m 131 #[.val (.int p0), .val (.int p1), .val (.int p2), .val (.int p3), .val (.int p4), .val (.int (2 : Int32)), .val (.int x6_15), .val (.int x7_23), .val (.int x8_34), .val (.int x9_43), .val (.int x10_54), .val (.int x11_63), .val (.int x12_75), .val (.int x13_84), .val (.ref ob5), .val (.ref ob45), .unset, .unset, .unset] [])
    refine own_go (fun _ => XS.aload X45.here hx rfl (hb hby at_131) rfl rfl) ?_
    show own_G p e below Φ T45 (mkF m 133 #[.val (.int p0), .val (.int p1), .val (.int p2), .val (.int p3), .val (.int p4), .val (.int (2 : Int32)), .val (.int x6_15), .val (.int x7_23), .val (.int x8_34), .val (.int x9_43), .val (.int x10_54), .val (.int x11_63), .val (.int x12_75), .val (.int x13_84), .val (.ref ob5), .val (.ref ob45), .unset, .unset, .unset] [(.ref ob45)])
    refine own_go (fun _ => XS.iconst X45.here hx rfl (hb hby at_133)) ?_
    show own_G p e below Φ T45 (mkF m 134 #[.val (.int p0), .val (.int p1), .val (.int p2), .val (.int p3), .val (.int p4), .val (.int (2 : Int32)), .val (.int x6_15), .val (.int x7_23), .val (.int x8_34), .val (.int x9_43), .val (.int x10_54), .val (.int x11_63), .val (.int x12_75), .val (.int x13_84), .val (.ref ob5), .val (.ref ob45), .unset, .unset, .unset] [(.int (0 : Int32)), (.ref ob45)])
    refine own_go (fun _ => XS.iconst X45.here hx rfl (hb hby at_134)) ?_
    show own_G p e below Φ T45 (mkF m 135 #[.val (.int p0), .val (.int p1), .val (.int p2), .val (.int p3), .val (.int p4), .val (.int (2 : Int32)), .val (.int x6_15), .val (.int x7_23), .val (.int x8_34), .val (.int x9_43), .val (.int x10_54), .val (.int x11_63), .val (.int x12_75), .val (.int x13_84), .val (.ref ob5), .val (.ref ob45), .unset, .unset, .unset] [(.int (0 : Int32)), (.int (0 : Int32)), (.ref ob45)])
    obtain ⟨cl46, Ar46, q46, S46, M46, H46, G46⟩ := id V45
    have hin46 : ¬ ((0 : Int32) < 0 ∨ cl46.slots.size ≤ ((0 : Int32)).toNatClampNeg) := inb_of S46 ⟨by decide, by decide⟩
    obtain ⟨T46, h46, X46, e46, W46, st46⟩ := stI X45 hx hZ e45 Ar46 (j := (0 : Int32)) hin46 (g := (mkF m 135 #[.val (.int p0), .val (.int p1), .val (.int p2), .val (.int p3), .val (.int p4), .val (.int (2 : Int32)), .val (.int x6_15), .val (.int x7_23), .val (.int x8_34), .val (.int x9_43), .val (.int x10_54), .val (.int x11_63), .val (.int x12_75), .val (.int x13_84), .val (.ref ob5), .val (.ref ob45), .unset, .unset, .unset] [(.int (0 : Int32)), (.int (0 : Int32)), (.ref ob45)])) rfl rfl (hb hby at_135)
    refine own_go st46 ?_
    have V46 : Arv Z h46 ob45 ka45 .int (2 : Int32) [(.int (0 : Int32)), (.int (0 : Int32))] (.int (0 : Int32)) := Arv.set Ar46 q46 S46 M46 H46 G46 rfl W46 0 rfl (Nat.le_of_ble_eq_true rfl)
    have N46 := Fr.snoc X46 N10 g_ob45
    have Zp46 : n0 ≤ h46.size := Nat.le_trans Zp45 (Keep.of_wr W46).1
    show own_G p e below Φ T46 (mkF m 136 #[.val (.int p0), .val (.int p1), .val (.int p2), .val (.int p3), .val (.int p4), .val (.int (2 : Int32)), .val (.int x6_15), .val (.int x7_23), .val (.int x8_34), .val (.int x9_43), .val (.int x10_54), .val (.int x11_63), .val (.int x12_75), .val (.int x13_84), .val (.ref ob5), .val (.ref ob45), .unset, .unset, .unset] [])
    refine own_go (fun _ => XS.iload X46.here hx rfl (hb hby at_136) rfl) ?_
    show own_G p e below Φ T46 (mkF m 138 #[.val (.int p0), .val (.int p1), .val (.int p2), .val (.int p3), .val (.int p4), .val (.int (2 : Int32)), .val (.int x6_15), .val (.int x7_23), .val (.int x8_34), .val (.int x9_43), .val (.int x10_54), .val (.int x11_63), .val (.int x12_75), .val (.int x13_84), .val (.ref ob5), .val (.ref ob45), .unset, .unset, .unset] [(.int (2 : Int32))])
    refine own_go (fun _ => XS.iconst X46.here hx rfl (hb hby at_138)) ?_
    show own_G p e below Φ T46 (mkF m 139 #[.val (.int p0), .val (.int p1), .val (.int p2), .val (.int p3), .val (.int p4), .val (.int (2 : Int32)), .val (.int x6_15), .val (.int x7_23), .val (.int x8_34), .val (.int x9_43), .val (.int x10_54), .val (.int x11_63), .val (.int x12_75), .val (.int x13_84), .val (.ref ob5), .val (.ref ob45), .unset, .unset, .unset] [(.int (1 : Int32)), (.int (2 : Int32))])
    refine own_go (fun _ => XS.icmpNo X46.here hx rfl (hb hby at_139) rfl (Jvm.Free.XT.ii_le_f (by decide : ((1 : Int32) < (2 : Int32))))) ?_
    show own_G p e below Φ T46 (mkF m 142 #[.val (.int p0), .val (.int p1), .val (.int p2), .val (.int p3), .val (.int p4), .val (.int (2 : Int32)), .val (.int x6_15), .val (.int x7_23), .val (.int x8_34), .val (.int x9_43), .val (.int x10_54), .val (.int x11_63), .val (.int x12_75), .val (.int x13_84), .val (.ref ob5), .val (.ref ob45), .unset, .unset, .unset] [])
    refine own_go (fun _ => XS.aload X46.here hx rfl (hb hby at_142) rfl rfl) ?_
    show own_G p e below Φ T46 (mkF m 144 #[.val (.int p0), .val (.int p1), .val (.int p2), .val (.int p3), .val (.int p4), .val (.int (2 : Int32)), .val (.int x6_15), .val (.int x7_23), .val (.int x8_34), .val (.int x9_43), .val (.int x10_54), .val (.int x11_63), .val (.int x12_75), .val (.int x13_84), .val (.ref ob5), .val (.ref ob45), .unset, .unset, .unset] [(.ref ob45)])
    refine own_go (fun _ => XS.iconst X46.here hx rfl (hb hby at_144)) ?_
    show own_G p e below Φ T46 (mkF m 145 #[.val (.int p0), .val (.int p1), .val (.int p2), .val (.int p3), .val (.int p4), .val (.int (2 : Int32)), .val (.int x6_15), .val (.int x7_23), .val (.int x8_34), .val (.int x9_43), .val (.int x10_54), .val (.int x11_63), .val (.int x12_75), .val (.int x13_84), .val (.ref ob5), .val (.ref ob45), .unset, .unset, .unset] [(.int (1 : Int32)), (.ref ob45)])
    refine own_go (fun _ => XS.iload X46.here hx rfl (hb hby at_145) rfl) ?_
    show own_G p e below Φ T46 (mkF m 147 #[.val (.int p0), .val (.int p1), .val (.int p2), .val (.int p3), .val (.int p4), .val (.int (2 : Int32)), .val (.int x6_15), .val (.int x7_23), .val (.int x8_34), .val (.int x9_43), .val (.int x10_54), .val (.int x11_63), .val (.int x12_75), .val (.int x13_84), .val (.ref ob5), .val (.ref ob45), .unset, .unset, .unset] [(.int x6_15), (.int (1 : Int32)), (.ref ob45)])
    obtain ⟨cl47, Ar47, q47, S47, M47, H47, G47⟩ := id V46
    have hin47 : ¬ ((1 : Int32) < 0 ∨ cl47.slots.size ≤ ((1 : Int32)).toNatClampNeg) := inb_of S47 ⟨by decide, by decide⟩
    obtain ⟨T47, h47, X47, e47, W47, st47⟩ := stI X46 hx hZ e46 Ar47 (j := (1 : Int32)) hin47 (g := (mkF m 147 #[.val (.int p0), .val (.int p1), .val (.int p2), .val (.int p3), .val (.int p4), .val (.int (2 : Int32)), .val (.int x6_15), .val (.int x7_23), .val (.int x8_34), .val (.int x9_43), .val (.int x10_54), .val (.int x11_63), .val (.int x12_75), .val (.int x13_84), .val (.ref ob5), .val (.ref ob45), .unset, .unset, .unset] [(.int x6_15), (.int (1 : Int32)), (.ref ob45)])) rfl rfl (hb hby at_147)
    refine own_go st47 ?_
    have V47 : Arv Z h47 ob45 ka45 .int (2 : Int32) [(.int (0 : Int32)), (.int x6_15)] (.int (0 : Int32)) := Arv.set Ar47 q47 S47 M47 H47 G47 rfl W47 1 rfl (Nat.le_of_ble_eq_true rfl)
    have N47 := Fr.snoc X47 N46 g_ob45
    have Zp47 : n0 ≤ h47.size := Nat.le_trans Zp46 (Keep.of_wr W47).1
    show own_G p e below Φ T47 (mkF m 148 #[.val (.int p0), .val (.int p1), .val (.int p2), .val (.int p3), .val (.int p4), .val (.int (2 : Int32)), .val (.int x6_15), .val (.int x7_23), .val (.int x8_34), .val (.int x9_43), .val (.int x10_54), .val (.int x11_63), .val (.int x12_75), .val (.int x13_84), .val (.ref ob5), .val (.ref ob45), .unset, .unset, .unset] [])
    refine own_go (fun _ => XS.iload X47.here hx rfl (hb hby at_148) rfl) ?_
    show own_G p e below Φ T47 (mkF m 150 #[.val (.int p0), .val (.int p1), .val (.int p2), .val (.int p3), .val (.int p4), .val (.int (2 : Int32)), .val (.int x6_15), .val (.int x7_23), .val (.int x8_34), .val (.int x9_43), .val (.int x10_54), .val (.int x11_63), .val (.int x12_75), .val (.int x13_84), .val (.ref ob5), .val (.ref ob45), .unset, .unset, .unset] [(.int (2 : Int32))])
    refine own_go (fun _ => XS.iconst X47.here hx rfl (hb hby at_150)) ?_
    show own_G p e below Φ T47 (mkF m 151 #[.val (.int p0), .val (.int p1), .val (.int p2), .val (.int p3), .val (.int p4), .val (.int (2 : Int32)), .val (.int x6_15), .val (.int x7_23), .val (.int x8_34), .val (.int x9_43), .val (.int x10_54), .val (.int x11_63), .val (.int x12_75), .val (.int x13_84), .val (.ref ob5), .val (.ref ob45), .unset, .unset, .unset] [(.int (2 : Int32)), (.int (2 : Int32))])
    refine own_go (fun _ => XS.icmpYes X47.here hx rfl (pc0 := 151) (pc' := 160) rfl (hb hby at_151) rfl (Jvm.Free.XT.ii_le_t (by decide : ¬ ((2 : Int32) < (2 : Int32)))) (by decide) (by decide)) ?_
    show own_G p e below Φ T47 (mkF m 160 #[.val (.int p0), .val (.int p1), .val (.int p2), .val (.int p3), .val (.int p4), .val (.int (2 : Int32)), .val (.int x6_15), .val (.int x7_23), .val (.int x8_34), .val (.int x9_43), .val (.int x10_54), .val (.int x11_63), .val (.int x12_75), .val (.int x13_84), .val (.ref ob5), .val (.ref ob45), .unset, .unset, .unset] [])
    refine own_go (fun _ => XS.iload X47.here hx rfl (hb hby at_160) rfl) ?_
    show own_G p e below Φ T47 (mkF m 162 #[.val (.int p0), .val (.int p1), .val (.int p2), .val (.int p3), .val (.int p4), .val (.int (2 : Int32)), .val (.int x6_15), .val (.int x7_23), .val (.int x8_34), .val (.int x9_43), .val (.int x10_54), .val (.int x11_63), .val (.int x12_75), .val (.int x13_84), .val (.ref ob5), .val (.ref ob45), .unset, .unset, .unset] [(.int (2 : Int32))])
    refine own_go (fun _ => XS.iconst X47.here hx rfl (hb hby at_162)) ?_
    show own_G p e below Φ T47 (mkF m 163 #[.val (.int p0), .val (.int p1), .val (.int p2), .val (.int p3), .val (.int p4), .val (.int (2 : Int32)), .val (.int x6_15), .val (.int x7_23), .val (.int x8_34), .val (.int x9_43), .val (.int x10_54), .val (.int x11_63), .val (.int x12_75), .val (.int x13_84), .val (.ref ob5), .val (.ref ob45), .unset, .unset, .unset] [(.int (3 : Int32)), (.int (2 : Int32))])
    refine own_go (fun _ => XS.icmpYes X47.here hx rfl (pc0 := 163) (pc' := 172) rfl (hb hby at_163) rfl (Jvm.Free.XT.ii_le_t (by decide : ¬ ((3 : Int32) < (2 : Int32)))) (by decide) (by decide)) ?_
    show own_G p e below Φ T47 (mkF m 172 #[.val (.int p0), .val (.int p1), .val (.int p2), .val (.int p3), .val (.int p4), .val (.int (2 : Int32)), .val (.int x6_15), .val (.int x7_23), .val (.int x8_34), .val (.int x9_43), .val (.int x10_54), .val (.int x11_63), .val (.int x12_75), .val (.int x13_84), .val (.ref ob5), .val (.ref ob45), .unset, .unset, .unset] [])
    refine own_go (fun _ => XS.iload X47.here hx rfl (hb hby at_172) rfl) ?_
    show own_G p e below Φ T47 (mkF m 174 #[.val (.int p0), .val (.int p1), .val (.int p2), .val (.int p3), .val (.int p4), .val (.int (2 : Int32)), .val (.int x6_15), .val (.int x7_23), .val (.int x8_34), .val (.int x9_43), .val (.int x10_54), .val (.int x11_63), .val (.int x12_75), .val (.int x13_84), .val (.ref ob5), .val (.ref ob45), .unset, .unset, .unset] [(.int (2 : Int32))])
    refine own_go (fun _ => XS.iconst X47.here hx rfl (hb hby at_174)) ?_
    show own_G p e below Φ T47 (mkF m 175 #[.val (.int p0), .val (.int p1), .val (.int p2), .val (.int p3), .val (.int p4), .val (.int (2 : Int32)), .val (.int x6_15), .val (.int x7_23), .val (.int x8_34), .val (.int x9_43), .val (.int x10_54), .val (.int x11_63), .val (.int x12_75), .val (.int x13_84), .val (.ref ob5), .val (.ref ob45), .unset, .unset, .unset] [(.int (4 : Int32)), (.int (2 : Int32))])
    refine own_go (fun _ => XS.icmpYes X47.here hx rfl (pc0 := 175) (pc' := 184) rfl (hb hby at_175) rfl (Jvm.Free.XT.ii_le_t (by decide : ¬ ((4 : Int32) < (2 : Int32)))) (by decide) (by decide)) ?_
    show own_G p e below Φ T47 (mkF m 184 #[.val (.int p0), .val (.int p1), .val (.int p2), .val (.int p3), .val (.int p4), .val (.int (2 : Int32)), .val (.int x6_15), .val (.int x7_23), .val (.int x8_34), .val (.int x9_43), .val (.int x10_54), .val (.int x11_63), .val (.int x12_75), .val (.int x13_84), .val (.ref ob5), .val (.ref ob45), .unset, .unset, .unset] [])
    refine own_go (fun _ => XS.iconst X47.here hx rfl (hb hby at_184)) ?_
    show own_G p e below Φ T47 (mkF m 185 #[.val (.int p0), .val (.int p1), .val (.int p2), .val (.int p3), .val (.int p4), .val (.int (2 : Int32)), .val (.int x6_15), .val (.int x7_23), .val (.int x8_34), .val (.int x9_43), .val (.int x10_54), .val (.int x11_63), .val (.int x12_75), .val (.int x13_84), .val (.ref ob5), .val (.ref ob45), .unset, .unset, .unset] [(.int (0 : Int32))])
    refine own_go (fun _ => XS.istore X47.here hx rfl (hb hby at_185) rfl (l' := #[.val (.int p0), .val (.int p1), .val (.int p2), .val (.int p3), .val (.int p4), .val (.int (2 : Int32)), .val (.int x6_15), .val (.int x7_23), .val (.int x8_34), .val (.int x9_43), .val (.int x10_54), .val (.int x11_63), .val (.int x12_75), .val (.int x13_84), .val (.ref ob5), .val (.ref ob45), .val (.int (0 : Int32)), .unset, .unset]) rfl) ?_
    show own_G p e below Φ T47 (mkF m 187 #[.val (.int p0), .val (.int p1), .val (.int p2), .val (.int p3), .val (.int p4), .val (.int (2 : Int32)), .val (.int x6_15), .val (.int x7_23), .val (.int x8_34), .val (.int x9_43), .val (.int x10_54), .val (.int x11_63), .val (.int x12_75), .val (.int x13_84), .val (.ref ob5), .val (.ref ob45), .val (.int (0 : Int32)), .unset, .unset] [])
    refine own_go (fun _ => XS.iload X47.here hx rfl (hb hby at_187) rfl) ?_
    show own_G p e below Φ T47 (mkF m 189 #[.val (.int p0), .val (.int p1), .val (.int p2), .val (.int p3), .val (.int p4), .val (.int (2 : Int32)), .val (.int x6_15), .val (.int x7_23), .val (.int x8_34), .val (.int x9_43), .val (.int x10_54), .val (.int x11_63), .val (.int x12_75), .val (.int x13_84), .val (.ref ob5), .val (.ref ob45), .val (.int (0 : Int32)), .unset, .unset] [(.int (2 : Int32))])
    refine own_go (fun _ => XS.iconst X47.here hx rfl (hb hby at_189)) ?_
    show own_G p e below Φ T47 (mkF m 190 #[.val (.int p0), .val (.int p1), .val (.int p2), .val (.int p3), .val (.int p4), .val (.int (2 : Int32)), .val (.int x6_15), .val (.int x7_23), .val (.int x8_34), .val (.int x9_43), .val (.int x10_54), .val (.int x11_63), .val (.int x12_75), .val (.int x13_84), .val (.ref ob5), .val (.ref ob45), .val (.int (0 : Int32)), .unset, .unset] [(.int (1 : Int32)), (.int (2 : Int32))])
    refine own_go (fun _ => XS.icmpYes X47.here hx rfl (pc0 := 190) (pc' := 199) rfl (hb hby at_190) rfl (Jvm.Free.XT.ii_ne_t (by decide : ¬ ((2 : Int32) = (1 : Int32)))) (by decide) (by decide)) ?_
    show own_G p e below Φ T47 (mkF m 199 #[.val (.int p0), .val (.int p1), .val (.int p2), .val (.int p3), .val (.int p4), .val (.int (2 : Int32)), .val (.int x6_15), .val (.int x7_23), .val (.int x8_34), .val (.int x9_43), .val (.int x10_54), .val (.int x11_63), .val (.int x12_75), .val (.int x13_84), .val (.ref ob5), .val (.ref ob45), .val (.int (0 : Int32)), .unset, .unset] [])
    refine own_go (fun _ => XS.iload X47.here hx rfl (hb hby at_199) rfl) ?_
    show own_G p e below Φ T47 (mkF m 201 #[.val (.int p0), .val (.int p1), .val (.int p2), .val (.int p3), .val (.int p4), .val (.int (2 : Int32)), .val (.int x6_15), .val (.int x7_23), .val (.int x8_34), .val (.int x9_43), .val (.int x10_54), .val (.int x11_63), .val (.int x12_75), .val (.int x13_84), .val (.ref ob5), .val (.ref ob45), .val (.int (0 : Int32)), .unset, .unset] [(.int (2 : Int32))])
    refine own_go (fun _ => XS.iconst X47.here hx rfl (hb hby at_201)) ?_
    show own_G p e below Φ T47 (mkF m 202 #[.val (.int p0), .val (.int p1), .val (.int p2), .val (.int p3), .val (.int p4), .val (.int (2 : Int32)), .val (.int x6_15), .val (.int x7_23), .val (.int x8_34), .val (.int x9_43), .val (.int x10_54), .val (.int x11_63), .val (.int x12_75), .val (.int x13_84), .val (.ref ob5), .val (.ref ob45), .val (.int (0 : Int32)), .unset, .unset] [(.int (2 : Int32)), (.int (2 : Int32))])
    refine own_go (fun _ => XS.icmpNo X47.here hx rfl (hb hby at_202) rfl (Jvm.Free.XT.ii_ne_f (by decide : ((2 : Int32) = (2 : Int32))))) ?_
    show own_G p e below Φ T47 (mkF m 205 #[.val (.int p0), .val (.int p1), .val (.int p2), .val (.int p3), .val (.int p4), .val (.int (2 : Int32)), .val (.int x6_15), .val (.int x7_23), .val (.int x8_34), .val (.int x9_43), .val (.int x10_54), .val (.int x11_63), .val (.int x12_75), .val (.int x13_84), .val (.ref ob5), .val (.ref ob45), .val (.int (0 : Int32)), .unset, .unset] [])
    refine own_go (fun _ => XS.iload X47.here hx rfl (hb hby at_205) rfl) ?_
    show own_G p e below Φ T47 (mkF m 207 #[.val (.int p0), .val (.int p1), .val (.int p2), .val (.int p3), .val (.int p4), .val (.int (2 : Int32)), .val (.int x6_15), .val (.int x7_23), .val (.int x8_34), .val (.int x9_43), .val (.int x10_54), .val (.int x11_63), .val (.int x12_75), .val (.int x13_84), .val (.ref ob5), .val (.ref ob45), .val (.int (0 : Int32)), .unset, .unset] [(.int x7_23)])
    refine own_go (fun _ => XS.iconst X47.here hx rfl (hb hby at_207)) ?_
    show own_G p e below Φ T47 (mkF m 208 #[.val (.int p0), .val (.int p1), .val (.int p2), .val (.int p3), .val (.int p4), .val (.int (2 : Int32)), .val (.int x6_15), .val (.int x7_23), .val (.int x8_34), .val (.int x9_43), .val (.int x10_54), .val (.int x11_63), .val (.int x12_75), .val (.int x13_84), .val (.ref ob5), .val (.ref ob45), .val (.int (0 : Int32)), .unset, .unset] [(.int (1 : Int32)), (.int x7_23)])
    refine own_go (fun _ => XS.iadd X47.here hx rfl (hb hby at_208) rfl) ?_
    show own_G p e below Φ T47 (mkF m 209 #[.val (.int p0), .val (.int p1), .val (.int p2), .val (.int p3), .val (.int p4), .val (.int (2 : Int32)), .val (.int x6_15), .val (.int x7_23), .val (.int x8_34), .val (.int x9_43), .val (.int x10_54), .val (.int x11_63), .val (.int x12_75), .val (.int x13_84), .val (.ref ob5), .val (.ref ob45), .val (.int (0 : Int32)), .unset, .unset] [(.int (x7_23 + (1 : Int32)))])
    refine own_go (fun _ => XS.istore X47.here hx rfl (hb hby at_209) rfl (l' := #[.val (.int p0), .val (.int p1), .val (.int p2), .val (.int p3), .val (.int p4), .val (.int (2 : Int32)), .val (.int x6_15), .val (.int x7_23), .val (.int x8_34), .val (.int x9_43), .val (.int x10_54), .val (.int x11_63), .val (.int x12_75), .val (.int x13_84), .val (.ref ob5), .val (.ref ob45), .val (.int (x7_23 + (1 : Int32))), .unset, .unset]) rfl) ?_
    show own_G p e below Φ T47 (mkF m 211 #[.val (.int p0), .val (.int p1), .val (.int p2), .val (.int p3), .val (.int p4), .val (.int (2 : Int32)), .val (.int x6_15), .val (.int x7_23), .val (.int x8_34), .val (.int x9_43), .val (.int x10_54), .val (.int x11_63), .val (.int x12_75), .val (.int x13_84), .val (.ref ob5), .val (.ref ob45), .val (.int (x7_23 + (1 : Int32))), .unset, .unset] [])
    refine own_go (fun _ => XS.goto X47.here hx rfl (pc0 := 211) (pc' := 256) rfl (hb hby at_211) (by decide) (by decide)) ?_
    show own_G p e below Φ T47 (mkF m 256 #[.val (.int p0), .val (.int p1), .val (.int p2), .val (.int p3), .val (.int p4), .val (.int (2 : Int32)), .val (.int x6_15), .val (.int x7_23), .val (.int x8_34), .val (.int x9_43), .val (.int x10_54), .val (.int x11_63), .val (.int x12_75), .val (.int x13_84), .val (.ref ob5), .val (.ref ob45), .val (.int (x7_23 + (1 : Int32))), .unset, .unset] [])
    obtain ⟨T48, h48, X48, e48, E48, A48, D48, -, st48⟩ := newO X47 hx hZ hown (wd_6 hw) (wd_7 hw) (wd_8 hw) e47 (g := (mkF m 256 #[.val (.int p0), .val (.int p1), .val (.int p2), .val (.int p3), .val (.int p4), .val (.int (2 : Int32)), .val (.int x6_15), .val (.int x7_23), .val (.int x8_34), .val (.int x9_43), .val (.int x10_54), .val (.int x11_63), .val (.int x12_75), .val (.int x13_84), .val (.ref ob5), .val (.ref ob45), .val (.int (x7_23 + (1 : Int32))), .unset, .unset] [])) rfl (hb hby at_256) (by decide) (by decide)
    obtain ⟨ob48, g48⟩ : ∃ z, z = h47.size := ⟨_, rfl⟩
    rw [← g48] at A48 D48 st48
    have f49 : Arv Z h45 ob5 ka5 .int (5 : Int32) [(.int (0 : Int32)), (.int x6_15), (.int x8_34), (.int x10_54), (.int x12_75)] (.int (0 : Int32)) := V10.ext E45
    have f50 : Arv Z h46 ob5 ka5 .int (5 : Int32) [(.int (0 : Int32)), (.int x6_15), (.int x8_34), (.int x10_54), (.int x12_75)] (.int (0 : Int32)) := f49.other W46 ne_ob5_ob45
    have f51 : Arv Z h47 ob5 ka5 .int (5 : Int32) [(.int (0 : Int32)), (.int x6_15), (.int x8_34), (.int x10_54), (.int x12_75)] (.int (0 : Int32)) := f50.other W47 ne_ob5_ob45
    have ne_ob5_ob48 : ob5 ≠ ob48 := Nat.ne_of_lt (Nat.lt_of_lt_of_le f51.lt (Nat.le_of_eq g48.symm))
    have ne_ob45_ob48 : ob45 ≠ ob48 := Nat.ne_of_lt (Nat.lt_of_lt_of_le V47.lt (Nat.le_of_eq g48.symm))
    have g_ob48 : n0 ≤ ob48 := Nat.le_trans Zp47 (Nat.le_of_eq g48.symm)
    have Zp48 : n0 ≤ h48.size := Nat.le_trans Zp47 E48.1
    refine own_go st48 ?_
    have F_m_aClasses_ob48 : Fld Z h48 ob48 "com/example/edgewarden/edgewarden/graph/Likeness" "m_aClasses" "[I" .null := D48 (Or.inr (wd_16 hw)) (ty := (.array .int)) (by decide)
    have F_m_nClassCount_ob48 : Fld Z h48 ob48 "com/example/edgewarden/edgewarden/graph/Likeness" "m_nClassCount" "I" (.int (0 : Int32)) := D48 (Or.inr (wd_18 hw)) (ty := .int) (by decide)
    show own_G p e below Φ T48 (mkF m 259 #[.val (.int p0), .val (.int p1), .val (.int p2), .val (.int p3), .val (.int p4), .val (.int (2 : Int32)), .val (.int x6_15), .val (.int x7_23), .val (.int x8_34), .val (.int x9_43), .val (.int x10_54), .val (.int x11_63), .val (.int x12_75), .val (.int x13_84), .val (.ref ob5), .val (.ref ob45), .val (.int (x7_23 + (1 : Int32))), .unset, .unset] [(.ref ob48)])
    refine own_go (fun _ => XS.dup X48.here hx rfl (hb hby at_259) rfl rfl) ?_
    show own_G p e below Φ T48 (mkF m 260 #[.val (.int p0), .val (.int p1), .val (.int p2), .val (.int p3), .val (.int p4), .val (.int (2 : Int32)), .val (.int x6_15), .val (.int x7_23), .val (.int x8_34), .val (.int x9_43), .val (.int x10_54), .val (.int x11_63), .val (.int x12_75), .val (.int x13_84), .val (.ref ob5), .val (.ref ob45), .val (.int (x7_23 + (1 : Int32))), .unset, .unset] [(.ref ob48), (.ref ob48)])
    refine own_go (fun _ => XS.aload X48.here hx rfl (hb hby at_260) rfl rfl) ?_
    show own_G p e below Φ T48 (mkF m 262 #[.val (.int p0), .val (.int p1), .val (.int p2), .val (.int p3), .val (.int p4), .val (.int (2 : Int32)), .val (.int x6_15), .val (.int x7_23), .val (.int x8_34), .val (.int x9_43), .val (.int x10_54), .val (.int x11_63), .val (.int x12_75), .val (.int x13_84), .val (.ref ob5), .val (.ref ob45), .val (.int (x7_23 + (1 : Int32))), .unset, .unset] [(.ref ob45), (.ref ob48), (.ref ob48)])
    have f52 : Arv Z h48 ob45 ka45 .int (2 : Int32) [(.int (0 : Int32)), (.int x6_15)] (.int (0 : Int32)) := V47.ext E48
    obtain ⟨_, _, ⟨T53, zL53, zk53, zn53⟩, -, X53, ⟨Lc53, hQ53, l53, y53, z53⟩, st53⟩ := X48.specialBack hx (y := (⟨"com/example/edgewarden/edgewarden/graph/Likeness", "<init>", "([I)V"⟩ : MethodName)) rfl hown (mvT hZ (wd_9 hw)) (mvT hZ (wd_10 hw)) (mvT hZ (wd_11 hw)) (by decide) (backOf (W := 1) (rmI2 l Z a0 hw [] ob48 ob45 ka45 (0 : Int32) x6_15 .null (.int (0 : Int32)) h48 n0 Zp48 A48 F_m_aClasses_ob48 F_m_nClassCount_ob48 g_ob48 f52 ne_ob45_ob48) hZ (wd_11 hw) (wd_8 hw) (by decide) (by decide)) (g := (mkF m 262 #[.val (.int p0), .val (.int p1), .val (.int p2), .val (.int p3), .val (.int p4), .val (.int (2 : Int32)), .val (.int x6_15), .val (.int x7_23), .val (.int x8_34), .val (.int x9_43), .val (.int x10_54), .val (.int x11_63), .val (.int x12_75), .val (.int x13_84), .val (.ref ob5), .val (.ref ob45), .val (.int (x7_23 + (1 : Int32))), .unset, .unset] [(.ref ob45), (.ref ob48), (.ref ob48)])) rfl (by rw [hml]; rfl) (Steps.refl _) (a := ob48) (argsL := [(.ref ob45)]) (rest := [(.ref ob48)]) (lenOf pd_2 rfl) rfl (by show 2 * 0 + _ ≤ _; exact Nat.le_of_eq rfl) (hb hby at_262) (fun _ _ => ⟨rfl, e48, (by decide : 3 + 0 ≤ _), (by decide : 9 + 0 ≤ _)⟩)
    dsimp only [Pt.U, Pt.locs, Pt.cells, Pt.slots] at X53 l53 y53 z53 st53 hQ53
    subst l53 y53 z53
    obtain ⟨rfl, N53q, Kq53, p53_0, p53_1, p53_2⟩ := hQ53
    have N53 := Fr.app N47 N53q
    refine own_on st53 ?_
    have Zp53 : n0 ≤ T53.heap.size := Nat.le_trans Zp48 Kq53.1
    show own_G p e below Φ T53 (mkF m 265 #[.val (.int p0), .val (.int p1), .val (.int p2), .val (.int p3), .val (.int p4), .val (.int (2 : Int32)), .val (.int x6_15), .val (.int x7_23), .val (.int x8_34), .val (.int x9_43), .val (.int x10_54), .val (.int x11_63), .val (.int x12_75), .val (.int x13_84), .val (.ref ob5), .val (.ref ob45), .val (.int (x7_23 + (1 : Int32))), .unset, .unset] [(.ref ob48)])
    refine own_go (fun _ => XS.astore X53.here hx rfl (hb hby at_265) rfl rfl (l' := #[.val (.int p0), .val (.int p1), .val (.int p2), .val (.int p3), .val (.int p4), .val (.int (2 : Int32)), .val (.int x6_15), .val (.int x7_23), .val (.int x8_34), .val (.int x9_43), .val (.int x10_54), .val (.int x11_63), .val (.int x12_75), .val (.int x13_84), .val (.ref ob5), .val (.ref ob45), .val (.int (x7_23 + (1 : Int32))), .val (.ref ob48), .unset]) rfl) ?_
    show own_G p e below Φ T53 (mkF m 267 #[.val (.int p0), .val (.int p1), .val (.int p2), .val (.int p3), .val (.int p4), .val (.int (2 : Int32)), .val (.int x6_15), .val (.int x7_23), .val (.int x8_34), .val (.int x9_43), .val (.int x10_54), .val (.int x11_63), .val (.int x12_75), .val (.int x13_84), .val (.ref ob5), .val (.ref ob45), .val (.int (x7_23 + (1 : Int32))), .val (.ref ob48), .unset] [])
    refine own_go (fun _ => XS.aload X53.here hx rfl (hb hby at_267) rfl rfl) ?_
    show own_G p e below Φ T53 (mkF m 269 #[.val (.int p0), .val (.int p1), .val (.int p2), .val (.int p3), .val (.int p4), .val (.int (2 : Int32)), .val (.int x6_15), .val (.int x7_23), .val (.int x8_34), .val (.int x9_43), .val (.int x10_54), .val (.int x11_63), .val (.int x12_75), .val (.int x13_84), .val (.ref ob5), .val (.ref ob45), .val (.int (x7_23 + (1 : Int32))), .val (.ref ob48), .unset] [(.ref ob48)])
    have f54 : Arv Z T53.heap ob45 ka45 .int (2 : Int32) [(.int (0 : Int32)), (.int x6_15)] (.int (0 : Int32)) := f52.keep Kq53 (ninS ne_ob45_ob48 nin0)
    obtain ⟨cq55, kq55, q55a, q55b, q55c⟩ := isOf hZ rfl p53_0
    obtain ⟨_, _, ⟨T55, zL55, zk55, zn55⟩, -, X55, ⟨Lc55, hQ55, l55, y55, z55⟩, st55⟩ := X53.virtualBack hx (y := (⟨"com/example/edgewarden/edgewarden/graph/Likeness", "getFirstMembers", "()[I"⟩ : MethodName)) (z := (⟨"com/example/edgewarden/edgewarden/graph/Likeness", "getFirstMembers", "()[I"⟩ : MethodName)) hown (mvT hZ (wd_19 hw)) (mvT hZ (wd_20 hw)) (notFace_of_selects (args := #[]) (mvT hZ (wd_22 hw))) (mvT hZ (wd_22 hw)) (mvT hZ (wd_21 hw)) (by decide) (backOf (W := 0) (rmS2 l Z a0 hw [] ob48 ob45 ka45 (own_max (own_max (0 : Int32) ((0 : Int32) + (1 : Int32))) (x6_15 + (1 : Int32))) (0 : Int32) x6_15 T53.heap n0 Zp53 p53_2 p53_1 f54 (own_use (P := fun t => ¬ (own_max (own_max (0 : Int32) ((0 : Int32) + (1 : Int32))) (t.1 + (1 : Int32))) < 0) (by decide +kernel) hall) (own_use (P := fun t => ((own_max (own_max (0 : Int32) ((0 : Int32) + (1 : Int32))) (t.1 + (1 : Int32)))).toNatClampNeg ≤ 5) (by decide +kernel) hall) (own_use (P := fun t => ¬ (0 : Int32) < 0 ∧ (0 : Int32) < (own_max (own_max (0 : Int32) ((0 : Int32) + (1 : Int32))) (t.1 + (1 : Int32)))) (by decide +kernel) hall) (own_use (P := fun t => ¬ t.1 < 0 ∧ t.1 < (own_max (own_max (0 : Int32) ((0 : Int32) + (1 : Int32))) (t.1 + (1 : Int32)))) (by decide +kernel) hall)) hZ (wd_23 hw) (wd_8 hw) (by decide) (by decide)) q55a q55c (g := (mkF m 269 #[.val (.int p0), .val (.int p1), .val (.int p2), .val (.int p3), .val (.int p4), .val (.int (2 : Int32)), .val (.int x6_15), .val (.int x7_23), .val (.int x8_34), .val (.int x9_43), .val (.int x10_54), .val (.int x11_63), .val (.int x12_75), .val (.int x13_84), .val (.ref ob5), .val (.ref ob45), .val (.int (x7_23 + (1 : Int32))), .val (.ref ob48), .unset] [(.ref ob48)])) rfl (by rw [hml]; rfl) (Steps.refl _) (argsL := []) (rest := []) (lenOf pd_3 rfl) rfl (by show 2 * 0 + _ ≤ _; exact Nat.le_of_eq rfl) (hb hby at_269) (fun _ _ => ⟨rfl, rfl, (by decide : 3 + 1 ≤ _), (by decide : 9 + 5 ≤ _)⟩)
    dsimp only [Pt.U, Pt.locs, Pt.cells, Pt.slots] at X55 l55 y55 z55 st55 hQ55
    subst l55 y55 z55
    obtain ⟨b_55, ns_b_55, kb_55, rfl, N55q, Kq55, p55_0⟩ := hQ55
    have N55 := Fr.app N53 N55q
    refine own_on st55 ?_
    have f56 : Arv Z h48 ob5 ka5 .int (5 : Int32) [(.int (0 : Int32)), (.int x6_15), (.int x8_34), (.int x10_54), (.int x12_75)] (.int (0 : Int32)) := f51.ext E48
    have f57 : Arv Z T53.heap ob5 ka5 .int (5 : Int32) [(.int (0 : Int32)), (.int x6_15), (.int x8_34), (.int x10_54), (.int x12_75)] (.int (0 : Int32)) := f56.keep Kq53 (ninS ne_ob5_ob48 nin0)
    have ne_ob5_b_55 : ob5 ≠ b_55 := Nat.ne_of_lt (Nat.lt_of_lt_of_le f57.lt ns_b_55)
    have ne_ob45_b_55 : ob45 ≠ b_55 := Nat.ne_of_lt (Nat.lt_of_lt_of_le f54.lt ns_b_55)
    have ne_ob48_b_55 : ob48 ≠ b_55 := Nat.ne_of_lt (Nat.lt_of_lt_of_le p53_0.lt ns_b_55)
    have g_b_55 : n0 ≤ b_55 := Nat.le_trans Zp53 ns_b_55
    have Zp55 : n0 ≤ T55.heap.size := Nat.le_trans Zp53 Kq55.1
    show own_G p e below Φ T55 (mkF m 272 #[.val (.int p0), .val (.int p1), .val (.int p2), .val (.int p3), .val (.int p4), .val (.int (2 : Int32)), .val (.int x6_15), .val (.int x7_23), .val (.int x8_34), .val (.int x9_43), .val (.int x10_54), .val (.int x11_63), .val (.int x12_75), .val (.int x13_84), .val (.ref ob5), .val (.ref ob45), .val (.int (x7_23 + (1 : Int32))), .val (.ref ob48), .unset] [(.ref b_55)])
    refine own_go (fun _ => XS.astore X55.here hx rfl (hb hby at_272) rfl rfl (l' := #[.val (.int p0), .val (.int p1), .val (.int p2), .val (.int p3), .val (.int p4), .val (.int (2 : Int32)), .val (.int x6_15), .val (.int x7_23), .val (.int x8_34), .val (.int x9_43), .val (.int x10_54), .val (.int x11_63), .val (.int x12_75), .val (.int x13_84), .val (.ref ob5), .val (.ref ob45), .val (.int (x7_23 + (1 : Int32))), .val (.ref ob48), .val (.ref b_55)]) rfl) ?_
    show own_G p e below Φ T55 (mkF m 274 #[.val (.int p0), .val (.int p1), .val (.int p2), .val (.int p3), .val (.int p4), .val (.int (2 : Int32)), .val (.int x6_15), .val (.int x7_23), .val (.int x8_34), .val (.int x9_43), .val (.int x10_54), .val (.int x11_63), .val (.int x12_75), .val (.int x13_84), .val (.ref ob5), .val (.ref ob45), .val (.int (x7_23 + (1 : Int32))), .val (.ref ob48), .val (.ref b_55)] [])
    refine own_go (fun _ => XS.aload X55.here hx rfl (hb hby at_274) rfl rfl) ?_
    show own_G p e below Φ T55 (mkF m 276 #[.val (.int p0), .val (.int p1), .val (.int p2), .val (.int p3), .val (.int p4), .val (.int (2 : Int32)), .val (.int x6_15), .val (.int x7_23), .val (.int x8_34), .val (.int x9_43), .val (.int x10_54), .val (.int x11_63), .val (.int x12_75), .val (.int x13_84), .val (.ref ob5), .val (.ref ob45), .val (.int (x7_23 + (1 : Int32))), .val (.ref ob48), .val (.ref b_55)] [(.ref b_55)])
    refine own_go (fun _ => XS.ifnullNo X55.here hx rfl (hb hby at_276) rfl) ?_
    show own_G p e below Φ T55 (mkF m 279 #[.val (.int p0), .val (.int p1), .val (.int p2), .val (.int p3), .val (.int p4), .val (.int (2 : Int32)), .val (.int x6_15), .val (.int x7_23), .val (.int x8_34), .val (.int x9_43), .val (.int x10_54), .val (.int x11_63), .val (.int x12_75), .val (.int x13_84), .val (.ref ob5), .val (.ref ob45), .val (.int (x7_23 + (1 : Int32))), .val (.ref ob48), .val (.ref b_55)] [])
    refine own_go (fun _ => XS.aload X55.here hx rfl (hb hby at_279) rfl rfl) ?_
    show own_G p e below Φ T55 (mkF m 281 #[.val (.int p0), .val (.int p1), .val (.int p2), .val (.int p3), .val (.int p4), .val (.int (2 : Int32)), .val (.int x6_15), .val (.int x7_23), .val (.int x8_34), .val (.int x9_43), .val (.int x10_54), .val (.int x11_63), .val (.int x12_75), .val (.int x13_84), .val (.ref ob5), .val (.ref ob45), .val (.int (x7_23 + (1 : Int32))), .val (.ref ob48), .val (.ref b_55)] [(.ref b_55)])
    obtain ⟨cl58, Ar58, q58, S58, M58, H58, G58⟩ := id p55_0
    refine own_go (fun _ => X55.arraylength hx Ar58.1 (State.isArrayOf_alike hZ.alike Ar58.2.1) (g := (mkF m 281 #[.val (.int p0), .val (.int p1), .val (.int p2), .val (.int p3), .val (.int p4), .val (.int (2 : Int32)), .val (.int x6_15), .val (.int x7_23), .val (.int x8_34), .val (.int x9_43), .val (.int x10_54), .val (.int x11_63), .val (.int x12_75), .val (.int x13_84), .val (.ref ob5), .val (.ref ob45), .val (.int (x7_23 + (1 : Int32))), .val (.ref ob48), .val (.ref b_55)] [(.ref b_55)])) rfl rfl (hb hby at_281) _) ?_
    rw [len_of S58 M58]
    show own_G p e below Φ T55 (mkF m 282 #[.val (.int p0), .val (.int p1), .val (.int p2), .val (.int p3), .val (.int p4), .val (.int (2 : Int32)), .val (.int x6_15), .val (.int x7_23), .val (.int x8_34), .val (.int x9_43), .val (.int x10_54), .val (.int x11_63), .val (.int x12_75), .val (.int x13_84), .val (.ref ob5), .val (.ref ob45), .val (.int (x7_23 + (1 : Int32))), .val (.ref ob48), .val (.ref b_55)] [(.int (own_max (own_max (0 : Int32) ((0 : Int32) + (1 : Int32))) (x6_15 + (1 : Int32))))])
    refine own_go (fun _ => XS.iload X55.here hx rfl (hb hby at_282) rfl) ?_
    show own_G p e below Φ T55 (mkF m 284 #[.val (.int p0), .val (.int p1), .val (.int p2), .val (.int p3), .val (.int p4), .val (.int (2 : Int32)), .val (.int x6_15), .val (.int x7_23), .val (.int x8_34), .val (.int x9_43), .val (.int x10_54), .val (.int x11_63), .val (.int x12_75), .val (.int x13_84), .val (.ref ob5), .val (.ref ob45), .val (.int (x7_23 + (1 : Int32))), .val (.ref ob48), .val (.ref b_55)] [(.int (x7_23 + (1 : Int32))), (.int (own_max (own_max (0 : Int32) ((0 : Int32) + (1 : Int32))) (x6_15 + (1 : Int32))))])
    refine own_go (fun _ => XS.icmpYes X55.here hx rfl (pc0 := 284) (pc' := 289) rfl (hb hby at_284) rfl (Jvm.Free.XT.ii_eq_t (own_use (P := fun t => (own_max (own_max (0 : Int32) ((0 : Int32) + (1 : Int32))) (t.1 + (1 : Int32))) = (t.2.1 + (1 : Int32))) (by decide +kernel) hall)) (by decide) (by decide)) ?_
    show own_G p e below Φ T55 (mkF m 289 #[.val (.int p0), .val (.int p1), .val (.int p2), .val (.int p3), .val (.int p4), .val (.int (2 : Int32)), .val (.int x6_15), .val (.int x7_23), .val (.int x8_34), .val (.int x9_43), .val (.int x10_54), .val (.int x11_63), .val (.int x12_75), .val (.int x13_84), .val (.ref ob5), .val (.ref ob45), .val (.int (x7_23 + (1 : Int32))), .val (.ref ob48), .val (.ref b_55)] [])
    refine own_go (fun _ => XS.aload X55.here hx rfl (hb hby at_289) rfl rfl) ?_
    show own_G p e below Φ T55 (mkF m 291 #[.val (.int p0), .val (.int p1), .val (.int p2), .val (.int p3), .val (.int p4), .val (.int (2 : Int32)), .val (.int x6_15), .val (.int x7_23), .val (.int x8_34), .val (.int x9_43), .val (.int x10_54), .val (.int x11_63), .val (.int x12_75), .val (.int x13_84), .val (.ref ob5), .val (.ref ob45), .val (.int (x7_23 + (1 : Int32))), .val (.ref ob48), .val (.ref b_55)] [(.ref b_55)])
    refine own_go (fun _ => XS.aload X55.here hx rfl (hb hby at_291) rfl rfl) ?_
    show own_G p e below Φ T55 (mkF m 293 #[.val (.int p0), .val (.int p1), .val (.int p2), .val (.int p3), .val (.int p4), .val (.int (2 : Int32)), .val (.int x6_15), .val (.int x7_23), .val (.int x8_34), .val (.int x9_43), .val (.int x10_54), .val (.int x11_63), .val (.int x12_75), .val (.int x13_84), .val (.ref ob5), .val (.ref ob45), .val (.int (x7_23 + (1 : Int32))), .val (.ref ob48), .val (.ref b_55)] [(.ref ob5), (.ref b_55)])
    refine own_go (fun _ => XS.iload X55.here hx rfl (hb hby at_293) rfl) ?_
    show own_G p e below Φ T55 (mkF m 295 #[.val (.int p0), .val (.int p1), .val (.int p2), .val (.int p3), .val (.int p4), .val (.int (2 : Int32)), .val (.int x6_15), .val (.int x7_23), .val (.int x8_34), .val (.int x9_43), .val (.int x10_54), .val (.int x11_63), .val (.int x12_75), .val (.int x13_84), .val (.ref ob5), .val (.ref ob45), .val (.int (x7_23 + (1 : Int32))), .val (.ref ob48), .val (.ref b_55)] [(.int (2 : Int32)), (.ref ob5), (.ref b_55)])
    refine own_go (fun _ => XS.iconst X55.here hx rfl (hb hby at_295)) ?_
    show own_G p e below Φ T55 (mkF m 296 #[.val (.int p0), .val (.int p1), .val (.int p2), .val (.int p3), .val (.int p4), .val (.int (2 : Int32)), .val (.int x6_15), .val (.int x7_23), .val (.int x8_34), .val (.int x9_43), .val (.int x10_54), .val (.int x11_63), .val (.int x12_75), .val (.int x13_84), .val (.ref ob5), .val (.ref ob45), .val (.int (x7_23 + (1 : Int32))), .val (.ref ob48), .val (.ref b_55)] [(.int (0 : Int32)), (.int (2 : Int32)), (.ref ob5), (.ref b_55)])
    have f59 : Arv Z T55.heap ob5 ka5 .int (5 : Int32) [(.int (0 : Int32)), (.int x6_15), (.int x8_34), (.int x10_54), (.int x12_75)] (.int (0 : Int32)) := f57.keep Kq55 nin0
    obtain ⟨_, _, ⟨T60, zL60, zk60, zn60⟩, -, X60, ⟨Lc60, hQ60, l60, y60, z60⟩, st60⟩ := Jvm.LawKit.callS X55 hx (y := (⟨"com/example/edgewarden/edgewarden/graph/LikenessGetFirstMembersPinLaw", "ok", "([I[III)Z"⟩ : MethodName)) hown (mvT hZ (wd_24 hw)) (mvT hZ (wd_25 hw)) (mvT hZ (wd_26 hw)) (mvT hZ (wd_27 hw)) (by decide) (backOf (W := 0) (rmK l Z a0 hw [] b_55 ob5 kb_55 ka5 (own_max (own_max (0 : Int32) ((0 : Int32) + (1 : Int32))) (x6_15 + (1 : Int32))) (own_put (own_put (own_zeros (own_max (own_max (0 : Int32) ((0 : Int32) + (1 : Int32))) (x6_15 + (1 : Int32)))) x6_15 (1 : Int32)) (0 : Int32) (0 : Int32)) (2 : Int32) (0 : Int32) (0 : Int32) x6_15 x8_34 x10_54 x12_75 T55.heap n0 Zp55 p55_0 f59 (by decide) (own_use (P := fun t => (0 : Int32) < (own_max (own_max (0 : Int32) ((0 : Int32) + (1 : Int32))) (t.1 + (1 : Int32))) → ((own_put (own_put (own_zeros (own_max (own_max (0 : Int32) ((0 : Int32) + (1 : Int32))) (t.1 + (1 : Int32)))) t.1 (1 : Int32)) (0 : Int32) (0 : Int32))).getD ((0 : Int32)).toNatClampNeg 0 = own_first (0 : Int32) t.1 t.2.2.1 t.2.2.2.2.1 t.2.2.2.2.2.2.1 (2 : Int32) (0 : Int32)) (by decide +kernel) hall)) hZ (wd_27 hw) (wd_26 hw) (by decide) (by decide)) (g := (mkF m 296 #[.val (.int p0), .val (.int p1), .val (.int p2), .val (.int p3), .val (.int p4), .val (.int (2 : Int32)), .val (.int x6_15), .val (.int x7_23), .val (.int x8_34), .val (.int x9_43), .val (.int x10_54), .val (.int x11_63), .val (.int x12_75), .val (.int x13_84), .val (.ref ob5), .val (.ref ob45), .val (.int (x7_23 + (1 : Int32))), .val (.ref ob48), .val (.ref b_55)] [(.int (0 : Int32)), (.int (2 : Int32)), (.ref ob5), (.ref b_55)])) rfl (by rw [hml]; rfl) (argsL := [(.ref b_55), (.ref ob5), (.int (2 : Int32)), (.int (0 : Int32))]) (rest := []) (lenOf pd_4 rfl) rfl (by show 2 * 0 + _ ≤ _; exact Nat.le_of_eq rfl) (hb hby at_296) (fun _ _ => ⟨rfl, rfl, (by decide : 4 + 0 ≤ _), (by decide : 14 + 0 ≤ _)⟩)
    dsimp only [Pt.U, Pt.locs, Pt.cells, Pt.slots] at X60 l60 y60 z60 st60 hQ60
    subst l60 y60 z60
    obtain ⟨rfl, N60q, hs60⟩ := hQ60
    have N60 := Fr.app N55 N60q
    refine own_go st60 ?_
    show own_G p e below Φ T60 (mkF m 299 #[.val (.int p0), .val (.int p1), .val (.int p2), .val (.int p3), .val (.int p4), .val (.int (2 : Int32)), .val (.int x6_15), .val (.int x7_23), .val (.int x8_34), .val (.int x9_43), .val (.int x10_54), .val (.int x11_63), .val (.int x12_75), .val (.int x13_84), .val (.ref ob5), .val (.ref ob45), .val (.int (x7_23 + (1 : Int32))), .val (.ref ob48), .val (.ref b_55)] [(.int (1 : Int32))])
    refine own_go (fun _ => XS.ifNo X60.here hx rfl (hb hby at_299) rfl (Jvm.Free.XT.i0_eq_f (by decide : ¬ ((1 : Int32) = (0 : Int32))))) ?_
    show own_G p e below Φ T60 (mkF m 302 #[.val (.int p0), .val (.int p1), .val (.int p2), .val (.int p3), .val (.int p4), .val (.int (2 : Int32)), .val (.int x6_15), .val (.int x7_23), .val (.int x8_34), .val (.int x9_43), .val (.int x10_54), .val (.int x11_63), .val (.int x12_75), .val (.int x13_84), .val (.ref ob5), .val (.ref ob45), .val (.int (x7_23 + (1 : Int32))), .val (.ref ob48), .val (.ref b_55)] [])
    refine own_go (fun _ => XS.aload X60.here hx rfl (hb hby at_302) rfl rfl) ?_
    show own_G p e below Φ T60 (mkF m 304 #[.val (.int p0), .val (.int p1), .val (.int p2), .val (.int p3), .val (.int p4), .val (.int (2 : Int32)), .val (.int x6_15), .val (.int x7_23), .val (.int x8_34), .val (.int x9_43), .val (.int x10_54), .val (.int x11_63), .val (.int x12_75), .val (.int x13_84), .val (.ref ob5), .val (.ref ob45), .val (.int (x7_23 + (1 : Int32))), .val (.ref ob48), .val (.ref b_55)] [(.ref b_55)])
    refine own_go (fun _ => XS.aload X60.here hx rfl (hb hby at_304) rfl rfl) ?_
    show own_G p e below Φ T60 (mkF m 306 #[.val (.int p0), .val (.int p1), .val (.int p2), .val (.int p3), .val (.int p4), .val (.int (2 : Int32)), .val (.int x6_15), .val (.int x7_23), .val (.int x8_34), .val (.int x9_43), .val (.int x10_54), .val (.int x11_63), .val (.int x12_75), .val (.int x13_84), .val (.ref ob5), .val (.ref ob45), .val (.int (x7_23 + (1 : Int32))), .val (.ref ob48), .val (.ref b_55)] [(.ref ob5), (.ref b_55)])
    refine own_go (fun _ => XS.iload X60.here hx rfl (hb hby at_306) rfl) ?_
    show own_G p e below Φ T60 (mkF m 308 #[.val (.int p0), .val (.int p1), .val (.int p2), .val (.int p3), .val (.int p4), .val (.int (2 : Int32)), .val (.int x6_15), .val (.int x7_23), .val (.int x8_34), .val (.int x9_43), .val (.int x10_54), .val (.int x11_63), .val (.int x12_75), .val (.int x13_84), .val (.ref ob5), .val (.ref ob45), .val (.int (x7_23 + (1 : Int32))), .val (.ref ob48), .val (.ref b_55)] [(.int (2 : Int32)), (.ref ob5), (.ref b_55)])
    refine own_go (fun _ => XS.iconst X60.here hx rfl (hb hby at_308)) ?_
    show own_G p e below Φ T60 (mkF m 309 #[.val (.int p0), .val (.int p1), .val (.int p2), .val (.int p3), .val (.int p4), .val (.int (2 : Int32)), .val (.int x6_15), .val (.int x7_23), .val (.int x8_34), .val (.int x9_43), .val (.int x10_54), .val (.int x11_63), .val (.int x12_75), .val (.int x13_84), .val (.ref ob5), .val (.ref ob45), .val (.int (x7_23 + (1 : Int32))), .val (.ref ob48), .val (.ref b_55)] [(.int (1 : Int32)), (.int (2 : Int32)), (.ref ob5), (.ref b_55)])
    obtain ⟨_, _, ⟨T61, zL61, zk61, zn61⟩, -, X61, ⟨Lc61, hQ61, l61, y61, z61⟩, st61⟩ := Jvm.LawKit.callS X60 hx (y := (⟨"com/example/edgewarden/edgewarden/graph/LikenessGetFirstMembersPinLaw", "ok", "([I[III)Z"⟩ : MethodName)) hown (mvT hZ (wd_24 hw)) (mvT hZ (wd_25 hw)) (mvT hZ (wd_26 hw)) (mvT hZ (wd_27 hw)) (by decide) (backOf (W := 0) (rmK l Z a0 hw [] b_55 ob5 kb_55 ka5 (own_max (own_max (0 : Int32) ((0 : Int32) + (1 : Int32))) (x6_15 + (1 : Int32))) (own_put (own_put (own_zeros (own_max (own_max (0 : Int32) ((0 : Int32) + (1 : Int32))) (x6_15 + (1 : Int32)))) x6_15 (1 : Int32)) (0 : Int32) (0 : Int32)) (2 : Int32) (1 : Int32) (0 : Int32) x6_15 x8_34 x10_54 x12_75 T55.heap n0 Zp55 p55_0 f59 (by decide) (own_use (P := fun t => (1 : Int32) < (own_max (own_max (0 : Int32) ((0 : Int32) + (1 : Int32))) (t.1 + (1 : Int32))) → ((own_put (own_put (own_zeros (own_max (own_max (0 : Int32) ((0 : Int32) + (1 : Int32))) (t.1 + (1 : Int32)))) t.1 (1 : Int32)) (0 : Int32) (0 : Int32))).getD ((1 : Int32)).toNatClampNeg 0 = own_first (0 : Int32) t.1 t.2.2.1 t.2.2.2.2.1 t.2.2.2.2.2.2.1 (2 : Int32) (1 : Int32)) (by decide +kernel) hall)) hZ (wd_27 hw) (wd_26 hw) (by decide) (by decide)) (g := (mkF m 309 #[.val (.int p0), .val (.int p1), .val (.int p2), .val (.int p3), .val (.int p4), .val (.int (2 : Int32)), .val (.int x6_15), .val (.int x7_23), .val (.int x8_34), .val (.int x9_43), .val (.int x10_54), .val (.int x11_63), .val (.int x12_75), .val (.int x13_84), .val (.ref ob5), .val (.ref ob45), .val (.int (x7_23 + (1 : Int32))), .val (.ref ob48), .val (.ref b_55)] [(.int (1 : Int32)), (.int (2 : Int32)), (.ref ob5), (.ref b_55)])) rfl (by rw [hml]; rfl) (argsL := [(.ref b_55), (.ref ob5), (.int (2 : Int32)), (.int (1 : Int32))]) (rest := []) (lenOf pd_4 rfl) rfl (by show 2 * 0 + _ ≤ _; exact Nat.le_of_eq rfl) (hb hby at_309) (fun _ _ => ⟨rfl, hs60, (by decide : 4 + 0 ≤ _), (by decide : 14 + 0 ≤ _)⟩)
    dsimp only [Pt.U, Pt.locs, Pt.cells, Pt.slots] at X61 l61 y61 z61 st61 hQ61
    subst l61 y61 z61
    obtain ⟨rfl, N61q, hs61⟩ := hQ61
    have N61 := Fr.app N60 N61q
    refine own_go st61 ?_
    show own_G p e below Φ T61 (mkF m 312 #[.val (.int p0), .val (.int p1), .val (.int p2), .val (.int p3), .val (.int p4), .val (.int (2 : Int32)), .val (.int x6_15), .val (.int x7_23), .val (.int x8_34), .val (.int x9_43), .val (.int x10_54), .val (.int x11_63), .val (.int x12_75), .val (.int x13_84), .val (.ref ob5), .val (.ref ob45), .val (.int (x7_23 + (1 : Int32))), .val (.ref ob48), .val (.ref b_55)] [(.int (1 : Int32))])
    refine own_go (fun _ => XS.ifNo X61.here hx rfl (hb hby at_312) rfl (Jvm.Free.XT.i0_eq_f (by decide : ¬ ((1 : Int32) = (0 : Int32))))) ?_
    show own_G p e below Φ T61 (mkF m 315 #[.val (.int p0), .val (.int p1), .val (.int p2), .val (.int p3), .val (.int p4), .val (.int (2 : Int32)), .val (.int x6_15), .val (.int x7_23), .val (.int x8_34), .val (.int x9_43), .val (.int x10_54), .val (.int x11_63), .val (.int x12_75), .val (.int x13_84), .val (.ref ob5), .val (.ref ob45), .val (.int (x7_23 + (1 : Int32))), .val (.ref ob48), .val (.ref b_55)] [])
    refine own_go (fun _ => XS.aload X61.here hx rfl (hb hby at_315) rfl rfl) ?_
    show own_G p e below Φ T61 (mkF m 317 #[.val (.int p0), .val (.int p1), .val (.int p2), .val (.int p3), .val (.int p4), .val (.int (2 : Int32)), .val (.int x6_15), .val (.int x7_23), .val (.int x8_34), .val (.int x9_43), .val (.int x10_54), .val (.int x11_63), .val (.int x12_75), .val (.int x13_84), .val (.ref ob5), .val (.ref ob45), .val (.int (x7_23 + (1 : Int32))), .val (.ref ob48), .val (.ref b_55)] [(.ref b_55)])
    refine own_go (fun _ => XS.aload X61.here hx rfl (hb hby at_317) rfl rfl) ?_
    show own_G p e below Φ T61 (mkF m 319 #[.val (.int p0), .val (.int p1), .val (.int p2), .val (.int p3), .val (.int p4), .val (.int (2 : Int32)), .val (.int x6_15), .val (.int x7_23), .val (.int x8_34), .val (.int x9_43), .val (.int x10_54), .val (.int x11_63), .val (.int x12_75), .val (.int x13_84), .val (.ref ob5), .val (.ref ob45), .val (.int (x7_23 + (1 : Int32))), .val (.ref ob48), .val (.ref b_55)] [(.ref ob5), (.ref b_55)])
    refine own_go (fun _ => XS.iload X61.here hx rfl (hb hby at_319) rfl) ?_
    show own_G p e below Φ T61 (mkF m 321 #[.val (.int p0), .val (.int p1), .val (.int p2), .val (.int p3), .val (.int p4), .val (.int (2 : Int32)), .val (.int x6_15), .val (.int x7_23), .val (.int x8_34), .val (.int x9_43), .val (.int x10_54), .val (.int x11_63), .val (.int x12_75), .val (.int x13_84), .val (.ref ob5), .val (.ref ob45), .val (.int (x7_23 + (1 : Int32))), .val (.ref ob48), .val (.ref b_55)] [(.int (2 : Int32)), (.ref ob5), (.ref b_55)])
    refine own_go (fun _ => XS.iconst X61.here hx rfl (hb hby at_321)) ?_
    show own_G p e below Φ T61 (mkF m 322 #[.val (.int p0), .val (.int p1), .val (.int p2), .val (.int p3), .val (.int p4), .val (.int (2 : Int32)), .val (.int x6_15), .val (.int x7_23), .val (.int x8_34), .val (.int x9_43), .val (.int x10_54), .val (.int x11_63), .val (.int x12_75), .val (.int x13_84), .val (.ref ob5), .val (.ref ob45), .val (.int (x7_23 + (1 : Int32))), .val (.ref ob48), .val (.ref b_55)] [(.int (2 : Int32)), (.int (2 : Int32)), (.ref ob5), (.ref b_55)])
    obtain ⟨_, _, ⟨T62, zL62, zk62, zn62⟩, -, X62, ⟨Lc62, hQ62, l62, y62, z62⟩, st62⟩ := Jvm.LawKit.callS X61 hx (y := (⟨"com/example/edgewarden/edgewarden/graph/LikenessGetFirstMembersPinLaw", "ok", "([I[III)Z"⟩ : MethodName)) hown (mvT hZ (wd_24 hw)) (mvT hZ (wd_25 hw)) (mvT hZ (wd_26 hw)) (mvT hZ (wd_27 hw)) (by decide) (backOf (W := 0) (rmK l Z a0 hw [] b_55 ob5 kb_55 ka5 (own_max (own_max (0 : Int32) ((0 : Int32) + (1 : Int32))) (x6_15 + (1 : Int32))) (own_put (own_put (own_zeros (own_max (own_max (0 : Int32) ((0 : Int32) + (1 : Int32))) (x6_15 + (1 : Int32)))) x6_15 (1 : Int32)) (0 : Int32) (0 : Int32)) (2 : Int32) (2 : Int32) (0 : Int32) x6_15 x8_34 x10_54 x12_75 T55.heap n0 Zp55 p55_0 f59 (by decide) (own_use (P := fun t => (2 : Int32) < (own_max (own_max (0 : Int32) ((0 : Int32) + (1 : Int32))) (t.1 + (1 : Int32))) → ((own_put (own_put (own_zeros (own_max (own_max (0 : Int32) ((0 : Int32) + (1 : Int32))) (t.1 + (1 : Int32)))) t.1 (1 : Int32)) (0 : Int32) (0 : Int32))).getD ((2 : Int32)).toNatClampNeg 0 = own_first (0 : Int32) t.1 t.2.2.1 t.2.2.2.2.1 t.2.2.2.2.2.2.1 (2 : Int32) (2 : Int32)) (by decide +kernel) hall)) hZ (wd_27 hw) (wd_26 hw) (by decide) (by decide)) (g := (mkF m 322 #[.val (.int p0), .val (.int p1), .val (.int p2), .val (.int p3), .val (.int p4), .val (.int (2 : Int32)), .val (.int x6_15), .val (.int x7_23), .val (.int x8_34), .val (.int x9_43), .val (.int x10_54), .val (.int x11_63), .val (.int x12_75), .val (.int x13_84), .val (.ref ob5), .val (.ref ob45), .val (.int (x7_23 + (1 : Int32))), .val (.ref ob48), .val (.ref b_55)] [(.int (2 : Int32)), (.int (2 : Int32)), (.ref ob5), (.ref b_55)])) rfl (by rw [hml]; rfl) (argsL := [(.ref b_55), (.ref ob5), (.int (2 : Int32)), (.int (2 : Int32))]) (rest := []) (lenOf pd_4 rfl) rfl (by show 2 * 0 + _ ≤ _; exact Nat.le_of_eq rfl) (hb hby at_322) (fun _ _ => ⟨rfl, hs61, (by decide : 4 + 0 ≤ _), (by decide : 14 + 0 ≤ _)⟩)
    dsimp only [Pt.U, Pt.locs, Pt.cells, Pt.slots] at X62 l62 y62 z62 st62 hQ62
    subst l62 y62 z62
    obtain ⟨rfl, N62q, hs62⟩ := hQ62
    have N62 := Fr.app N61 N62q
    refine own_go st62 ?_
    show own_G p e below Φ T62 (mkF m 325 #[.val (.int p0), .val (.int p1), .val (.int p2), .val (.int p3), .val (.int p4), .val (.int (2 : Int32)), .val (.int x6_15), .val (.int x7_23), .val (.int x8_34), .val (.int x9_43), .val (.int x10_54), .val (.int x11_63), .val (.int x12_75), .val (.int x13_84), .val (.ref ob5), .val (.ref ob45), .val (.int (x7_23 + (1 : Int32))), .val (.ref ob48), .val (.ref b_55)] [(.int (1 : Int32))])
    refine own_go (fun _ => XS.ifNo X62.here hx rfl (hb hby at_325) rfl (Jvm.Free.XT.i0_eq_f (by decide : ¬ ((1 : Int32) = (0 : Int32))))) ?_
    show own_G p e below Φ T62 (mkF m 328 #[.val (.int p0), .val (.int p1), .val (.int p2), .val (.int p3), .val (.int p4), .val (.int (2 : Int32)), .val (.int x6_15), .val (.int x7_23), .val (.int x8_34), .val (.int x9_43), .val (.int x10_54), .val (.int x11_63), .val (.int x12_75), .val (.int x13_84), .val (.ref ob5), .val (.ref ob45), .val (.int (x7_23 + (1 : Int32))), .val (.ref ob48), .val (.ref b_55)] [])
    refine own_go (fun _ => XS.aload X62.here hx rfl (hb hby at_328) rfl rfl) ?_
    show own_G p e below Φ T62 (mkF m 330 #[.val (.int p0), .val (.int p1), .val (.int p2), .val (.int p3), .val (.int p4), .val (.int (2 : Int32)), .val (.int x6_15), .val (.int x7_23), .val (.int x8_34), .val (.int x9_43), .val (.int x10_54), .val (.int x11_63), .val (.int x12_75), .val (.int x13_84), .val (.ref ob5), .val (.ref ob45), .val (.int (x7_23 + (1 : Int32))), .val (.ref ob48), .val (.ref b_55)] [(.ref b_55)])
    refine own_go (fun _ => XS.aload X62.here hx rfl (hb hby at_330) rfl rfl) ?_
    show own_G p e below Φ T62 (mkF m 332 #[.val (.int p0), .val (.int p1), .val (.int p2), .val (.int p3), .val (.int p4), .val (.int (2 : Int32)), .val (.int x6_15), .val (.int x7_23), .val (.int x8_34), .val (.int x9_43), .val (.int x10_54), .val (.int x11_63), .val (.int x12_75), .val (.int x13_84), .val (.ref ob5), .val (.ref ob45), .val (.int (x7_23 + (1 : Int32))), .val (.ref ob48), .val (.ref b_55)] [(.ref ob5), (.ref b_55)])
    refine own_go (fun _ => XS.iload X62.here hx rfl (hb hby at_332) rfl) ?_
    show own_G p e below Φ T62 (mkF m 334 #[.val (.int p0), .val (.int p1), .val (.int p2), .val (.int p3), .val (.int p4), .val (.int (2 : Int32)), .val (.int x6_15), .val (.int x7_23), .val (.int x8_34), .val (.int x9_43), .val (.int x10_54), .val (.int x11_63), .val (.int x12_75), .val (.int x13_84), .val (.ref ob5), .val (.ref ob45), .val (.int (x7_23 + (1 : Int32))), .val (.ref ob48), .val (.ref b_55)] [(.int (2 : Int32)), (.ref ob5), (.ref b_55)])
    refine own_go (fun _ => XS.iconst X62.here hx rfl (hb hby at_334)) ?_
    show own_G p e below Φ T62 (mkF m 335 #[.val (.int p0), .val (.int p1), .val (.int p2), .val (.int p3), .val (.int p4), .val (.int (2 : Int32)), .val (.int x6_15), .val (.int x7_23), .val (.int x8_34), .val (.int x9_43), .val (.int x10_54), .val (.int x11_63), .val (.int x12_75), .val (.int x13_84), .val (.ref ob5), .val (.ref ob45), .val (.int (x7_23 + (1 : Int32))), .val (.ref ob48), .val (.ref b_55)] [(.int (3 : Int32)), (.int (2 : Int32)), (.ref ob5), (.ref b_55)])
    obtain ⟨_, _, ⟨T63, zL63, zk63, zn63⟩, -, X63, ⟨Lc63, hQ63, l63, y63, z63⟩, st63⟩ := Jvm.LawKit.callS X62 hx (y := (⟨"com/example/edgewarden/edgewarden/graph/LikenessGetFirstMembersPinLaw", "ok", "([I[III)Z"⟩ : MethodName)) hown (mvT hZ (wd_24 hw)) (mvT hZ (wd_25 hw)) (mvT hZ (wd_26 hw)) (mvT hZ (wd_27 hw)) (by decide) (backOf (W := 0) (rmK l Z a0 hw [] b_55 ob5 kb_55 ka5 (own_max (own_max (0 : Int32) ((0 : Int32) + (1 : Int32))) (x6_15 + (1 : Int32))) (own_put (own_put (own_zeros (own_max (own_max (0 : Int32) ((0 : Int32) + (1 : Int32))) (x6_15 + (1 : Int32)))) x6_15 (1 : Int32)) (0 : Int32) (0 : Int32)) (2 : Int32) (3 : Int32) (0 : Int32) x6_15 x8_34 x10_54 x12_75 T55.heap n0 Zp55 p55_0 f59 (by decide) (own_use (P := fun t => (3 : Int32) < (own_max (own_max (0 : Int32) ((0 : Int32) + (1 : Int32))) (t.1 + (1 : Int32))) → ((own_put (own_put (own_zeros (own_max (own_max (0 : Int32) ((0 : Int32) + (1 : Int32))) (t.1 + (1 : Int32)))) t.1 (1 : Int32)) (0 : Int32) (0 : Int32))).getD ((3 : Int32)).toNatClampNeg 0 = own_first (0 : Int32) t.1 t.2.2.1 t.2.2.2.2.1 t.2.2.2.2.2.2.1 (2 : Int32) (3 : Int32)) (by decide +kernel) hall)) hZ (wd_27 hw) (wd_26 hw) (by decide) (by decide)) (g := (mkF m 335 #[.val (.int p0), .val (.int p1), .val (.int p2), .val (.int p3), .val (.int p4), .val (.int (2 : Int32)), .val (.int x6_15), .val (.int x7_23), .val (.int x8_34), .val (.int x9_43), .val (.int x10_54), .val (.int x11_63), .val (.int x12_75), .val (.int x13_84), .val (.ref ob5), .val (.ref ob45), .val (.int (x7_23 + (1 : Int32))), .val (.ref ob48), .val (.ref b_55)] [(.int (3 : Int32)), (.int (2 : Int32)), (.ref ob5), (.ref b_55)])) rfl (by rw [hml]; rfl) (argsL := [(.ref b_55), (.ref ob5), (.int (2 : Int32)), (.int (3 : Int32))]) (rest := []) (lenOf pd_4 rfl) rfl (by show 2 * 0 + _ ≤ _; exact Nat.le_of_eq rfl) (hb hby at_335) (fun _ _ => ⟨rfl, hs62, (by decide : 4 + 0 ≤ _), (by decide : 14 + 0 ≤ _)⟩)
    dsimp only [Pt.U, Pt.locs, Pt.cells, Pt.slots] at X63 l63 y63 z63 st63 hQ63
    subst l63 y63 z63
    obtain ⟨rfl, N63q, hs63⟩ := hQ63
    have N63 := Fr.app N62 N63q
    refine own_go st63 ?_
    show own_G p e below Φ T63 (mkF m 338 #[.val (.int p0), .val (.int p1), .val (.int p2), .val (.int p3), .val (.int p4), .val (.int (2 : Int32)), .val (.int x6_15), .val (.int x7_23), .val (.int x8_34), .val (.int x9_43), .val (.int x10_54), .val (.int x11_63), .val (.int x12_75), .val (.int x13_84), .val (.ref ob5), .val (.ref ob45), .val (.int (x7_23 + (1 : Int32))), .val (.ref ob48), .val (.ref b_55)] [(.int (1 : Int32))])
    refine own_go (fun _ => XS.ifNo X63.here hx rfl (hb hby at_338) rfl (Jvm.Free.XT.i0_eq_f (by decide : ¬ ((1 : Int32) = (0 : Int32))))) ?_
    show own_G p e below Φ T63 (mkF m 341 #[.val (.int p0), .val (.int p1), .val (.int p2), .val (.int p3), .val (.int p4), .val (.int (2 : Int32)), .val (.int x6_15), .val (.int x7_23), .val (.int x8_34), .val (.int x9_43), .val (.int x10_54), .val (.int x11_63), .val (.int x12_75), .val (.int x13_84), .val (.ref ob5), .val (.ref ob45), .val (.int (x7_23 + (1 : Int32))), .val (.ref ob48), .val (.ref b_55)] [])
    refine own_go (fun _ => XS.aload X63.here hx rfl (hb hby at_341) rfl rfl) ?_
    show own_G p e below Φ T63 (mkF m 343 #[.val (.int p0), .val (.int p1), .val (.int p2), .val (.int p3), .val (.int p4), .val (.int (2 : Int32)), .val (.int x6_15), .val (.int x7_23), .val (.int x8_34), .val (.int x9_43), .val (.int x10_54), .val (.int x11_63), .val (.int x12_75), .val (.int x13_84), .val (.ref ob5), .val (.ref ob45), .val (.int (x7_23 + (1 : Int32))), .val (.ref ob48), .val (.ref b_55)] [(.ref b_55)])
    refine own_go (fun _ => XS.aload X63.here hx rfl (hb hby at_343) rfl rfl) ?_
    show own_G p e below Φ T63 (mkF m 345 #[.val (.int p0), .val (.int p1), .val (.int p2), .val (.int p3), .val (.int p4), .val (.int (2 : Int32)), .val (.int x6_15), .val (.int x7_23), .val (.int x8_34), .val (.int x9_43), .val (.int x10_54), .val (.int x11_63), .val (.int x12_75), .val (.int x13_84), .val (.ref ob5), .val (.ref ob45), .val (.int (x7_23 + (1 : Int32))), .val (.ref ob48), .val (.ref b_55)] [(.ref ob5), (.ref b_55)])
    refine own_go (fun _ => XS.iload X63.here hx rfl (hb hby at_345) rfl) ?_
    show own_G p e below Φ T63 (mkF m 347 #[.val (.int p0), .val (.int p1), .val (.int p2), .val (.int p3), .val (.int p4), .val (.int (2 : Int32)), .val (.int x6_15), .val (.int x7_23), .val (.int x8_34), .val (.int x9_43), .val (.int x10_54), .val (.int x11_63), .val (.int x12_75), .val (.int x13_84), .val (.ref ob5), .val (.ref ob45), .val (.int (x7_23 + (1 : Int32))), .val (.ref ob48), .val (.ref b_55)] [(.int (2 : Int32)), (.ref ob5), (.ref b_55)])
    refine own_go (fun _ => XS.iconst X63.here hx rfl (hb hby at_347)) ?_
    show own_G p e below Φ T63 (mkF m 348 #[.val (.int p0), .val (.int p1), .val (.int p2), .val (.int p3), .val (.int p4), .val (.int (2 : Int32)), .val (.int x6_15), .val (.int x7_23), .val (.int x8_34), .val (.int x9_43), .val (.int x10_54), .val (.int x11_63), .val (.int x12_75), .val (.int x13_84), .val (.ref ob5), .val (.ref ob45), .val (.int (x7_23 + (1 : Int32))), .val (.ref ob48), .val (.ref b_55)] [(.int (4 : Int32)), (.int (2 : Int32)), (.ref ob5), (.ref b_55)])
    obtain ⟨_, _, ⟨T64, zL64, zk64, zn64⟩, -, X64, ⟨Lc64, hQ64, l64, y64, z64⟩, st64⟩ := Jvm.LawKit.callS X63 hx (y := (⟨"com/example/edgewarden/edgewarden/graph/LikenessGetFirstMembersPinLaw", "ok", "([I[III)Z"⟩ : MethodName)) hown (mvT hZ (wd_24 hw)) (mvT hZ (wd_25 hw)) (mvT hZ (wd_26 hw)) (mvT hZ (wd_27 hw)) (by decide) (backOf (W := 0) (rmK l Z a0 hw [] b_55 ob5 kb_55 ka5 (own_max (own_max (0 : Int32) ((0 : Int32) + (1 : Int32))) (x6_15 + (1 : Int32))) (own_put (own_put (own_zeros (own_max (own_max (0 : Int32) ((0 : Int32) + (1 : Int32))) (x6_15 + (1 : Int32)))) x6_15 (1 : Int32)) (0 : Int32) (0 : Int32)) (2 : Int32) (4 : Int32) (0 : Int32) x6_15 x8_34 x10_54 x12_75 T55.heap n0 Zp55 p55_0 f59 (by decide) (own_use (P := fun t => (4 : Int32) < (own_max (own_max (0 : Int32) ((0 : Int32) + (1 : Int32))) (t.1 + (1 : Int32))) → ((own_put (own_put (own_zeros (own_max (own_max (0 : Int32) ((0 : Int32) + (1 : Int32))) (t.1 + (1 : Int32)))) t.1 (1 : Int32)) (0 : Int32) (0 : Int32))).getD ((4 : Int32)).toNatClampNeg 0 = own_first (0 : Int32) t.1 t.2.2.1 t.2.2.2.2.1 t.2.2.2.2.2.2.1 (2 : Int32) (4 : Int32)) (by decide +kernel) hall)) hZ (wd_27 hw) (wd_26 hw) (by decide) (by decide)) (g := (mkF m 348 #[.val (.int p0), .val (.int p1), .val (.int p2), .val (.int p3), .val (.int p4), .val (.int (2 : Int32)), .val (.int x6_15), .val (.int x7_23), .val (.int x8_34), .val (.int x9_43), .val (.int x10_54), .val (.int x11_63), .val (.int x12_75), .val (.int x13_84), .val (.ref ob5), .val (.ref ob45), .val (.int (x7_23 + (1 : Int32))), .val (.ref ob48), .val (.ref b_55)] [(.int (4 : Int32)), (.int (2 : Int32)), (.ref ob5), (.ref b_55)])) rfl (by rw [hml]; rfl) (argsL := [(.ref b_55), (.ref ob5), (.int (2 : Int32)), (.int (4 : Int32))]) (rest := []) (lenOf pd_4 rfl) rfl (by show 2 * 0 + _ ≤ _; exact Nat.le_of_eq rfl) (hb hby at_348) (fun _ _ => ⟨rfl, hs63, (by decide : 4 + 0 ≤ _), (by decide : 14 + 0 ≤ _)⟩)
    dsimp only [Pt.U, Pt.locs, Pt.cells, Pt.slots] at X64 l64 y64 z64 st64 hQ64
    subst l64 y64 z64
    obtain ⟨rfl, N64q, hs64⟩ := hQ64
    have N64 := Fr.app N63 N64q
    refine own_go st64 ?_
    show own_G p e below Φ T64 (mkF m 351 #[.val (.int p0), .val (.int p1), .val (.int p2), .val (.int p3), .val (.int p4), .val (.int (2 : Int32)), .val (.int x6_15), .val (.int x7_23), .val (.int x8_34), .val (.int x9_43), .val (.int x10_54), .val (.int x11_63), .val (.int x12_75), .val (.int x13_84), .val (.ref ob5), .val (.ref ob45), .val (.int (x7_23 + (1 : Int32))), .val (.ref ob48), .val (.ref b_55)] [(.int (1 : Int32))])
    refine own_go (fun _ => XS.ifNo X64.here hx rfl (hb hby at_351) rfl (Jvm.Free.XT.i0_eq_f (by decide : ¬ ((1 : Int32) = (0 : Int32))))) ?_
    show own_G p e below Φ T64 (mkF m 354 #[.val (.int p0), .val (.int p1), .val (.int p2), .val (.int p3), .val (.int p4), .val (.int (2 : Int32)), .val (.int x6_15), .val (.int x7_23), .val (.int x8_34), .val (.int x9_43), .val (.int x10_54), .val (.int x11_63), .val (.int x12_75), .val (.int x13_84), .val (.ref ob5), .val (.ref ob45), .val (.int (x7_23 + (1 : Int32))), .val (.ref ob48), .val (.ref b_55)] [])
    refine own_go (fun _ => XS.iconst X64.here hx rfl (hb hby at_354)) ?_
    show own_G p e below Φ T64 (mkF m 355 #[.val (.int p0), .val (.int p1), .val (.int p2), .val (.int p3), .val (.int p4), .val (.int (2 : Int32)), .val (.int x6_15), .val (.int x7_23), .val (.int x8_34), .val (.int x9_43), .val (.int x10_54), .val (.int x11_63), .val (.int x12_75), .val (.int x13_84), .val (.ref ob5), .val (.ref ob45), .val (.int (x7_23 + (1 : Int32))), .val (.ref ob48), .val (.ref b_55)] [(.int (1 : Int32))])
    refine own_go (fun _ => XS.goto X64.here hx rfl (pc0 := 355) (pc' := 359) rfl (hb hby at_355) (by decide) (by decide)) ?_
    show own_G p e below Φ T64 (mkF m 359 #[.val (.int p0), .val (.int p1), .val (.int p2), .val (.int p3), .val (.int p4), .val (.int (2 : Int32)), .val (.int x6_15), .val (.int x7_23), .val (.int x8_34), .val (.int x9_43), .val (.int x10_54), .val (.int x11_63), .val (.int x12_75), .val (.int x13_84), .val (.ref ob5), .val (.ref ob45), .val (.int (x7_23 + (1 : Int32))), .val (.ref ob48), .val (.ref b_55)] [(.int (1 : Int32))])
    rw [hΦ]
    refine own_ret X64 (v := some (.int (1 : Int32))) (fun h => by rw [Bd.returns] at h; cases h) (BodyLoose.notSynchronized Bd) (fun fs hr => retN X64 hx (t := .boolean) Bd.returns (by simp) (hb hby at_359) hr) ?_ (by decide) (by decide)
    rw [hs64]
    exact ⟨rfl, N64⟩
  · show own_G p e below Φ T10 (mkF m 120 #[.val (.int p0), .val (.int p1), .val (.int p2), .val (.int p3), .val (.int p4), .val (.int (3 : Int32)), .val (.int x6_15), .val (.int x7_23), .val (.int x8_34), .val (.int x9_43), .val (.int x10_54), .val (.int x11_63), .val (.int x12_75), .val (.int x13_84), .val (.ref ob5), .unset, .unset, .unset, .unset] [])
    refine own_go (fun _ => XS.iload X10.here hx rfl (hb hby at_120) rfl) ?_
    show own_G p e below Φ T10 (mkF m 122 #[.val (.int p0), .val (.int p1), .val (.int p2), .val (.int p3), .val (.int p4), .val (.int (3 : Int32)), .val (.int x6_15), .val (.int x7_23), .val (.int x8_34), .val (.int x9_43), .val (.int x10_54), .val (.int x11_63), .val (.int x12_75), .val (.int x13_84), .val (.ref ob5), .unset, .unset, .unset, .unset] [(.int (3 : Int32))])
    obtain ⟨T65, h65, ka65, X65, e65, E65, A65, st65⟩ := newP (aty := .int) X10 hx hZ (wd_5 hw) e10 (g := (mkF m 122 #[.val (.int p0), .val (.int p1), .val (.int p2), .val (.int p3), .val (.int p4), .val (.int (3 : Int32)), .val (.int x6_15), .val (.int x7_23), .val (.int x8_34), .val (.int x9_43), .val (.int x10_54), .val (.int x11_63), .val (.int x12_75), .val (.int x13_84), .val (.ref ob5), .unset, .unset, .unset, .unset] [(.int (3 : Int32))])) rfl (hb hby at_122) rfl (by decide) (cap := 3) (by decide) (by decide) (by decide) (by decide)
    obtain ⟨ob65, g65⟩ : ∃ z, z = h10.size := ⟨_, rfl⟩
    rw [← g65] at A65 st65
    have ne_ob5_ob65 : ob5 ≠ ob65 := Nat.ne_of_lt (Nat.lt_of_lt_of_le V10.lt (Nat.le_of_eq g65.symm))
    have V65 : Arv Z h65 ob65 ka65 .int (3 : Int32) [(.int (0 : Int32)), (.int (0 : Int32)), (.int (0 : Int32))] (.int (0 : Int32)) := (Arv.new A65 (by decide)).pad (pad_rep [] (.int (0 : Int32)) 3)
    have g_ob65 : n0 ≤ ob65 := Nat.le_trans Zp10 (Nat.le_of_eq g65.symm)
    have Zp65 : n0 ≤ h65.size := Nat.le_trans Zp10 E65.1
    refine own_go st65 ?_
    show own_G p e below Φ T65 (mkF m 124 #[.val (.int p0), .val (.int p1), .val (.int p2), .val (.int p3), .val (.int p4), .val (.int (3 : Int32)), .val (.int x6_15), .val (.int x7_23), .val (.int x8_34), .val (.int x9_43), .val (.int x10_54), .val (.int x11_63), .val (.int x12_75), .val (.int x13_84), .val (.ref ob5), .unset, .unset, .unset, .unset] [(.ref ob65)])
    refine own_go (fun _ => XS.astore X65.here hx rfl (hb hby at_124) rfl rfl (l' := #[.val (.int p0), .val (.int p1), .val (.int p2), .val (.int p3), .val (.int p4), .val (.int (3 : Int32)), .val (.int x6_15), .val (.int x7_23), .val (.int x8_34), .val (.int x9_43), .val (.int x10_54), .val (.int x11_63), .val (.int x12_75), .val (.int x13_84), .val (.ref ob5), .val (.ref ob65), .unset, .unset, .unset]) rfl) ?_
    show own_G p e below Φ T65 (mkF m 126 #[.val (.int p0), .val (.int p1), .val (.int p2), .val (.int p3), .val (.int p4), .val (.int (3 : Int32)), .val (.int x6_15), .val (.int x7_23), .val (.int x8_34), .val (.int x9_43), .val (.int x10_54), .val (.int x11_63), .val (.int x12_75), .val (.int x13_84), .val (.ref ob5), .val (.ref ob65), .unset, .unset, .unset] [])
    refine own_go (fun _ => XS.iload X65.here hx rfl (hb hby at_126) rfl) ?_
    show own_G p e below Φ T65 (mkF m 128 #[.val (.int p0), .val (.int p1), .val (.int p2), .val (.int p3), .val (.int p4), .val (.int (3 : Int32)), .val (.int x6_15), .val (.int x7_23), .val (.int x8_34), .val (.int x9_43), .val (.int x10_54), .val (.int x11_63), .val (.int x12_75), .val (.int x13_84), .val (.ref ob5), .val (.ref ob65), .unset, .unset, .unset] [(.int (3 : Int32))])
    refine own_go (fun _ => XS.ifNo X65.here hx rfl (hb hby at_128) rfl (Jvm.Free.XT.i0_le_f (by decide : ((0 : Int32) < (3 : Int32))))) ?_
    show own_G p e below Φ T65 (mkF m 131 #[.val (.int p0), .val (.int p1), .val (.int p2), .val (.int p3), .val (.int p4), .val (.int (3 : Int32)), .val (.int x6_15), .val (.int x7_23), .val (.int x8_34), .val (.int x9_43), .val (.int x10_54), .val (.int x11_63), .val (.int x12_75), .val (.int x13_84), .val (.ref ob5), .val (.ref ob65), .unset, .unset, .unset] [])
    refine own_go (fun _ => XS.aload X65.here hx rfl (hb hby at_131) rfl rfl) ?_
    show own_G p e below Φ T65 (mkF m 133 #[.val (.int p0), .val (.int p1), .val (.int p2), .val (.int p3), .val (.int p4), .val (.int (3 : Int32)), .val (.int x6_15), .val (.int x7_23), .val (.int x8_34), .val (.int x9_43), .val (.int x10_54), .val (.int x11_63), .val (.int x12_75), .val (.int x13_84), .val (.ref ob5), .val (.ref ob65), .unset, .unset, .unset] [(.ref ob65)])
    refine own_go (fun _ => XS.iconst X65.here hx rfl (hb hby at_133)) ?_
    show own_G p e below Φ T65 (mkF m 134 #[.val (.int p0), .val (.int p1), .val (.int p2), .val (.int p3), .val (.int p4), .val (.int (3 : Int32)), .val (.int x6_15), .val (.int x7_23), .val (.int x8_34), .val (.int x9_43), .val (.int x10_54), .val (.int x11_63), .val (.int x12_75), .val (.int x13_84), .val (.ref ob5), .val (.ref ob65), .unset, .unset, .unset] [(.int (0 : Int32)), (.ref ob65)])
    refine own_go (fun _ => XS.iconst X65.here hx rfl (hb hby at_134)) ?_
    show own_G p e below Φ T65 (mkF m 135 #[.val (.int p0), .val (.int p1), .val (.int p2), .val (.int p3), .val (.int p4), .val (.int (3 : Int32)), .val (.int x6_15), .val (.int x7_23), .val (.int x8_34), .val (.int x9_43), .val (.int x10_54), .val (.int x11_63), .val (.int x12_75), .val (.int x13_84), .val (.ref ob5), .val (.ref ob65), .unset, .unset, .unset] [(.int (0 : Int32)), (.int (0 : Int32)), (.ref ob65)])
    obtain ⟨cl66, Ar66, q66, S66, M66, H66, G66⟩ := id V65
    have hin66 : ¬ ((0 : Int32) < 0 ∨ cl66.slots.size ≤ ((0 : Int32)).toNatClampNeg) := inb_of S66 ⟨by decide, by decide⟩
    obtain ⟨T66, h66, X66, e66, W66, st66⟩ := stI X65 hx hZ e65 Ar66 (j := (0 : Int32)) hin66 (g := (mkF m 135 #[.val (.int p0), .val (.int p1), .val (.int p2), .val (.int p3), .val (.int p4), .val (.int (3 : Int32)), .val (.int x6_15), .val (.int x7_23), .val (.int x8_34), .val (.int x9_43), .val (.int x10_54), .val (.int x11_63), .val (.int x12_75), .val (.int x13_84), .val (.ref ob5), .val (.ref ob65), .unset, .unset, .unset] [(.int (0 : Int32)), (.int (0 : Int32)), (.ref ob65)])) rfl rfl (hb hby at_135)
    refine own_go st66 ?_
    have V66 : Arv Z h66 ob65 ka65 .int (3 : Int32) [(.int (0 : Int32)), (.int (0 : Int32)), (.int (0 : Int32))] (.int (0 : Int32)) := Arv.set Ar66 q66 S66 M66 H66 G66 rfl W66 0 rfl (Nat.le_of_ble_eq_true rfl)
    have N66 := Fr.snoc X66 N10 g_ob65
    have Zp66 : n0 ≤ h66.size := Nat.le_trans Zp65 (Keep.of_wr W66).1
    show own_G p e below Φ T66 (mkF m 136 #[.val (.int p0), .val (.int p1), .val (.int p2), .val (.int p3), .val (.int p4), .val (.int (3 : Int32)), .val (.int x6_15), .val (.int x7_23), .val (.int x8_34), .val (.int x9_43), .val (.int x10_54), .val (.int x11_63), .val (.int x12_75), .val (.int x13_84), .val (.ref ob5), .val (.ref ob65), .unset, .unset, .unset] [])
    refine own_go (fun _ => XS.iload X66.here hx rfl (hb hby at_136) rfl) ?_
    show own_G p e below Φ T66 (mkF m 138 #[.val (.int p0), .val (.int p1), .val (.int p2), .val (.int p3), .val (.int p4), .val (.int (3 : Int32)), .val (.int x6_15), .val (.int x7_23), .val (.int x8_34), .val (.int x9_43), .val (.int x10_54), .val (.int x11_63), .val (.int x12_75), .val (.int x13_84), .val (.ref ob5), .val (.ref ob65), .unset, .unset, .unset] [(.int (3 : Int32))])
    refine own_go (fun _ => XS.iconst X66.here hx rfl (hb hby at_138)) ?_
    show own_G p e below Φ T66 (mkF m 139 #[.val (.int p0), .val (.int p1), .val (.int p2), .val (.int p3), .val (.int p4), .val (.int (3 : Int32)), .val (.int x6_15), .val (.int x7_23), .val (.int x8_34), .val (.int x9_43), .val (.int x10_54), .val (.int x11_63), .val (.int x12_75), .val (.int x13_84), .val (.ref ob5), .val (.ref ob65), .unset, .unset, .unset] [(.int (1 : Int32)), (.int (3 : Int32))])
    refine own_go (fun _ => XS.icmpNo X66.here hx rfl (hb hby at_139) rfl (Jvm.Free.XT.ii_le_f (by decide : ((1 : Int32) < (3 : Int32))))) ?_
    show own_G p e below Φ T66 (mkF m 142 #[.val (.int p0), .val (.int p1), .val (.int p2), .val (.int p3), .val (.int p4), .val (.int (3 : Int32)), .val (.int x6_15), .val (.int x7_23), .val (.int x8_34), .val (.int x9_43), .val (.int x10_54), .val (.int x11_63), .val (.int x12_75), .val (.int x13_84), .val (.ref ob5), .val (.ref ob65), .unset, .unset, .unset] [])
    refine own_go (fun _ => XS.aload X66.here hx rfl (hb hby at_142) rfl rfl) ?_
    show own_G p e below Φ T66 (mkF m 144 #[.val (.int p0), .val (.int p1), .val (.int p2), .val (.int p3), .val (.int p4), .val (.int (3 : Int32)), .val (.int x6_15), .val (.int x7_23), .val (.int x8_34), .val (.int x9_43), .val (.int x10_54), .val (.int x11_63), .val (.int x12_75), .val (.int x13_84), .val (.ref ob5), .val (.ref ob65), .unset, .unset, .unset] [(.ref ob65)])
    refine own_go (fun _ => XS.iconst X66.here hx rfl (hb hby at_144)) ?_
    show own_G p e below Φ T66 (mkF m 145 #[.val (.int p0), .val (.int p1), .val (.int p2), .val (.int p3), .val (.int p4), .val (.int (3 : Int32)), .val (.int x6_15), .val (.int x7_23), .val (.int x8_34), .val (.int x9_43), .val (.int x10_54), .val (.int x11_63), .val (.int x12_75), .val (.int x13_84), .val (.ref ob5), .val (.ref ob65), .unset, .unset, .unset] [(.int (1 : Int32)), (.ref ob65)])
    refine own_go (fun _ => XS.iload X66.here hx rfl (hb hby at_145) rfl) ?_
    show own_G p e below Φ T66 (mkF m 147 #[.val (.int p0), .val (.int p1), .val (.int p2), .val (.int p3), .val (.int p4), .val (.int (3 : Int32)), .val (.int x6_15), .val (.int x7_23), .val (.int x8_34), .val (.int x9_43), .val (.int x10_54), .val (.int x11_63), .val (.int x12_75), .val (.int x13_84), .val (.ref ob5), .val (.ref ob65), .unset, .unset, .unset] [(.int x6_15), (.int (1 : Int32)), (.ref ob65)])
    obtain ⟨cl67, Ar67, q67, S67, M67, H67, G67⟩ := id V66
    have hin67 : ¬ ((1 : Int32) < 0 ∨ cl67.slots.size ≤ ((1 : Int32)).toNatClampNeg) := inb_of S67 ⟨by decide, by decide⟩
    obtain ⟨T67, h67, X67, e67, W67, st67⟩ := stI X66 hx hZ e66 Ar67 (j := (1 : Int32)) hin67 (g := (mkF m 147 #[.val (.int p0), .val (.int p1), .val (.int p2), .val (.int p3), .val (.int p4), .val (.int (3 : Int32)), .val (.int x6_15), .val (.int x7_23), .val (.int x8_34), .val (.int x9_43), .val (.int x10_54), .val (.int x11_63), .val (.int x12_75), .val (.int x13_84), .val (.ref ob5), .val (.ref ob65), .unset, .unset, .unset] [(.int x6_15), (.int (1 : Int32)), (.ref ob65)])) rfl rfl (hb hby at_147)
    refine own_go st67 ?_
    have V67 : Arv Z h67 ob65 ka65 .int (3 : Int32) [(.int (0 : Int32)), (.int x6_15), (.int (0 : Int32))] (.int (0 : Int32)) := Arv.set Ar67 q67 S67 M67 H67 G67 rfl W67 1 rfl (Nat.le_of_ble_eq_true rfl)
    have N67 := Fr.snoc X67 N66 g_ob65
    have Zp67 : n0 ≤ h67.size := Nat.le_trans Zp66 (Keep.of_wr W67).1
    show own_G p e below Φ T67 (mkF m 148 #[.val (.int p0), .val (.int p1), .val (.int p2), .val (.int p3), .val (.int p4), .val (.int (3 : Int32)), .val (.int x6_15), .val (.int x7_23), .val (.int x8_34), .val (.int x9_43), .val (.int x10_54), .val (.int x11_63), .val (.int x12_75), .val (.int x13_84), .val (.ref ob5), .val (.ref ob65), .unset, .unset, .unset] [])
    refine own_go (fun _ => XS.iload X67.here hx rfl (hb hby at_148) rfl) ?_
    show own_G p e below Φ T67 (mkF m 150 #[.val (.int p0), .val (.int p1), .val (.int p2), .val (.int p3), .val (.int p4), .val (.int (3 : Int32)), .val (.int x6_15), .val (.int x7_23), .val (.int x8_34), .val (.int x9_43), .val (.int x10_54), .val (.int x11_63), .val (.int x12_75), .val (.int x13_84), .val (.ref ob5), .val (.ref ob65), .unset, .unset, .unset] [(.int (3 : Int32))])
    refine own_go (fun _ => XS.iconst X67.here hx rfl (hb hby at_150)) ?_
    show own_G p e below Φ T67 (mkF m 151 #[.val (.int p0), .val (.int p1), .val (.int p2), .val (.int p3), .val (.int p4), .val (.int (3 : Int32)), .val (.int x6_15), .val (.int x7_23), .val (.int x8_34), .val (.int x9_43), .val (.int x10_54), .val (.int x11_63), .val (.int x12_75), .val (.int x13_84), .val (.ref ob5), .val (.ref ob65), .unset, .unset, .unset] [(.int (2 : Int32)), (.int (3 : Int32))])
    refine own_go (fun _ => XS.icmpNo X67.here hx rfl (hb hby at_151) rfl (Jvm.Free.XT.ii_le_f (by decide : ((2 : Int32) < (3 : Int32))))) ?_
    show own_G p e below Φ T67 (mkF m 154 #[.val (.int p0), .val (.int p1), .val (.int p2), .val (.int p3), .val (.int p4), .val (.int (3 : Int32)), .val (.int x6_15), .val (.int x7_23), .val (.int x8_34), .val (.int x9_43), .val (.int x10_54), .val (.int x11_63), .val (.int x12_75), .val (.int x13_84), .val (.ref ob5), .val (.ref ob65), .unset, .unset, .unset] [])
    refine own_go (fun _ => XS.aload X67.here hx rfl (hb hby at_154) rfl rfl) ?_
    show own_G p e below Φ T67 (mkF m 156 #[.val (.int p0), .val (.int p1), .val (.int p2), .val (.int p3), .val (.int p4), .val (.int (3 : Int32)), .val (.int x6_15), .val (.int x7_23), .val (.int x8_34), .val (.int x9_43), .val (.int x10_54), .val (.int x11_63), .val (.int x12_75), .val (.int x13_84), .val (.ref ob5), .val (.ref ob65), .unset, .unset, .unset] [(.ref ob65)])
    refine own_go (fun _ => XS.iconst X67.here hx rfl (hb hby at_156)) ?_
    show own_G p e below Φ T67 (mkF m 157 #[.val (.int p0), .val (.int p1), .val (.int p2), .val (.int p3), .val (.int p4), .val (.int (3 : Int32)), .val (.int x6_15), .val (.int x7_23), .val (.int x8_34), .val (.int x9_43), .val (.int x10_54), .val (.int x11_63), .val (.int x12_75), .val (.int x13_84), .val (.ref ob5), .val (.ref ob65), .unset, .unset, .unset] [(.int (2 : Int32)), (.ref ob65)])
    refine own_go (fun _ => XS.iload X67.here hx rfl (hb hby at_157) rfl) ?_
    show own_G p e below Φ T67 (mkF m 159 #[.val (.int p0), .val (.int p1), .val (.int p2), .val (.int p3), .val (.int p4), .val (.int (3 : Int32)), .val (.int x6_15), .val (.int x7_23), .val (.int x8_34), .val (.int x9_43), .val (.int x10_54), .val (.int x11_63), .val (.int x12_75), .val (.int x13_84), .val (.ref ob5), .val (.ref ob65), .unset, .unset, .unset] [(.int x8_34), (.int (2 : Int32)), (.ref ob65)])
    obtain ⟨cl68, Ar68, q68, S68, M68, H68, G68⟩ := id V67
    have hin68 : ¬ ((2 : Int32) < 0 ∨ cl68.slots.size ≤ ((2 : Int32)).toNatClampNeg) := inb_of S68 ⟨by decide, by decide⟩
    obtain ⟨T68, h68, X68, e68, W68, st68⟩ := stI X67 hx hZ e67 Ar68 (j := (2 : Int32)) hin68 (g := (mkF m 159 #[.val (.int p0), .val (.int p1), .val (.int p2), .val (.int p3), .val (.int p4), .val (.int (3 : Int32)), .val (.int x6_15), .val (.int x7_23), .val (.int x8_34), .val (.int x9_43), .val (.int x10_54), .val (.int x11_63), .val (.int x12_75), .val (.int x13_84), .val (.ref ob5), .val (.ref ob65), .unset, .unset, .unset] [(.int x8_34), (.int (2 : Int32)), (.ref ob65)])) rfl rfl (hb hby at_159)
    refine own_go st68 ?_
    have V68 : Arv Z h68 ob65 ka65 .int (3 : Int32) [(.int (0 : Int32)), (.int x6_15), (.int x8_34)] (.int (0 : Int32)) := Arv.set Ar68 q68 S68 M68 H68 G68 rfl W68 2 rfl (Nat.le_of_ble_eq_true rfl)
    have N68 := Fr.snoc X68 N67 g_ob65
    have Zp68 : n0 ≤ h68.size := Nat.le_trans Zp67 (Keep.of_wr W68).1
    show own_G p e below Φ T68 (mkF m 160 #[.val (.int p0), .val (.int p1), .val (.int p2), .val (.int p3), .val (.int p4), .val (.int (3 : Int32)), .val (.int x6_15), .val (.int x7_23), .val (.int x8_34), .val (.int x9_43), .val (.int x10_54), .val (.int x11_63), .val (.int x12_75), .val (.int x13_84), .val (.ref ob5), .val (.ref ob65), .unset, .unset, .unset] [])
    refine own_go (fun _ => XS.iload X68.here hx rfl (hb hby at_160) rfl) ?_
    show own_G p e below Φ T68 (mkF m 162 #[.val (.int p0), .val (.int p1), .val (.int p2), .val (.int p3), .val (.int p4), .val (.int (3 : Int32)), .val (.int x6_15), .val (.int x7_23), .val (.int x8_34), .val (.int x9_43), .val (.int x10_54), .val (.int x11_63), .val (.int x12_75), .val (.int x13_84), .val (.ref ob5), .val (.ref ob65), .unset, .unset, .unset] [(.int (3 : Int32))])
    refine own_go (fun _ => XS.iconst X68.here hx rfl (hb hby at_162)) ?_
    show own_G p e below Φ T68 (mkF m 163 #[.val (.int p0), .val (.int p1), .val (.int p2), .val (.int p3), .val (.int p4), .val (.int (3 : Int32)), .val (.int x6_15), .val (.int x7_23), .val (.int x8_34), .val (.int x9_43), .val (.int x10_54), .val (.int x11_63), .val (.int x12_75), .val (.int x13_84), .val (.ref ob5), .val (.ref ob65), .unset, .unset, .unset] [(.int (3 : Int32)), (.int (3 : Int32))])
    refine own_go (fun _ => XS.icmpYes X68.here hx rfl (pc0 := 163) (pc' := 172) rfl (hb hby at_163) rfl (Jvm.Free.XT.ii_le_t (by decide : ¬ ((3 : Int32) < (3 : Int32)))) (by decide) (by decide)) ?_
    show own_G p e below Φ T68 (mkF m 172 #[.val (.int p0), .val (.int p1), .val (.int p2), .val (.int p3), .val (.int p4), .val (.int (3 : Int32)), .val (.int x6_15), .val (.int x7_23), .val (.int x8_34), .val (.int x9_43), .val (.int x10_54), .val (.int x11_63), .val (.int x12_75), .val (.int x13_84), .val (.ref ob5), .val (.ref ob65), .unset, .unset, .unset] [])
    refine own_go (fun _ => XS.iload X68.here hx rfl (hb hby at_172) rfl) ?_
    show own_G p e below Φ T68 (mkF m 174 #[.val (.int p0), .val (.int p1), .val (.int p2), .val (.int p3), .val (.int p4), .val (.int (3 : Int32)), .val (.int x6_15), .val (.int x7_23), .val (.int x8_34), .val (.int x9_43), .val (.int x10_54), .val (.int x11_63), .val (.int x12_75), .val (.int x13_84), .val (.ref ob5), .val (.ref ob65), .unset, .unset, .unset] [(.int (3 : Int32))])
    refine own_go (fun _ => XS.iconst X68.here hx rfl (hb hby at_174)) ?_
    show own_G p e below Φ T68 (mkF m 175 #[.val (.int p0), .val (.int p1), .val (.int p2), .val (.int p3), .val (.int p4), .val (.int (3 : Int32)), .val (.int x6_15), .val (.int x7_23), .val (.int x8_34), .val (.int x9_43), .val (.int x10_54), .val (.int x11_63), .val (.int x12_75), .val (.int x13_84), .val (.ref ob5), .val (.ref ob65), .unset, .unset, .unset] [(.int (4 : Int32)), (.int (3 : Int32))])
    refine own_go (fun _ => XS.icmpYes X68.here hx rfl (pc0 := 175) (pc' := 184) rfl (hb hby at_175) rfl (Jvm.Free.XT.ii_le_t (by decide : ¬ ((4 : Int32) < (3 : Int32)))) (by decide) (by decide)) ?_
    show own_G p e below Φ T68 (mkF m 184 #[.val (.int p0), .val (.int p1), .val (.int p2), .val (.int p3), .val (.int p4), .val (.int (3 : Int32)), .val (.int x6_15), .val (.int x7_23), .val (.int x8_34), .val (.int x9_43), .val (.int x10_54), .val (.int x11_63), .val (.int x12_75), .val (.int x13_84), .val (.ref ob5), .val (.ref ob65), .unset, .unset, .unset] [])
    refine own_go (fun _ => XS.iconst X68.here hx rfl (hb hby at_184)) ?_
    show own_G p e below Φ T68 (mkF m 185 #[.val (.int p0), .val (.int p1), .val (.int p2), .val (.int p3), .val (.int p4), .val (.int (3 : Int32)), .val (.int x6_15), .val (.int x7_23), .val (.int x8_34), .val (.int x9_43), .val (.int x10_54), .val (.int x11_63), .val (.int x12_75), .val (.int x13_84), .val (.ref ob5), .val (.ref ob65), .unset, .unset, .unset] [(.int (0 : Int32))])
    refine own_go (fun _ => XS.istore X68.here hx rfl (hb hby at_185) rfl (l' := #[.val (.int p0), .val (.int p1), .val (.int p2), .val (.int p3), .val (.int p4), .val (.int (3 : Int32)), .val (.int x6_15), .val (.int x7_23), .val (.int x8_34), .val (.int x9_43), .val (.int x10_54), .val (.int x11_63), .val (.int x12_75), .val (.int x13_84), .val (.ref ob5), .val (.ref ob65), .val (.int (0 : Int32)), .unset, .unset]) rfl) ?_
    show own_G p e below Φ T68 (mkF m 187 #[.val (.int p0), .val (.int p1), .val (.int p2), .val (.int p3), .val (.int p4), .val (.int (3 : Int32)), .val (.int x6_15), .val (.int x7_23), .val (.int x8_34), .val (.int x9_43), .val (.int x10_54), .val (.int x11_63), .val (.int x12_75), .val (.int x13_84), .val (.ref ob5), .val (.ref ob65), .val (.int (0 : Int32)), .unset, .unset] [])
    refine own_go (fun _ => XS.iload X68.here hx rfl (hb hby at_187) rfl) ?_
    show own_G p e below Φ T68 (mkF m 189 #[.val (.int p0), .val (.int p1), .val (.int p2), .val (.int p3), .val (.int p4), .val (.int (3 : Int32)), .val (.int x6_15), .val (.int x7_23), .val (.int x8_34), .val (.int x9_43), .val (.int x10_54), .val (.int x11_63), .val (.int x12_75), .val (.int x13_84), .val (.ref ob5), .val (.ref ob65), .val (.int (0 : Int32)), .unset, .unset] [(.int (3 : Int32))])
    refine own_go (fun _ => XS.iconst X68.here hx rfl (hb hby at_189)) ?_
    show own_G p e below Φ T68 (mkF m 190 #[.val (.int p0), .val (.int p1), .val (.int p2), .val (.int p3), .val (.int p4), .val (.int (3 : Int32)), .val (.int x6_15), .val (.int x7_23), .val (.int x8_34), .val (.int x9_43), .val (.int x10_54), .val (.int x11_63), .val (.int x12_75), .val (.int x13_84), .val (.ref ob5), .val (.ref ob65), .val (.int (0 : Int32)), .unset, .unset] [(.int (1 : Int32)), (.int (3 : Int32))])
    refine own_go (fun _ => XS.icmpYes X68.here hx rfl (pc0 := 190) (pc' := 199) rfl (hb hby at_190) rfl (Jvm.Free.XT.ii_ne_t (by decide : ¬ ((3 : Int32) = (1 : Int32)))) (by decide) (by decide)) ?_
    show own_G p e below Φ T68 (mkF m 199 #[.val (.int p0), .val (.int p1), .val (.int p2), .val (.int p3), .val (.int p4), .val (.int (3 : Int32)), .val (.int x6_15), .val (.int x7_23), .val (.int x8_34), .val (.int x9_43), .val (.int x10_54), .val (.int x11_63), .val (.int x12_75), .val (.int x13_84), .val (.ref ob5), .val (.ref ob65), .val (.int (0 : Int32)), .unset, .unset] [])
    refine own_go (fun _ => XS.iload X68.here hx rfl (hb hby at_199) rfl) ?_
    show own_G p e below Φ T68 (mkF m 201 #[.val (.int p0), .val (.int p1), .val (.int p2), .val (.int p3), .val (.int p4), .val (.int (3 : Int32)), .val (.int x6_15), .val (.int x7_23), .val (.int x8_34), .val (.int x9_43), .val (.int x10_54), .val (.int x11_63), .val (.int x12_75), .val (.int x13_84), .val (.ref ob5), .val (.ref ob65), .val (.int (0 : Int32)), .unset, .unset] [(.int (3 : Int32))])
    refine own_go (fun _ => XS.iconst X68.here hx rfl (hb hby at_201)) ?_
    show own_G p e below Φ T68 (mkF m 202 #[.val (.int p0), .val (.int p1), .val (.int p2), .val (.int p3), .val (.int p4), .val (.int (3 : Int32)), .val (.int x6_15), .val (.int x7_23), .val (.int x8_34), .val (.int x9_43), .val (.int x10_54), .val (.int x11_63), .val (.int x12_75), .val (.int x13_84), .val (.ref ob5), .val (.ref ob65), .val (.int (0 : Int32)), .unset, .unset] [(.int (2 : Int32)), (.int (3 : Int32))])
    refine own_go (fun _ => XS.icmpYes X68.here hx rfl (pc0 := 202) (pc' := 214) rfl (hb hby at_202) rfl (Jvm.Free.XT.ii_ne_t (by decide : ¬ ((3 : Int32) = (2 : Int32)))) (by decide) (by decide)) ?_
    show own_G p e below Φ T68 (mkF m 214 #[.val (.int p0), .val (.int p1), .val (.int p2), .val (.int p3), .val (.int p4), .val (.int (3 : Int32)), .val (.int x6_15), .val (.int x7_23), .val (.int x8_34), .val (.int x9_43), .val (.int x10_54), .val (.int x11_63), .val (.int x12_75), .val (.int x13_84), .val (.ref ob5), .val (.ref ob65), .val (.int (0 : Int32)), .unset, .unset] [])
    refine own_go (fun _ => XS.iload X68.here hx rfl (hb hby at_214) rfl) ?_
    show own_G p e below Φ T68 (mkF m 216 #[.val (.int p0), .val (.int p1), .val (.int p2), .val (.int p3), .val (.int p4), .val (.int (3 : Int32)), .val (.int x6_15), .val (.int x7_23), .val (.int x8_34), .val (.int x9_43), .val (.int x10_54), .val (.int x11_63), .val (.int x12_75), .val (.int x13_84), .val (.ref ob5), .val (.ref ob65), .val (.int (0 : Int32)), .unset, .unset] [(.int (3 : Int32))])
    refine own_go (fun _ => XS.iconst X68.here hx rfl (hb hby at_216)) ?_
    show own_G p e below Φ T68 (mkF m 217 #[.val (.int p0), .val (.int p1), .val (.int p2), .val (.int p3), .val (.int p4), .val (.int (3 : Int32)), .val (.int x6_15), .val (.int x7_23), .val (.int x8_34), .val (.int x9_43), .val (.int x10_54), .val (.int x11_63), .val (.int x12_75), .val (.int x13_84), .val (.ref ob5), .val (.ref ob65), .val (.int (0 : Int32)), .unset, .unset] [(.int (3 : Int32)), (.int (3 : Int32))])
    refine own_go (fun _ => XS.icmpNo X68.here hx rfl (hb hby at_217) rfl (Jvm.Free.XT.ii_ne_f (by decide : ((3 : Int32) = (3 : Int32))))) ?_
    show own_G p e below Φ T68 (mkF m 220 #[.val (.int p0), .val (.int p1), .val (.int p2), .val (.int p3), .val (.int p4), .val (.int (3 : Int32)), .val (.int x6_15), .val (.int x7_23), .val (.int x8_34), .val (.int x9_43), .val (.int x10_54), .val (.int x11_63), .val (.int x12_75), .val (.int x13_84), .val (.ref ob5), .val (.ref ob65), .val (.int (0 : Int32)), .unset, .unset] [])
    refine own_go (fun _ => XS.iload X68.here hx rfl (hb hby at_220) rfl) ?_
    show own_G p e below Φ T68 (mkF m 222 #[.val (.int p0), .val (.int p1), .val (.int p2), .val (.int p3), .val (.int p4), .val (.int (3 : Int32)), .val (.int x6_15), .val (.int x7_23), .val (.int x8_34), .val (.int x9_43), .val (.int x10_54), .val (.int x11_63), .val (.int x12_75), .val (.int x13_84), .val (.ref ob5), .val (.ref ob65), .val (.int (0 : Int32)), .unset, .unset] [(.int x9_43)])
    refine own_go (fun _ => XS.iconst X68.here hx rfl (hb hby at_222)) ?_
    show own_G p e below Φ T68 (mkF m 223 #[.val (.int p0), .val (.int p1), .val (.int p2), .val (.int p3), .val (.int p4), .val (.int (3 : Int32)), .val (.int x6_15), .val (.int x7_23), .val (.int x8_34), .val (.int x9_43), .val (.int x10_54), .val (.int x11_63), .val (.int x12_75), .val (.int x13_84), .val (.ref ob5), .val (.ref ob65), .val (.int (0 : Int32)), .unset, .unset] [(.int (1 : Int32)), (.int x9_43)])
    refine own_go (fun _ => XS.iadd X68.here hx rfl (hb hby at_223) rfl) ?_
    show own_G p e below Φ T68 (mkF m 224 #[.val (.int p0), .val (.int p1), .val (.int p2), .val (.int p3), .val (.int p4), .val (.int (3 : Int32)), .val (.int x6_15), .val (.int x7_23), .val (.int x8_34), .val (.int x9_43), .val (.int x10_54), .val (.int x11_63), .val (.int x12_75), .val (.int x13_84), .val (.ref ob5), .val (.ref ob65), .val (.int (0 : Int32)), .unset, .unset] [(.int (x9_43 + (1 : Int32)))])
    refine own_go (fun _ => XS.istore X68.here hx rfl (hb hby at_224) rfl (l' := #[.val (.int p0), .val (.int p1), .val (.int p2), .val (.int p3), .val (.int p4), .val (.int (3 : Int32)), .val (.int x6_15), .val (.int x7_23), .val (.int x8_34), .val (.int x9_43), .val (.int x10_54), .val (.int x11_63), .val (.int x12_75), .val (.int x13_84), .val (.ref ob5), .val (.ref ob65), .val (.int (x9_43 + (1 : Int32))), .unset, .unset]) rfl) ?_
    show own_G p e below Φ T68 (mkF m 226 #[.val (.int p0), .val (.int p1), .val (.int p2), .val (.int p3), .val (.int p4), .val (.int (3 : Int32)), .val (.int x6_15), .val (.int x7_23), .val (.int x8_34), .val (.int x9_43), .val (.int x10_54), .val (.int x11_63), .val (.int x12_75), .val (.int x13_84), .val (.ref ob5), .val (.ref ob65), .val (.int (x9_43 + (1 : Int32))), .unset, .unset] [])
    refine own_go (fun _ => XS.goto X68.here hx rfl (pc0 := 226) (pc' := 256) rfl (hb hby at_226) (by decide) (by decide)) ?_
    show own_G p e below Φ T68 (mkF m 256 #[.val (.int p0), .val (.int p1), .val (.int p2), .val (.int p3), .val (.int p4), .val (.int (3 : Int32)), .val (.int x6_15), .val (.int x7_23), .val (.int x8_34), .val (.int x9_43), .val (.int x10_54), .val (.int x11_63), .val (.int x12_75), .val (.int x13_84), .val (.ref ob5), .val (.ref ob65), .val (.int (x9_43 + (1 : Int32))), .unset, .unset] [])
    obtain ⟨T69, h69, X69, e69, E69, A69, D69, -, st69⟩ := newO X68 hx hZ hown (wd_6 hw) (wd_7 hw) (wd_8 hw) e68 (g := (mkF m 256 #[.val (.int p0), .val (.int p1), .val (.int p2), .val (.int p3), .val (.int p4), .val (.int (3 : Int32)), .val (.int x6_15), .val (.int x7_23), .val (.int x8_34), .val (.int x9_43), .val (.int x10_54), .val (.int x11_63), .val (.int x12_75), .val (.int x13_84), .val (.ref ob5), .val (.ref ob65), .val (.int (x9_43 + (1 : Int32))), .unset, .unset] [])) rfl (hb hby at_256) (by decide) (by decide)
    obtain ⟨ob69, g69⟩ : ∃ z, z = h68.size := ⟨_, rfl⟩
    rw [← g69] at A69 D69 st69
    have f70 : Arv Z h65 ob5 ka5 .int (5 : Int32) [(.int (0 : Int32)), (.int x6_15), (.int x8_34), (.int x10_54), (.int x12_75)] (.int (0 : Int32)) := V10.ext E65
    have f71 : Arv Z h66 ob5 ka5 .int (5 : Int32) [(.int (0 : Int32)), (.int x6_15), (.int x8_34), (.int x10_54), (.int x12_75)] (.int (0 : Int32)) := f70.other W66 ne_ob5_ob65
    have f72 : Arv Z h67 ob5 ka5 .int (5 : Int32) [(.int (0 : Int32)), (.int x6_15), (.int x8_34), (.int x10_54), (.int x12_75)] (.int (0 : Int32)) := f71.other W67 ne_ob5_ob65
    have f73 : Arv Z h68 ob5 ka5 .int (5 : Int32) [(.int (0 : Int32)), (.int x6_15), (.int x8_34), (.int x10_54), (.int x12_75)] (.int (0 : Int32)) := f72.other W68 ne_ob5_ob65
    have ne_ob5_ob69 : ob5 ≠ ob69 := Nat.ne_of_lt (Nat.lt_of_lt_of_le f73.lt (Nat.le_of_eq g69.symm))
    have ne_ob65_ob69 : ob65 ≠ ob69 := Nat.ne_of_lt (Nat.lt_of_lt_of_le V68.lt (Nat.le_of_eq g69.symm))
    have g_ob69 : n0 ≤ ob69 := Nat.le_trans Zp68 (Nat.le_of_eq g69.symm)
    have Zp69 : n0 ≤ h69.size := Nat.le_trans Zp68 E69.1
    refine own_go st69 ?_
    have F_m_aClasses_ob69 : Fld Z h69 ob69 "com/example/edgewarden/edgewarden/graph/Likeness" "m_aClasses" "[I" .null := D69 (Or.inr (wd_16 hw)) (ty := (.array .int)) (by decide)
    have F_m_nClassCount_ob69 : Fld Z h69 ob69 "com/example/edgewarden/edgewarden/graph/Likeness" "m_nClassCount" "I" (.int (0 : Int32)) := D69 (Or.inr (wd_18 hw)) (ty := .int) (by decide)
    show own_G p e below Φ T69 (mkF m 259 #[.val (.int p0), .val (.int p1), .val (.int p2), .val (.int p3), .val (.int p4), .val (.int (3 : Int32)), .val (.int x6_15), .val (.int x7_23), .val (.int x8_34), .val (.int x9_43), .val (.int x10_54), .val (.int x11_63), .val (.int x12_75), .val (.int x13_84), .val (.ref ob5), .val (.ref ob65), .val (.int (x9_43 + (1 : Int32))), .unset, .unset] [(.ref ob69)])
    refine own_go (fun _ => XS.dup X69.here hx rfl (hb hby at_259) rfl rfl) ?_
    show own_G p e below Φ T69 (mkF m 260 #[.val (.int p0), .val (.int p1), .val (.int p2), .val (.int p3), .val (.int p4), .val (.int (3 : Int32)), .val (.int x6_15), .val (.int x7_23), .val (.int x8_34), .val (.int x9_43), .val (.int x10_54), .val (.int x11_63), .val (.int x12_75), .val (.int x13_84), .val (.ref ob5), .val (.ref ob65), .val (.int (x9_43 + (1 : Int32))), .unset, .unset] [(.ref ob69), (.ref ob69)])
    refine own_go (fun _ => XS.aload X69.here hx rfl (hb hby at_260) rfl rfl) ?_
    show own_G p e below Φ T69 (mkF m 262 #[.val (.int p0), .val (.int p1), .val (.int p2), .val (.int p3), .val (.int p4), .val (.int (3 : Int32)), .val (.int x6_15), .val (.int x7_23), .val (.int x8_34), .val (.int x9_43), .val (.int x10_54), .val (.int x11_63), .val (.int x12_75), .val (.int x13_84), .val (.ref ob5), .val (.ref ob65), .val (.int (x9_43 + (1 : Int32))), .unset, .unset] [(.ref ob65), (.ref ob69), (.ref ob69)])
    have f74 : Arv Z h69 ob65 ka65 .int (3 : Int32) [(.int (0 : Int32)), (.int x6_15), (.int x8_34)] (.int (0 : Int32)) := V68.ext E69
    obtain ⟨_, _, ⟨T75, zL75, zk75, zn75⟩, -, X75, ⟨Lc75, hQ75, l75, y75, z75⟩, st75⟩ := X69.specialBack hx (y := (⟨"com/example/edgewarden/edgewarden/graph/Likeness", "<init>", "([I)V"⟩ : MethodName)) rfl hown (mvT hZ (wd_9 hw)) (mvT hZ (wd_10 hw)) (mvT hZ (wd_11 hw)) (by decide) (backOf (W := 1) (rmI3 l Z a0 hw [] ob69 ob65 ka65 (0 : Int32) x6_15 x8_34 .null (.int (0 : Int32)) h69 n0 Zp69 A69 F_m_aClasses_ob69 F_m_nClassCount_ob69 g_ob69 f74 ne_ob65_ob69) hZ (wd_11 hw) (wd_8 hw) (by decide) (by decide)) (g := (mkF m 262 #[.val (.int p0), .val (.int p1), .val (.int p2), .val (.int p3), .val (.int p4), .val (.int (3 : Int32)), .val (.int x6_15), .val (.int x7_23), .val (.int x8_34), .val (.int x9_43), .val (.int x10_54), .val (.int x11_63), .val (.int x12_75), .val (.int x13_84), .val (.ref ob5), .val (.ref ob65), .val (.int (x9_43 + (1 : Int32))), .unset, .unset] [(.ref ob65), (.ref ob69), (.ref ob69)])) rfl (by rw [hml]; rfl) (Steps.refl _) (a := ob69) (argsL := [(.ref ob65)]) (rest := [(.ref ob69)]) (lenOf pd_2 rfl) rfl (by show 2 * 0 + _ ≤ _; exact Nat.le_of_eq rfl) (hb hby at_262) (fun _ _ => ⟨rfl, e69, (by decide : 3 + 0 ≤ _), (by decide : 10 + 0 ≤ _)⟩)
    dsimp only [Pt.U, Pt.locs, Pt.cells, Pt.slots] at X75 l75 y75 z75 st75 hQ75
    subst l75 y75 z75
    obtain ⟨rfl, N75q, Kq75, p75_0, p75_1, p75_2⟩ := hQ75
    have N75 := Fr.app N68 N75q
    refine own_on st75 ?_
    have Zp75 : n0 ≤ T75.heap.size := Nat.le_trans Zp69 Kq75.1
    show own_G p e below Φ T75 (mkF m 265 #[.val (.int p0), .val (.int p1), .val (.int p2), .val (.int p3), .val (.int p4), .val (.int (3 : Int32)), .val (.int x6_15), .val (.int x7_23), .val (.int x8_34), .val (.int x9_43), .val (.int x10_54), .val (.int x11_63), .val (.int x12_75), .val (.int x13_84), .val (.ref ob5), .val (.ref ob65), .val (.int (x9_43 + (1 : Int32))), .unset, .unset] [(.ref ob69)])
    refine own_go (fun _ => XS.astore X75.here hx rfl (hb hby at_265) rfl rfl (l' := #[.val (.int p0), .val (.int p1), .val (.int p2), .val (.int p3), .val (.int p4), .val (.int (3 : Int32)), .val (.int x6_15), .val (.int x7_23), .val (.int x8_34), .val (.int x9_43), .val (.int x10_54), .val (.int x11_63), .val (.int x12_75), .val (.int x13_84), .val (.ref ob5), .val (.ref ob65), .val (.int (x9_43 + (1 : Int32))), .val (.ref ob69), .unset]) rfl) ?_
    show own_G p e below Φ T75 (mkF m 267 #[.val (.int p0), .val (.int p1), .val (.int p2), .val (.int p3), .val (.int p4), .val (.int (3 : Int32)), .val (.int x6_15), .val (.int x7_23), .val (.int x8_34), .val (.int x9_43), .val (.int x10_54), .val (.int x11_63), .val (.int x12_75), .val (.int x13_84), .val (.ref ob5), .val (.ref ob65), .val (.int (x9_43 + (1 : Int32))), .val (.ref ob69), .unset] [])
    refine own_go (fun _ => XS.aload X75.here hx rfl (hb hby at_267) rfl rfl) ?_
    show own_G p e below Φ T75 (mkF m 269 #[.val (.int p0), .val (.int p1), .val (.int p2), .val (.int p3), .val (.int p4), .val (.int (3 : Int32)), .val (.int x6_15), .val (.int x7_23), .val (.int x8_34), .val (.int x9_43), .val (.int x10_54), .val (.int x11_63), .val (.int x12_75), .val (.int x13_84), .val (.ref ob5), .val (.ref ob65), .val (.int (x9_43 + (1 : Int32))), .val (.ref ob69), .unset] [(.ref ob69)])
    have f76 : Arv Z T75.heap ob65 ka65 .int (3 : Int32) [(.int (0 : Int32)), (.int x6_15), (.int x8_34)] (.int (0 : Int32)) := f74.keep Kq75 (ninS ne_ob65_ob69 nin0)
    obtain ⟨cq77, kq77, q77a, q77b, q77c⟩ := isOf hZ rfl p75_0
    obtain ⟨_, _, ⟨T77, zL77, zk77, zn77⟩, -, X77, ⟨Lc77, hQ77, l77, y77, z77⟩, st77⟩ := X75.virtualBack hx (y := (⟨"com/example/edgewarden/edgewarden/graph/Likeness", "getFirstMembers", "()[I"⟩ : MethodName)) (z := (⟨"com/example/edgewarden/edgewarden/graph/Likeness", "getFirstMembers", "()[I"⟩ : MethodName)) hown (mvT hZ (wd_19 hw)) (mvT hZ (wd_20 hw)) (notFace_of_selects (args := #[]) (mvT hZ (wd_22 hw))) (mvT hZ (wd_22 hw)) (mvT hZ (wd_21 hw)) (by decide) (backOf (W := 0) (rmS3 l Z a0 hw [] ob69 ob65 ka65 (own_max (own_max (own_max (0 : Int32) ((0 : Int32) + (1 : Int32))) (x6_15 + (1 : Int32))) (x8_34 + (1 : Int32))) (0 : Int32) x6_15 x8_34 T75.heap n0 Zp75 p75_2 p75_1 f76 (own_use (P := fun t => ¬ (own_max (own_max (own_max (0 : Int32) ((0 : Int32) + (1 : Int32))) (t.1 + (1 : Int32))) (t.2.2.1 + (1 : Int32))) < 0) (by decide +kernel) hall) (own_use (P := fun t => ((own_max (own_max (own_max (0 : Int32) ((0 : Int32) + (1 : Int32))) (t.1 + (1 : Int32))) (t.2.2.1 + (1 : Int32)))).toNatClampNeg ≤ 5) (by decide +kernel) hall) (own_use (P := fun t => ¬ (0 : Int32) < 0 ∧ (0 : Int32) < (own_max (own_max (own_max (0 : Int32) ((0 : Int32) + (1 : Int32))) (t.1 + (1 : Int32))) (t.2.2.1 + (1 : Int32)))) (by decide +kernel) hall) (own_use (P := fun t => ¬ t.1 < 0 ∧ t.1 < (own_max (own_max (own_max (0 : Int32) ((0 : Int32) + (1 : Int32))) (t.1 + (1 : Int32))) (t.2.2.1 + (1 : Int32)))) (by decide +kernel) hall) (own_use (P := fun t => ¬ t.2.2.1 < 0 ∧ t.2.2.1 < (own_max (own_max (own_max (0 : Int32) ((0 : Int32) + (1 : Int32))) (t.1 + (1 : Int32))) (t.2.2.1 + (1 : Int32)))) (by decide +kernel) hall)) hZ (wd_23 hw) (wd_8 hw) (by decide) (by decide)) q77a q77c (g := (mkF m 269 #[.val (.int p0), .val (.int p1), .val (.int p2), .val (.int p3), .val (.int p4), .val (.int (3 : Int32)), .val (.int x6_15), .val (.int x7_23), .val (.int x8_34), .val (.int x9_43), .val (.int x10_54), .val (.int x11_63), .val (.int x12_75), .val (.int x13_84), .val (.ref ob5), .val (.ref ob65), .val (.int (x9_43 + (1 : Int32))), .val (.ref ob69), .unset] [(.ref ob69)])) rfl (by rw [hml]; rfl) (Steps.refl _) (argsL := []) (rest := []) (lenOf pd_3 rfl) rfl (by show 2 * 0 + _ ≤ _; exact Nat.le_of_eq rfl) (hb hby at_269) (fun _ _ => ⟨rfl, rfl, (by decide : 3 + 1 ≤ _), (by decide : 10 + 5 ≤ _)⟩)
    dsimp only [Pt.U, Pt.locs, Pt.cells, Pt.slots] at X77 l77 y77 z77 st77 hQ77
    subst l77 y77 z77
    obtain ⟨b_77, ns_b_77, kb_77, rfl, N77q, Kq77, p77_0⟩ := hQ77
    have N77 := Fr.app N75 N77q
    refine own_on st77 ?_
    have f78 : Arv Z h69 ob5 ka5 .int (5 : Int32) [(.int (0 : Int32)), (.int x6_15), (.int x8_34), (.int x10_54), (.int x12_75)] (.int (0 : Int32)) := f73.ext E69
    have f79 : Arv Z T75.heap ob5 ka5 .int (5 : Int32) [(.int (0 : Int32)), (.int x6_15), (.int x8_34), (.int x10_54), (.int x12_75)] (.int (0 : Int32)) := f78.keep Kq75 (ninS ne_ob5_ob69 nin0)
    have ne_ob5_b_77 : ob5 ≠ b_77 := Nat.ne_of_lt (Nat.lt_of_lt_of_le f79.lt ns_b_77)
    have ne_ob65_b_77 : ob65 ≠ b_77 := Nat.ne_of_lt (Nat.lt_of_lt_of_le f76.lt ns_b_77)
    have ne_ob69_b_77 : ob69 ≠ b_77 := Nat.ne_of_lt (Nat.lt_of_lt_of_le p75_0.lt ns_b_77)
    have g_b_77 : n0 ≤ b_77 := Nat.le_trans Zp75 ns_b_77
    have Zp77 : n0 ≤ T77.heap.size := Nat.le_trans Zp75 Kq77.1
    show own_G p e below Φ T77 (mkF m 272 #[.val (.int p0), .val (.int p1), .val (.int p2), .val (.int p3), .val (.int p4), .val (.int (3 : Int32)), .val (.int x6_15), .val (.int x7_23), .val (.int x8_34), .val (.int x9_43), .val (.int x10_54), .val (.int x11_63), .val (.int x12_75), .val (.int x13_84), .val (.ref ob5), .val (.ref ob65), .val (.int (x9_43 + (1 : Int32))), .val (.ref ob69), .unset] [(.ref b_77)])
    refine own_go (fun _ => XS.astore X77.here hx rfl (hb hby at_272) rfl rfl (l' := #[.val (.int p0), .val (.int p1), .val (.int p2), .val (.int p3), .val (.int p4), .val (.int (3 : Int32)), .val (.int x6_15), .val (.int x7_23), .val (.int x8_34), .val (.int x9_43), .val (.int x10_54), .val (.int x11_63), .val (.int x12_75), .val (.int x13_84), .val (.ref ob5), .val (.ref ob65), .val (.int (x9_43 + (1 : Int32))), .val (.ref ob69), .val (.ref b_77)]) rfl) ?_
    show own_G p e below Φ T77 (mkF m 274 #[.val (.int p0), .val (.int p1), .val (.int p2), .val (.int p3), .val (.int p4), .val (.int (3 : Int32)), .val (.int x6_15), .val (.int x7_23), .val (.int x8_34), .val (.int x9_43), .val (.int x10_54), .val (.int x11_63), .val (.int x12_75), .val (.int x13_84), .val (.ref ob5), .val (.ref ob65), .val (.int (x9_43 + (1 : Int32))), .val (.ref ob69), .val (.ref b_77)] [])
    refine own_go (fun _ => XS.aload X77.here hx rfl (hb hby at_274) rfl rfl) ?_
    show own_G p e below Φ T77 (mkF m 276 #[.val (.int p0), .val (.int p1), .val (.int p2), .val (.int p3), .val (.int p4), .val (.int (3 : Int32)), .val (.int x6_15), .val (.int x7_23), .val (.int x8_34), .val (.int x9_43), .val (.int x10_54), .val (.int x11_63), .val (.int x12_75), .val (.int x13_84), .val (.ref ob5), .val (.ref ob65), .val (.int (x9_43 + (1 : Int32))), .val (.ref ob69), .val (.ref b_77)] [(.ref b_77)])
    refine own_go (fun _ => XS.ifnullNo X77.here hx rfl (hb hby at_276) rfl) ?_
    show own_G p e below Φ T77 (mkF m 279 #[.val (.int p0), .val (.int p1), .val (.int p2), .val (.int p3), .val (.int p4), .val (.int (3 : Int32)), .val (.int x6_15), .val (.int x7_23), .val (.int x8_34), .val (.int x9_43), .val (.int x10_54), .val (.int x11_63), .val (.int x12_75), .val (.int x13_84), .val (.ref ob5), .val (.ref ob65), .val (.int (x9_43 + (1 : Int32))), .val (.ref ob69), .val (.ref b_77)] [])
    refine own_go (fun _ => XS.aload X77.here hx rfl (hb hby at_279) rfl rfl) ?_
    show own_G p e below Φ T77 (mkF m 281 #[.val (.int p0), .val (.int p1), .val (.int p2), .val (.int p3), .val (.int p4), .val (.int (3 : Int32)), .val (.int x6_15), .val (.int x7_23), .val (.int x8_34), .val (.int x9_43), .val (.int x10_54), .val (.int x11_63), .val (.int x12_75), .val (.int x13_84), .val (.ref ob5), .val (.ref ob65), .val (.int (x9_43 + (1 : Int32))), .val (.ref ob69), .val (.ref b_77)] [(.ref b_77)])
    obtain ⟨cl80, Ar80, q80, S80, M80, H80, G80⟩ := id p77_0
    refine own_go (fun _ => X77.arraylength hx Ar80.1 (State.isArrayOf_alike hZ.alike Ar80.2.1) (g := (mkF m 281 #[.val (.int p0), .val (.int p1), .val (.int p2), .val (.int p3), .val (.int p4), .val (.int (3 : Int32)), .val (.int x6_15), .val (.int x7_23), .val (.int x8_34), .val (.int x9_43), .val (.int x10_54), .val (.int x11_63), .val (.int x12_75), .val (.int x13_84), .val (.ref ob5), .val (.ref ob65), .val (.int (x9_43 + (1 : Int32))), .val (.ref ob69), .val (.ref b_77)] [(.ref b_77)])) rfl rfl (hb hby at_281) _) ?_
    rw [len_of S80 M80]
    show own_G p e below Φ T77 (mkF m 282 #[.val (.int p0), .val (.int p1), .val (.int p2), .val (.int p3), .val (.int p4), .val (.int (3 : Int32)), .val (.int x6_15), .val (.int x7_23), .val (.int x8_34), .val (.int x9_43), .val (.int x10_54), .val (.int x11_63), .val (.int x12_75), .val (.int x13_84), .val (.ref ob5), .val (.ref ob65), .val (.int (x9_43 + (1 : Int32))), .val (.ref ob69), .val (.ref b_77)] [(.int (own_max (own_max (own_max (0 : Int32) ((0 : Int32) + (1 : Int32))) (x6_15 + (1 : Int32))) (x8_34 + (1 : Int32))))])
    refine own_go (fun _ => XS.iload X77.here hx rfl (hb hby at_282) rfl) ?_
    show own_G p e below Φ T77 (mkF m 284 #[.val (.int p0), .val (.int p1), .val (.int p2), .val (.int p3), .val (.int p4), .val (.int (3 : Int32)), .val (.int x6_15), .val (.int x7_23), .val (.int x8_34), .val (.int x9_43), .val (.int x10_54), .val (.int x11_63), .val (.int x12_75), .val (.int x13_84), .val (.ref ob5), .val (.ref ob65), .val (.int (x9_43 + (1 : Int32))), .val (.ref ob69), .val (.ref b_77)] [(.int (x9_43 + (1 : Int32))), (.int (own_max (own_max (own_max (0 : Int32) ((0 : Int32) + (1 : Int32))) (x6_15 + (1 : Int32))) (x8_34 + (1 : Int32))))])
    refine own_go (fun _ => XS.icmpYes X77.here hx rfl (pc0 := 284) (pc' := 289) rfl (hb hby at_284) rfl (Jvm.Free.XT.ii_eq_t (own_use (P := fun t => (own_max (own_max (own_max (0 : Int32) ((0 : Int32) + (1 : Int32))) (t.1 + (1 : Int32))) (t.2.2.1 + (1 : Int32))) = (t.2.2.2.1 + (1 : Int32))) (by decide +kernel) hall)) (by decide) (by decide)) ?_
    show own_G p e below Φ T77 (mkF m 289 #[.val (.int p0), .val (.int p1), .val (.int p2), .val (.int p3), .val (.int p4), .val (.int (3 : Int32)), .val (.int x6_15), .val (.int x7_23), .val (.int x8_34), .val (.int x9_43), .val (.int x10_54), .val (.int x11_63), .val (.int x12_75), .val (.int x13_84), .val (.ref ob5), .val (.ref ob65), .val (.int (x9_43 + (1 : Int32))), .val (.ref ob69), .val (.ref b_77)] [])
    refine own_go (fun _ => XS.aload X77.here hx rfl (hb hby at_289) rfl rfl) ?_
    show own_G p e below Φ T77 (mkF m 291 #[.val (.int p0), .val (.int p1), .val (.int p2), .val (.int p3), .val (.int p4), .val (.int (3 : Int32)), .val (.int x6_15), .val (.int x7_23), .val (.int x8_34), .val (.int x9_43), .val (.int x10_54), .val (.int x11_63), .val (.int x12_75), .val (.int x13_84), .val (.ref ob5), .val (.ref ob65), .val (.int (x9_43 + (1 : Int32))), .val (.ref ob69), .val (.ref b_77)] [(.ref b_77)])
    refine own_go (fun _ => XS.aload X77.here hx rfl (hb hby at_291) rfl rfl) ?_
    show own_G p e below Φ T77 (mkF m 293 #[.val (.int p0), .val (.int p1), .val (.int p2), .val (.int p3), .val (.int p4), .val (.int (3 : Int32)), .val (.int x6_15), .val (.int x7_23), .val (.int x8_34), .val (.int x9_43), .val (.int x10_54), .val (.int x11_63), .val (.int x12_75), .val (.int x13_84), .val (.ref ob5), .val (.ref ob65), .val (.int (x9_43 + (1 : Int32))), .val (.ref ob69), .val (.ref b_77)] [(.ref ob5), (.ref b_77)])
    refine own_go (fun _ => XS.iload X77.here hx rfl (hb hby at_293) rfl) ?_
    show own_G p e below Φ T77 (mkF m 295 #[.val (.int p0), .val (.int p1), .val (.int p2), .val (.int p3), .val (.int p4), .val (.int (3 : Int32)), .val (.int x6_15), .val (.int x7_23), .val (.int x8_34), .val (.int x9_43), .val (.int x10_54), .val (.int x11_63), .val (.int x12_75), .val (.int x13_84), .val (.ref ob5), .val (.ref ob65), .val (.int (x9_43 + (1 : Int32))), .val (.ref ob69), .val (.ref b_77)] [(.int (3 : Int32)), (.ref ob5), (.ref b_77)])
    refine own_go (fun _ => XS.iconst X77.here hx rfl (hb hby at_295)) ?_
    show own_G p e below Φ T77 (mkF m 296 #[.val (.int p0), .val (.int p1), .val (.int p2), .val (.int p3), .val (.int p4), .val (.int (3 : Int32)), .val (.int x6_15), .val (.int x7_23), .val (.int x8_34), .val (.int x9_43), .val (.int x10_54), .val (.int x11_63), .val (.int x12_75), .val (.int x13_84), .val (.ref ob5), .val (.ref ob65), .val (.int (x9_43 + (1 : Int32))), .val (.ref ob69), .val (.ref b_77)] [(.int (0 : Int32)), (.int (3 : Int32)), (.ref ob5), (.ref b_77)])
    have f81 : Arv Z T77.heap ob5 ka5 .int (5 : Int32) [(.int (0 : Int32)), (.int x6_15), (.int x8_34), (.int x10_54), (.int x12_75)] (.int (0 : Int32)) := f79.keep Kq77 nin0
    obtain ⟨_, _, ⟨T82, zL82, zk82, zn82⟩, -, X82, ⟨Lc82, hQ82, l82, y82, z82⟩, st82⟩ := Jvm.LawKit.callS X77 hx (y := (⟨"com/example/edgewarden/edgewarden/graph/LikenessGetFirstMembersPinLaw", "ok", "([I[III)Z"⟩ : MethodName)) hown (mvT hZ (wd_24 hw)) (mvT hZ (wd_25 hw)) (mvT hZ (wd_26 hw)) (mvT hZ (wd_27 hw)) (by decide) (backOf (W := 0) (rmK l Z a0 hw [] b_77 ob5 kb_77 ka5 (own_max (own_max (own_max (0 : Int32) ((0 : Int32) + (1 : Int32))) (x6_15 + (1 : Int32))) (x8_34 + (1 : Int32))) (own_put (own_put (own_put (own_zeros (own_max (own_max (own_max (0 : Int32) ((0 : Int32) + (1 : Int32))) (x6_15 + (1 : Int32))) (x8_34 + (1 : Int32)))) x8_34 (2 : Int32)) x6_15 (1 : Int32)) (0 : Int32) (0 : Int32)) (3 : Int32) (0 : Int32) (0 : Int32) x6_15 x8_34 x10_54 x12_75 T77.heap n0 Zp77 p77_0 f81 (by decide) (own_use (P := fun t => (0 : Int32) < (own_max (own_max (own_max (0 : Int32) ((0 : Int32) + (1 : Int32))) (t.1 + (1 : Int32))) (t.2.2.1 + (1 : Int32))) → ((own_put (own_put (own_put (own_zeros (own_max (own_max (own_max (0 : Int32) ((0 : Int32) + (1 : Int32))) (t.1 + (1 : Int32))) (t.2.2.1 + (1 : Int32)))) t.2.2.1 (2 : Int32)) t.1 (1 : Int32)) (0 : Int32) (0 : Int32))).getD ((0 : Int32)).toNatClampNeg 0 = own_first (0 : Int32) t.1 t.2.2.1 t.2.2.2.2.1 t.2.2.2.2.2.2.1 (3 : Int32) (0 : Int32)) (by decide +kernel) hall)) hZ (wd_27 hw) (wd_26 hw) (by decide) (by decide)) (g := (mkF m 296 #[.val (.int p0), .val (.int p1), .val (.int p2), .val (.int p3), .val (.int p4), .val (.int (3 : Int32)), .val (.int x6_15), .val (.int x7_23), .val (.int x8_34), .val (.int x9_43), .val (.int x10_54), .val (.int x11_63), .val (.int x12_75), .val (.int x13_84), .val (.ref ob5), .val (.ref ob65), .val (.int (x9_43 + (1 : Int32))), .val (.ref ob69), .val (.ref b_77)] [(.int (0 : Int32)), (.int (3 : Int32)), (.ref ob5), (.ref b_77)])) rfl (by rw [hml]; rfl) (argsL := [(.ref b_77), (.ref ob5), (.int (3 : Int32)), (.int (0 : Int32))]) (rest := []) (lenOf pd_4 rfl) rfl (by show 2 * 0 + _ ≤ _; exact Nat.le_of_eq rfl) (hb hby at_296) (fun _ _ => ⟨rfl, rfl, (by decide : 4 + 0 ≤ _), (by decide : 15 + 0 ≤ _)⟩)
    dsimp only [Pt.U, Pt.locs, Pt.cells, Pt.slots] at X82 l82 y82 z82 st82 hQ82
    subst l82 y82 z82
    obtain ⟨rfl, N82q, hs82⟩ := hQ82
    have N82 := Fr.app N77 N82q
    refine own_go st82 ?_
    show own_G p e below Φ T82 (mkF m 299 #[.val (.int p0), .val (.int p1), .val (.int p2), .val (.int p3), .val (.int p4), .val (.int (3 : Int32)), .val (.int x6_15), .val (.int x7_23), .val (.int x8_34), .val (.int x9_43), .val (.int x10_54), .val (.int x11_63), .val (.int x12_75), .val (.int x13_84), .val (.ref ob5), .val (.ref ob65), .val (.int (x9_43 + (1 : Int32))), .val (.ref ob69), .val (.ref b_77)] [(.int (1 : Int32))])
    refine own_go (fun _ => XS.ifNo X82.here hx rfl (hb hby at_299) rfl (Jvm.Free.XT.i0_eq_f (by decide : ¬ ((1 : Int32) = (0 : Int32))))) ?_
    show own_G p e below Φ T82 (mkF m 302 #[.val (.int p0), .val (.int p1), .val (.int p2), .val (.int p3), .val (.int p4), .val (.int (3 : Int32)), .val (.int x6_15), .val (.int x7_23), .val (.int x8_34), .val (.int x9_43), .val (.int x10_54), .val (.int x11_63), .val (.int x12_75), .val (.int x13_84), .val (.ref ob5), .val (.ref ob65), .val (.int (x9_43 + (1 : Int32))), .val (.ref ob69), .val (.ref b_77)] [])
    refine own_go (fun _ => XS.aload X82.here hx rfl (hb hby at_302) rfl rfl) ?_
    show own_G p e below Φ T82 (mkF m 304 #[.val (.int p0), .val (.int p1), .val (.int p2), .val (.int p3), .val (.int p4), .val (.int (3 : Int32)), .val (.int x6_15), .val (.int x7_23), .val (.int x8_34), .val (.int x9_43), .val (.int x10_54), .val (.int x11_63), .val (.int x12_75), .val (.int x13_84), .val (.ref ob5), .val (.ref ob65), .val (.int (x9_43 + (1 : Int32))), .val (.ref ob69), .val (.ref b_77)] [(.ref b_77)])
    refine own_go (fun _ => XS.aload X82.here hx rfl (hb hby at_304) rfl rfl) ?_
    show own_G p e below Φ T82 (mkF m 306 #[.val (.int p0), .val (.int p1), .val (.int p2), .val (.int p3), .val (.int p4), .val (.int (3 : Int32)), .val (.int x6_15), .val (.int x7_23), .val (.int x8_34), .val (.int x9_43), .val (.int x10_54), .val (.int x11_63), .val (.int x12_75), .val (.int x13_84), .val (.ref ob5), .val (.ref ob65), .val (.int (x9_43 + (1 : Int32))), .val (.ref ob69), .val (.ref b_77)] [(.ref ob5), (.ref b_77)])
    refine own_go (fun _ => XS.iload X82.here hx rfl (hb hby at_306) rfl) ?_
    show own_G p e below Φ T82 (mkF m 308 #[.val (.int p0), .val (.int p1), .val (.int p2), .val (.int p3), .val (.int p4), .val (.int (3 : Int32)), .val (.int x6_15), .val (.int x7_23), .val (.int x8_34), .val (.int x9_43), .val (.int x10_54), .val (.int x11_63), .val (.int x12_75), .val (.int x13_84), .val (.ref ob5), .val (.ref ob65), .val (.int (x9_43 + (1 : Int32))), .val (.ref ob69), .val (.ref b_77)] [(.int (3 : Int32)), (.ref ob5), (.ref b_77)])
    refine own_go (fun _ => XS.iconst X82.here hx rfl (hb hby at_308)) ?_
    show own_G p e below Φ T82 (mkF m 309 #[.val (.int p0), .val (.int p1), .val (.int p2), .val (.int p3), .val (.int p4), .val (.int (3 : Int32)), .val (.int x6_15), .val (.int x7_23), .val (.int x8_34), .val (.int x9_43), .val (.int x10_54), .val (.int x11_63), .val (.int x12_75), .val (.int x13_84), .val (.ref ob5), .val (.ref ob65), .val (.int (x9_43 + (1 : Int32))), .val (.ref ob69), .val (.ref b_77)] [(.int (1 : Int32)), (.int (3 : Int32)), (.ref ob5), (.ref b_77)])
    obtain ⟨_, _, ⟨T83, zL83, zk83, zn83⟩, -, X83, ⟨Lc83, hQ83, l83, y83, z83⟩, st83⟩ := Jvm.LawKit.callS X82 hx (y := (⟨"com/example/edgewarden/edgewarden/graph/LikenessGetFirstMembersPinLaw", "ok", "([I[III)Z"⟩ : MethodName)) hown (mvT hZ (wd_24 hw)) (mvT hZ (wd_25 hw)) (mvT hZ (wd_26 hw)) (mvT hZ (wd_27 hw)) (by decide) (backOf (W := 0) (rmK l Z a0 hw [] b_77 ob5 kb_77 ka5 (own_max (own_max (own_max (0 : Int32) ((0 : Int32) + (1 : Int32))) (x6_15 + (1 : Int32))) (x8_34 + (1 : Int32))) (own_put (own_put (own_put (own_zeros (own_max (own_max (own_max (0 : Int32) ((0 : Int32) + (1 : Int32))) (x6_15 + (1 : Int32))) (x8_34 + (1 : Int32)))) x8_34 (2 : Int32)) x6_15 (1 : Int32)) (0 : Int32) (0 : Int32)) (3 : Int32) (1 : Int32) (0 : Int32) x6_15 x8_34 x10_54 x12_75 T77.heap n0 Zp77 p77_0 f81 (by decide) (own_use (P := fun t => (1 : Int32) < (own_max (own_max (own_max (0 : Int32) ((0 : Int32) + (1 : Int32))) (t.1 + (1 : Int32))) (t.2.2.1 + (1 : Int32))) → ((own_put (own_put (own_put (own_zeros (own_max (own_max (own_max (0 : Int32) ((0 : Int32) + (1 : Int32))) (t.1 + (1 : Int32))) (t.2.2.1 + (1 : Int32)))) t.2.2.1 (2 : Int32)) t.1 (1 : Int32)) (0 : Int32) (0 : Int32))).getD ((1 : Int32)).toNatClampNeg 0 = own_first (0 : Int32) t.1 t.2.2.1 t.2.2.2.2.1 t.2.2.2.2.2.2.1 (3 : Int32) (1 : Int32)) (by decide +kernel) hall)) hZ (wd_27 hw) (wd_26 hw) (by decide) (by decide)) (g := (mkF m 309 #[.val (.int p0), .val (.int p1), .val (.int p2), .val (.int p3), .val (.int p4), .val (.int (3 : Int32)), .val (.int x6_15), .val (.int x7_23), .val (.int x8_34), .val (.int x9_43), .val (.int x10_54), .val (.int x11_63), .val (.int x12_75), .val (.int x13_84), .val (.ref ob5), .val (.ref ob65), .val (.int (x9_43 + (1 : Int32))), .val (.ref ob69), .val (.ref b_77)] [(.int (1 : Int32)), (.int (3 : Int32)), (.ref ob5), (.ref b_77)])) rfl (by rw [hml]; rfl) (argsL := [(.ref b_77), (.ref ob5), (.int (3 : Int32)), (.int (1 : Int32))]) (rest := []) (lenOf pd_4 rfl) rfl (by show 2 * 0 + _ ≤ _; exact Nat.le_of_eq rfl) (hb hby at_309) (fun _ _ => ⟨rfl, hs82, (by decide : 4 + 0 ≤ _), (by decide : 15 + 0 ≤ _)⟩)
    dsimp only [Pt.U, Pt.locs, Pt.cells, Pt.slots] at X83 l83 y83 z83 st83 hQ83
    subst l83 y83 z83
    obtain ⟨rfl, N83q, hs83⟩ := hQ83
    have N83 := Fr.app N82 N83q
    refine own_go st83 ?_
    show own_G p e below Φ T83 (mkF m 312 #[.val (.int p0), .val (.int p1), .val (.int p2), .val (.int p3), .val (.int p4), .val (.int (3 : Int32)), .val (.int x6_15), .val (.int x7_23), .val (.int x8_34), .val (.int x9_43), .val (.int x10_54), .val (.int x11_63), .val (.int x12_75), .val (.int x13_84), .val (.ref ob5), .val (.ref ob65), .val (.int (x9_43 + (1 : Int32))), .val (.ref ob69), .val (.ref b_77)] [(.int (1 : Int32))])
    refine own_go (fun _ => XS.ifNo X83.here hx rfl (hb hby at_312) rfl (Jvm.Free.XT.i0_eq_f (by decide : ¬ ((1 : Int32) = (0 : Int32))))) ?_
    show own_G p e below Φ T83 (mkF m 315 #[.val (.int p0), .val (.int p1), .val (.int p2), .val (.int p3), .val (.int p4), .val (.int (3 : Int32)), .val (.int x6_15), .val (.int x7_23), .val (.int x8_34), .val (.int x9_43), .val (.int x10_54), .val (.int x11_63), .val (.int x12_75), .val (.int x13_84), .val (.ref ob5), .val (.ref ob65), .val (.int (x9_43 + (1 : Int32))), .val (.ref ob69), .val (.ref b_77)] [])
    refine own_go (fun _ => XS.aload X83.here hx rfl (hb hby at_315) rfl rfl) ?_
    show own_G p e below Φ T83 (mkF m 317 #[.val (.int p0), .val (.int p1), .val (.int p2), .val (.int p3), .val (.int p4), .val (.int (3 : Int32)), .val (.int x6_15), .val (.int x7_23), .val (.int x8_34), .val (.int x9_43), .val (.int x10_54), .val (.int x11_63), .val (.int x12_75), .val (.int x13_84), .val (.ref ob5), .val (.ref ob65), .val (.int (x9_43 + (1 : Int32))), .val (.ref ob69), .val (.ref b_77)] [(.ref b_77)])
    refine own_go (fun _ => XS.aload X83.here hx rfl (hb hby at_317) rfl rfl) ?_
    show own_G p e below Φ T83 (mkF m 319 #[.val (.int p0), .val (.int p1), .val (.int p2), .val (.int p3), .val (.int p4), .val (.int (3 : Int32)), .val (.int x6_15), .val (.int x7_23), .val (.int x8_34), .val (.int x9_43), .val (.int x10_54), .val (.int x11_63), .val (.int x12_75), .val (.int x13_84), .val (.ref ob5), .val (.ref ob65), .val (.int (x9_43 + (1 : Int32))), .val (.ref ob69), .val (.ref b_77)] [(.ref ob5), (.ref b_77)])
    refine own_go (fun _ => XS.iload X83.here hx rfl (hb hby at_319) rfl) ?_
    show own_G p e below Φ T83 (mkF m 321 #[.val (.int p0), .val (.int p1), .val (.int p2), .val (.int p3), .val (.int p4), .val (.int (3 : Int32)), .val (.int x6_15), .val (.int x7_23), .val (.int x8_34), .val (.int x9_43), .val (.int x10_54), .val (.int x11_63), .val (.int x12_75), .val (.int x13_84), .val (.ref ob5), .val (.ref ob65), .val (.int (x9_43 + (1 : Int32))), .val (.ref ob69), .val (.ref b_77)] [(.int (3 : Int32)), (.ref ob5), (.ref b_77)])
    refine own_go (fun _ => XS.iconst X83.here hx rfl (hb hby at_321)) ?_
    show own_G p e below Φ T83 (mkF m 322 #[.val (.int p0), .val (.int p1), .val (.int p2), .val (.int p3), .val (.int p4), .val (.int (3 : Int32)), .val (.int x6_15), .val (.int x7_23), .val (.int x8_34), .val (.int x9_43), .val (.int x10_54), .val (.int x11_63), .val (.int x12_75), .val (.int x13_84), .val (.ref ob5), .val (.ref ob65), .val (.int (x9_43 + (1 : Int32))), .val (.ref ob69), .val (.ref b_77)] [(.int (2 : Int32)), (.int (3 : Int32)), (.ref ob5), (.ref b_77)])
    obtain ⟨_, _, ⟨T84, zL84, zk84, zn84⟩, -, X84, ⟨Lc84, hQ84, l84, y84, z84⟩, st84⟩ := Jvm.LawKit.callS X83 hx (y := (⟨"com/example/edgewarden/edgewarden/graph/LikenessGetFirstMembersPinLaw", "ok", "([I[III)Z"⟩ : MethodName)) hown (mvT hZ (wd_24 hw)) (mvT hZ (wd_25 hw)) (mvT hZ (wd_26 hw)) (mvT hZ (wd_27 hw)) (by decide) (backOf (W := 0) (rmK l Z a0 hw [] b_77 ob5 kb_77 ka5 (own_max (own_max (own_max (0 : Int32) ((0 : Int32) + (1 : Int32))) (x6_15 + (1 : Int32))) (x8_34 + (1 : Int32))) (own_put (own_put (own_put (own_zeros (own_max (own_max (own_max (0 : Int32) ((0 : Int32) + (1 : Int32))) (x6_15 + (1 : Int32))) (x8_34 + (1 : Int32)))) x8_34 (2 : Int32)) x6_15 (1 : Int32)) (0 : Int32) (0 : Int32)) (3 : Int32) (2 : Int32) (0 : Int32) x6_15 x8_34 x10_54 x12_75 T77.heap n0 Zp77 p77_0 f81 (by decide) (own_use (P := fun t => (2 : Int32) < (own_max (own_max (own_max (0 : Int32) ((0 : Int32) + (1 : Int32))) (t.1 + (1 : Int32))) (t.2.2.1 + (1 : Int32))) → ((own_put (own_put (own_put (own_zeros (own_max (own_max (own_max (0 : Int32) ((0 : Int32) + (1 : Int32))) (t.1 + (1 : Int32))) (t.2.2.1 + (1 : Int32)))) t.2.2.1 (2 : Int32)) t.1 (1 : Int32)) (0 : Int32) (0 : Int32))).getD ((2 : Int32)).toNatClampNeg 0 = own_first (0 : Int32) t.1 t.2.2.1 t.2.2.2.2.1 t.2.2.2.2.2.2.1 (3 : Int32) (2 : Int32)) (by decide +kernel) hall)) hZ (wd_27 hw) (wd_26 hw) (by decide) (by decide)) (g := (mkF m 322 #[.val (.int p0), .val (.int p1), .val (.int p2), .val (.int p3), .val (.int p4), .val (.int (3 : Int32)), .val (.int x6_15), .val (.int x7_23), .val (.int x8_34), .val (.int x9_43), .val (.int x10_54), .val (.int x11_63), .val (.int x12_75), .val (.int x13_84), .val (.ref ob5), .val (.ref ob65), .val (.int (x9_43 + (1 : Int32))), .val (.ref ob69), .val (.ref b_77)] [(.int (2 : Int32)), (.int (3 : Int32)), (.ref ob5), (.ref b_77)])) rfl (by rw [hml]; rfl) (argsL := [(.ref b_77), (.ref ob5), (.int (3 : Int32)), (.int (2 : Int32))]) (rest := []) (lenOf pd_4 rfl) rfl (by show 2 * 0 + _ ≤ _; exact Nat.le_of_eq rfl) (hb hby at_322) (fun _ _ => ⟨rfl, hs83, (by decide : 4 + 0 ≤ _), (by decide : 15 + 0 ≤ _)⟩)
    dsimp only [Pt.U, Pt.locs, Pt.cells, Pt.slots] at X84 l84 y84 z84 st84 hQ84
    subst l84 y84 z84
    obtain ⟨rfl, N84q, hs84⟩ := hQ84
    have N84 := Fr.app N83 N84q
    refine own_go st84 ?_
    show own_G p e below Φ T84 (mkF m 325 #[.val (.int p0), .val (.int p1), .val (.int p2), .val (.int p3), .val (.int p4), .val (.int (3 : Int32)), .val (.int x6_15), .val (.int x7_23), .val (.int x8_34), .val (.int x9_43), .val (.int x10_54), .val (.int x11_63), .val (.int x12_75), .val (.int x13_84), .val (.ref ob5), .val (.ref ob65), .val (.int (x9_43 + (1 : Int32))), .val (.ref ob69), .val (.ref b_77)] [(.int (1 : Int32))])
    refine own_go (fun _ => XS.ifNo X84.here hx rfl (hb hby at_325) rfl (Jvm.Free.XT.i0_eq_f (by decide : ¬ ((1 : Int32) = (0 : Int32))))) ?_
    show own_G p e below Φ T84 (mkF m 328 #[.val (.int p0), .val (.int p1), .val (.int p2), .val (.int p3), .val (.int p4), .val (.int (3 : Int32)), .val (.int x6_15), .val (.int x7_23), .val (.int x8_34), .val (.int x9_43), .val (.int x10_54), .val (.int x11_63), .val (.int x12_75), .val (.int x13_84), .val (.ref ob5), .val (.ref ob65), .val (.int (x9_43 + (1 : Int32))), .val (.ref ob69), .val (.ref b_77)] [])
    refine own_go (fun _ => XS.aload X84.here hx rfl (hb hby at_328) rfl rfl) ?_
    show own_G p e below Φ T84 (mkF m 330 #[.val (.int p0), .val (.int p1), .val (.int p2), .val (.int p3), .val (.int p4), .val (.int (3 : Int32)), .val (.int x6_15), .val (.int x7_23), .val (.int x8_34), .val (.int x9_43), .val (.int x10_54), .val (.int x11_63), .val (.int x12_75), .val (.int x13_84), .val (.ref ob5), .val (.ref ob65), .val (.int (x9_43 + (1 : Int32))), .val (.ref ob69), .val (.ref b_77)] [(.ref b_77)])
    refine own_go (fun _ => XS.aload X84.here hx rfl (hb hby at_330) rfl rfl) ?_
    show own_G p e below Φ T84 (mkF m 332 #[.val (.int p0), .val (.int p1), .val (.int p2), .val (.int p3), .val (.int p4), .val (.int (3 : Int32)), .val (.int x6_15), .val (.int x7_23), .val (.int x8_34), .val (.int x9_43), .val (.int x10_54), .val (.int x11_63), .val (.int x12_75), .val (.int x13_84), .val (.ref ob5), .val (.ref ob65), .val (.int (x9_43 + (1 : Int32))), .val (.ref ob69), .val (.ref b_77)] [(.ref ob5), (.ref b_77)])
    refine own_go (fun _ => XS.iload X84.here hx rfl (hb hby at_332) rfl) ?_
    show own_G p e below Φ T84 (mkF m 334 #[.val (.int p0), .val (.int p1), .val (.int p2), .val (.int p3), .val (.int p4), .val (.int (3 : Int32)), .val (.int x6_15), .val (.int x7_23), .val (.int x8_34), .val (.int x9_43), .val (.int x10_54), .val (.int x11_63), .val (.int x12_75), .val (.int x13_84), .val (.ref ob5), .val (.ref ob65), .val (.int (x9_43 + (1 : Int32))), .val (.ref ob69), .val (.ref b_77)] [(.int (3 : Int32)), (.ref ob5), (.ref b_77)])
    refine own_go (fun _ => XS.iconst X84.here hx rfl (hb hby at_334)) ?_
    show own_G p e below Φ T84 (mkF m 335 #[.val (.int p0), .val (.int p1), .val (.int p2), .val (.int p3), .val (.int p4), .val (.int (3 : Int32)), .val (.int x6_15), .val (.int x7_23), .val (.int x8_34), .val (.int x9_43), .val (.int x10_54), .val (.int x11_63), .val (.int x12_75), .val (.int x13_84), .val (.ref ob5), .val (.ref ob65), .val (.int (x9_43 + (1 : Int32))), .val (.ref ob69), .val (.ref b_77)] [(.int (3 : Int32)), (.int (3 : Int32)), (.ref ob5), (.ref b_77)])
    obtain ⟨_, _, ⟨T85, zL85, zk85, zn85⟩, -, X85, ⟨Lc85, hQ85, l85, y85, z85⟩, st85⟩ := Jvm.LawKit.callS X84 hx (y := (⟨"com/example/edgewarden/edgewarden/graph/LikenessGetFirstMembersPinLaw", "ok", "([I[III)Z"⟩ : MethodName)) hown (mvT hZ (wd_24 hw)) (mvT hZ (wd_25 hw)) (mvT hZ (wd_26 hw)) (mvT hZ (wd_27 hw)) (by decide) (backOf (W := 0) (rmK l Z a0 hw [] b_77 ob5 kb_77 ka5 (own_max (own_max (own_max (0 : Int32) ((0 : Int32) + (1 : Int32))) (x6_15 + (1 : Int32))) (x8_34 + (1 : Int32))) (own_put (own_put (own_put (own_zeros (own_max (own_max (own_max (0 : Int32) ((0 : Int32) + (1 : Int32))) (x6_15 + (1 : Int32))) (x8_34 + (1 : Int32)))) x8_34 (2 : Int32)) x6_15 (1 : Int32)) (0 : Int32) (0 : Int32)) (3 : Int32) (3 : Int32) (0 : Int32) x6_15 x8_34 x10_54 x12_75 T77.heap n0 Zp77 p77_0 f81 (by decide) (own_use (P := fun t => (3 : Int32) < (own_max (own_max (own_max (0 : Int32) ((0 : Int32) + (1 : Int32))) (t.1 + (1 : Int32))) (t.2.2.1 + (1 : Int32))) → ((own_put (own_put (own_put (own_zeros (own_max (own_max (own_max (0 : Int32) ((0 : Int32) + (1 : Int32))) (t.1 + (1 : Int32))) (t.2.2.1 + (1 : Int32)))) t.2.2.1 (2 : Int32)) t.1 (1 : Int32)) (0 : Int32) (0 : Int32))).getD ((3 : Int32)).toNatClampNeg 0 = own_first (0 : Int32) t.1 t.2.2.1 t.2.2.2.2.1 t.2.2.2.2.2.2.1 (3 : Int32) (3 : Int32)) (by decide +kernel) hall)) hZ (wd_27 hw) (wd_26 hw) (by decide) (by decide)) (g := (mkF m 335 #[.val (.int p0), .val (.int p1), .val (.int p2), .val (.int p3), .val (.int p4), .val (.int (3 : Int32)), .val (.int x6_15), .val (.int x7_23), .val (.int x8_34), .val (.int x9_43), .val (.int x10_54), .val (.int x11_63), .val (.int x12_75), .val (.int x13_84), .val (.ref ob5), .val (.ref ob65), .val (.int (x9_43 + (1 : Int32))), .val (.ref ob69), .val (.ref b_77)] [(.int (3 : Int32)), (.int (3 : Int32)), (.ref ob5), (.ref b_77)])) rfl (by rw [hml]; rfl) (argsL := [(.ref b_77), (.ref ob5), (.int (3 : Int32)), (.int (3 : Int32))]) (rest := []) (lenOf pd_4 rfl) rfl (by show 2 * 0 + _ ≤ _; exact Nat.le_of_eq rfl) (hb hby at_335) (fun _ _ => ⟨rfl, hs84, (by decide : 4 + 0 ≤ _), (by decide : 15 + 0 ≤ _)⟩)
    dsimp only [Pt.U, Pt.locs, Pt.cells, Pt.slots] at X85 l85 y85 z85 st85 hQ85
    subst l85 y85 z85
    obtain ⟨rfl, N85q, hs85⟩ := hQ85
    have N85 := Fr.app N84 N85q
    refine own_go st85 ?_
    show own_G p e below Φ T85 (mkF m 338 #[.val (.int p0), .val (.int p1), .val (.int p2), .val (.int p3), .val (.int p4), .val (.int (3 : Int32)), .val (.int x6_15), .val (.int x7_23), .val (.int x8_34), .val (.int x9_43), .val (.int x10_54), .val (.int x11_63), .val (.int x12_75), .val (.int x13_84), .val (.ref ob5), .val (.ref ob65), .val (.int (x9_43 + (1 : Int32))), .val (.ref ob69), .val (.ref b_77)] [(.int (1 : Int32))])
    refine own_go (fun _ => XS.ifNo X85.here hx rfl (hb hby at_338) rfl (Jvm.Free.XT.i0_eq_f (by decide : ¬ ((1 : Int32) = (0 : Int32))))) ?_
    show own_G p e below Φ T85 (mkF m 341 #[.val (.int p0), .val (.int p1), .val (.int p2), .val (.int p3), .val (.int p4), .val (.int (3 : Int32)), .val (.int x6_15), .val (.int x7_23), .val (.int x8_34), .val (.int x9_43), .val (.int x10_54), .val (.int x11_63), .val (.int x12_75), .val (.int x13_84), .val (.ref ob5), .val (.ref ob65), .val (.int (x9_43 + (1 : Int32))), .val (.ref ob69), .val (.ref b_77)] [])
    refine own_go (fun _ => XS.aload X85.here hx rfl (hb hby at_341) rfl rfl) ?_
    show own_G p e below Φ T85 (mkF m 343 #[.val (.int p0), .val (.int p1), .val (.int p2), .val (.int p3), .val (.int p4), .val (.int (3 : Int32)), .val (.int x6_15), .val (.int x7_23), .val (.int x8_34), .val (.int x9_43), .val (.int x10_54), .val (.int x11_63), .val (.int x12_75), .val (.int x13_84), .val (.ref ob5), .val (.ref ob65), .val (.int (x9_43 + (1 : Int32))), .val (.ref ob69), .val (.ref b_77)] [(.ref b_77)])
    refine own_go (fun _ => XS.aload X85.here hx rfl (hb hby at_343) rfl rfl) ?_
    show own_G p e below Φ T85 (mkF m 345 #[.val (.int p0), .val (.int p1), .val (.int p2), .val (.int p3), .val (.int p4), .val (.int (3 : Int32)), .val (.int x6_15), .val (.int x7_23), .val (.int x8_34), .val (.int x9_43), .val (.int x10_54), .val (.int x11_63), .val (.int x12_75), .val (.int x13_84), .val (.ref ob5), .val (.ref ob65), .val (.int (x9_43 + (1 : Int32))), .val (.ref ob69), .val (.ref b_77)] [(.ref ob5), (.ref b_77)])
    refine own_go (fun _ => XS.iload X85.here hx rfl (hb hby at_345) rfl) ?_
    show own_G p e below Φ T85 (mkF m 347 #[.val (.int p0), .val (.int p1), .val (.int p2), .val (.int p3), .val (.int p4), .val (.int (3 : Int32)), .val (.int x6_15), .val (.int x7_23), .val (.int x8_34), .val (.int x9_43), .val (.int x10_54), .val (.int x11_63), .val (.int x12_75), .val (.int x13_84), .val (.ref ob5), .val (.ref ob65), .val (.int (x9_43 + (1 : Int32))), .val (.ref ob69), .val (.ref b_77)] [(.int (3 : Int32)), (.ref ob5), (.ref b_77)])
    refine own_go (fun _ => XS.iconst X85.here hx rfl (hb hby at_347)) ?_
    show own_G p e below Φ T85 (mkF m 348 #[.val (.int p0), .val (.int p1), .val (.int p2), .val (.int p3), .val (.int p4), .val (.int (3 : Int32)), .val (.int x6_15), .val (.int x7_23), .val (.int x8_34), .val (.int x9_43), .val (.int x10_54), .val (.int x11_63), .val (.int x12_75), .val (.int x13_84), .val (.ref ob5), .val (.ref ob65), .val (.int (x9_43 + (1 : Int32))), .val (.ref ob69), .val (.ref b_77)] [(.int (4 : Int32)), (.int (3 : Int32)), (.ref ob5), (.ref b_77)])
    obtain ⟨_, _, ⟨T86, zL86, zk86, zn86⟩, -, X86, ⟨Lc86, hQ86, l86, y86, z86⟩, st86⟩ := Jvm.LawKit.callS X85 hx (y := (⟨"com/example/edgewarden/edgewarden/graph/LikenessGetFirstMembersPinLaw", "ok", "([I[III)Z"⟩ : MethodName)) hown (mvT hZ (wd_24 hw)) (mvT hZ (wd_25 hw)) (mvT hZ (wd_26 hw)) (mvT hZ (wd_27 hw)) (by decide) (backOf (W := 0) (rmK l Z a0 hw [] b_77 ob5 kb_77 ka5 (own_max (own_max (own_max (0 : Int32) ((0 : Int32) + (1 : Int32))) (x6_15 + (1 : Int32))) (x8_34 + (1 : Int32))) (own_put (own_put (own_put (own_zeros (own_max (own_max (own_max (0 : Int32) ((0 : Int32) + (1 : Int32))) (x6_15 + (1 : Int32))) (x8_34 + (1 : Int32)))) x8_34 (2 : Int32)) x6_15 (1 : Int32)) (0 : Int32) (0 : Int32)) (3 : Int32) (4 : Int32) (0 : Int32) x6_15 x8_34 x10_54 x12_75 T77.heap n0 Zp77 p77_0 f81 (by decide) (own_use (P := fun t => (4 : Int32) < (own_max (own_max (own_max (0 : Int32) ((0 : Int32) + (1 : Int32))) (t.1 + (1 : Int32))) (t.2.2.1 + (1 : Int32))) → ((own_put (own_put (own_put (own_zeros (own_max (own_max (own_max (0 : Int32) ((0 : Int32) + (1 : Int32))) (t.1 + (1 : Int32))) (t.2.2.1 + (1 : Int32)))) t.2.2.1 (2 : Int32)) t.1 (1 : Int32)) (0 : Int32) (0 : Int32))).getD ((4 : Int32)).toNatClampNeg 0 = own_first (0 : Int32) t.1 t.2.2.1 t.2.2.2.2.1 t.2.2.2.2.2.2.1 (3 : Int32) (4 : Int32)) (by decide +kernel) hall)) hZ (wd_27 hw) (wd_26 hw) (by decide) (by decide)) (g := (mkF m 348 #[.val (.int p0), .val (.int p1), .val (.int p2), .val (.int p3), .val (.int p4), .val (.int (3 : Int32)), .val (.int x6_15), .val (.int x7_23), .val (.int x8_34), .val (.int x9_43), .val (.int x10_54), .val (.int x11_63), .val (.int x12_75), .val (.int x13_84), .val (.ref ob5), .val (.ref ob65), .val (.int (x9_43 + (1 : Int32))), .val (.ref ob69), .val (.ref b_77)] [(.int (4 : Int32)), (.int (3 : Int32)), (.ref ob5), (.ref b_77)])) rfl (by rw [hml]; rfl) (argsL := [(.ref b_77), (.ref ob5), (.int (3 : Int32)), (.int (4 : Int32))]) (rest := []) (lenOf pd_4 rfl) rfl (by show 2 * 0 + _ ≤ _; exact Nat.le_of_eq rfl) (hb hby at_348) (fun _ _ => ⟨rfl, hs85, (by decide : 4 + 0 ≤ _), (by decide : 15 + 0 ≤ _)⟩)
    dsimp only [Pt.U, Pt.locs, Pt.cells, Pt.slots] at X86 l86 y86 z86 st86 hQ86
    subst l86 y86 z86
    obtain ⟨rfl, N86q, hs86⟩ := hQ86
    have N86 := Fr.app N85 N86q
    refine own_go st86 ?_
    show own_G p e below Φ T86 (mkF m 351 #[.val (.int p0), .val (.int p1), .val (.int p2), .val (.int p3), .val (.int p4), .val (.int (3 : Int32)), .val (.int x6_15), .val (.int x7_23), .val (.int x8_34), .val (.int x9_43), .val (.int x10_54), .val (.int x11_63), .val (.int x12_75), .val (.int x13_84), .val (.ref ob5), .val (.ref ob65), .val (.int (x9_43 + (1 : Int32))), .val (.ref ob69), .val (.ref b_77)] [(.int (1 : Int32))])
    refine own_go (fun _ => XS.ifNo X86.here hx rfl (hb hby at_351) rfl (Jvm.Free.XT.i0_eq_f (by decide : ¬ ((1 : Int32) = (0 : Int32))))) ?_
    show own_G p e below Φ T86 (mkF m 354 #[.val (.int p0), .val (.int p1), .val (.int p2), .val (.int p3), .val (.int p4), .val (.int (3 : Int32)), .val (.int x6_15), .val (.int x7_23), .val (.int x8_34), .val (.int x9_43), .val (.int x10_54), .val (.int x11_63), .val (.int x12_75), .val (.int x13_84), .val (.ref ob5), .val (.ref ob65), .val (.int (x9_43 + (1 : Int32))), .val (.ref ob69), .val (.ref b_77)] [])
    refine own_go (fun _ => XS.iconst X86.here hx rfl (hb hby at_354)) ?_
    show own_G p e below Φ T86 (mkF m 355 #[.val (.int p0), .val (.int p1), .val (.int p2), .val (.int p3), .val (.int p4), .val (.int (3 : Int32)), .val (.int x6_15), .val (.int x7_23), .val (.int x8_34), .val (.int x9_43), .val (.int x10_54), .val (.int x11_63), .val (.int x12_75), .val (.int x13_84), .val (.ref ob5), .val (.ref ob65), .val (.int (x9_43 + (1 : Int32))), .val (.ref ob69), .val (.ref b_77)] [(.int (1 : Int32))])
    refine own_go (fun _ => XS.goto X86.here hx rfl (pc0 := 355) (pc' := 359) rfl (hb hby at_355) (by decide) (by decide)) ?_
    show own_G p e below Φ T86 (mkF m 359 #[.val (.int p0), .val (.int p1), .val (.int p2), .val (.int p3), .val (.int p4), .val (.int (3 : Int32)), .val (.int x6_15), .val (.int x7_23), .val (.int x8_34), .val (.int x9_43), .val (.int x10_54), .val (.int x11_63), .val (.int x12_75), .val (.int x13_84), .val (.ref ob5), .val (.ref ob65), .val (.int (x9_43 + (1 : Int32))), .val (.ref ob69), .val (.ref b_77)] [(.int (1 : Int32))])
    rw [hΦ]
    refine own_ret X86 (v := some (.int (1 : Int32))) (fun h => by rw [Bd.returns] at h; cases h) (BodyLoose.notSynchronized Bd) (fun fs hr => retN X86 hx (t := .boolean) Bd.returns (by simp) (hb hby at_359) hr) ?_ (by decide) (by decide)
    rw [hs86]
    exact ⟨rfl, N86⟩
  · show own_G p e below Φ T10 (mkF m 120 #[.val (.int p0), .val (.int p1), .val (.int p2), .val (.int p3), .val (.int p4), .val (.int (4 : Int32)), .val (.int x6_15), .val (.int x7_23), .val (.int x8_34), .val (.int x9_43), .val (.int x10_54), .val (.int x11_63), .val (.int x12_75), .val (.int x13_84), .val (.ref ob5), .unset, .unset, .unset, .unset] [])
    refine own_go (fun _ => XS.iload X10.here hx rfl (hb hby at_120) rfl) ?_
    show own_G p e below Φ T10 (mkF m 122 #[.val (.int p0), .val (.int p1), .val (.int p2), .val (.int p3), .val (.int p4), .val (.int (4 : Int32)), .val (.int x6_15), .val (.int x7_23), .val (.int x8_34), .val (.int x9_43), .val (.int x10_54), .val (.int x11_63), .val (.int x12_75), .val (.int x13_84), .val (.ref ob5), .unset, .unset, .unset, .unset] [(.int (4 : Int32))])
    obtain ⟨T87, h87, ka87, X87, e87, E87, A87, st87⟩ := newP (aty := .int) X10 hx hZ (wd_5 hw) e10 (g := (mkF m 122 #[.val (.int p0), .val (.int p1), .val (.int p2), .val (.int p3), .val (.int p4), .val (.int (4 : Int32)), .val (.int x6_15), .val (.int x7_23), .val (.int x8_34), .val (.int x9_43), .val (.int x10_54), .val (.int x11_63), .val (.int x12_75), .val (.int x13_84), .val (.ref ob5), .unset, .unset, .unset, .unset] [(.int (4 : Int32))])) rfl (hb hby at_122) rfl (by decide) (cap := 4) (by decide) (by decide) (by decide) (by decide)
    obtain ⟨ob87, g87⟩ : ∃ z, z = h10.size := ⟨_, rfl⟩
    rw [← g87] at A87 st87
    have ne_ob5_ob87 : ob5 ≠ ob87 := Nat.ne_of_lt (Nat.lt_of_lt_of_le V10.lt (Nat.le_of_eq g87.symm))
    have V87 : Arv Z h87 ob87 ka87 .int (4 : Int32) [(.int (0 : Int32)), (.int (0 : Int32)), (.int (0 : Int32)), (.int (0 : Int32))] (.int (0 : Int32)) := (Arv.new A87 (by decide)).pad (pad_rep [] (.int (0 : Int32)) 4)
    have g_ob87 : n0 ≤ ob87 := Nat.le_trans Zp10 (Nat.le_of_eq g87.symm)
    have Zp87 : n0 ≤ h87.size := Nat.le_trans Zp10 E87.1
    refine own_go st87 ?_
    show own_G p e below Φ T87 (mkF m 124 #[.val (.int p0), .val (.int p1), .val (.int p2), .val (.int p3), .val (.int p4), .val (.int (4 : Int32)), .val (.int x6_15), .val (.int x7_23), .val (.int x8_34), .val (.int x9_43), .val (.int x10_54), .val (.int x11_63), .val (.int x12_75), .val (.int x13_84), .val (.ref ob5), .unset, .unset, .unset, .unset] [(.ref ob87)])
    refine own_go (fun _ => XS.astore X87.here hx rfl (hb hby at_124) rfl rfl (l' := #[.val (.int p0), .val (.int p1), .val (.int p2), .val (.int p3), .val (.int p4), .val (.int (4 : Int32)), .val (.int x6_15), .val (.int x7_23), .val (.int x8_34), .val (.int x9_43), .val (.int x10_54), .val (.int x11_63), .val (.int x12_75), .val (.int x13_84), .val (.ref ob5), .val (.ref ob87), .unset, .unset, .unset]) rfl) ?_
    show own_G p e below Φ T87 (mkF m 126 #[.val (.int p0), .val (.int p1), .val (.int p2), .val (.int p3), .val (.int p4), .val (.int (4 : Int32)), .val (.int x6_15), .val (.int x7_23), .val (.int x8_34), .val (.int x9_43), .val (.int x10_54), .val (.int x11_63), .val (.int x12_75), .val (.int x13_84), .val (.ref ob5), .val (.ref ob87), .unset, .unset, .unset] [])
    refine own_go (fun _ => XS.iload X87.here hx rfl (hb hby at_126) rfl) ?_
    show own_G p e below Φ T87 (mkF m 128 #[.val (.int p0), .val (.int p1), .val (.int p2), .val (.int p3), .val (.int p4), .val (.int (4 : Int32)), .val (.int x6_15), .val (.int x7_23), .val (.int x8_34), .val (.int x9_43), .val (.int x10_54), .val (.int x11_63), .val (.int x12_75), .val (.int x13_84), .val (.ref ob5), .val (.ref ob87), .unset, .unset, .unset] [(.int (4 : Int32))])
    refine own_go (fun _ => XS.ifNo X87.here hx rfl (hb hby at_128) rfl (Jvm.Free.XT.i0_le_f (by decide : ((0 : Int32) < (4 : Int32))))) ?_
    show own_G p e below Φ T87 (mkF m 131 #[.val (.int p0), .val (.int p1), .val (.int p2), .val (.int p3), .val (.int p4), .val (.int (4 : Int32)), .val (.int x6_15), .val (.int x7_23), .val (.int x8_34), .val (.int x9_43), .val (.int x10_54), .val (.int x11_63), .val (.int x12_75), .val (.int x13_84), .val (.ref ob5), .val (.ref ob87), .unset, .unset, .unset] [])
    refine own_go (fun _ => XS.aload X87.here hx rfl (hb hby at_131) rfl rfl) ?_
    show own_G p e below Φ T87 (mkF m 133 #[.val (.int p0), .val (.int p1), .val (.int p2), .val (.int p3), .val (.int p4), .val (.int (4 : Int32)), .val (.int x6_15), .val (.int x7_23), .val (.int x8_34), .val (.int x9_43), .val (.int x10_54), .val (.int x11_63), .val (.int x12_75), .val (.int x13_84), .val (.ref ob5), .val (.ref ob87), .unset, .unset, .unset] [(.ref ob87)])
    refine own_go (fun _ => XS.iconst X87.here hx rfl (hb hby at_133)) ?_
    show own_G p e below Φ T87 (mkF m 134 #[.val (.int p0), .val (.int p1), .val (.int p2), .val (.int p3), .val (.int p4), .val (.int (4 : Int32)), .val (.int x6_15), .val (.int x7_23), .val (.int x8_34), .val (.int x9_43), .val (.int x10_54), .val (.int x11_63), .val (.int x12_75), .val (.int x13_84), .val (.ref ob5), .val (.ref ob87), .unset, .unset, .unset] [(.int (0 : Int32)), (.ref ob87)])
    refine own_go (fun _ => XS.iconst X87.here hx rfl (hb hby at_134)) ?_
    show own_G p e below Φ T87 (mkF m 135 #[.val (.int p0), .val (.int p1), .val (.int p2), .val (.int p3), .val (.int p4), .val (.int (4 : Int32)), .val (.int x6_15), .val (.int x7_23), .val (.int x8_34), .val (.int x9_43), .val (.int x10_54), .val (.int x11_63), .val (.int x12_75), .val (.int x13_84), .val (.ref ob5), .val (.ref ob87), .unset, .unset, .unset] [(.int (0 : Int32)), (.int (0 : Int32)), (.ref ob87)])
    obtain ⟨cl88, Ar88, q88, S88, M88, H88, G88⟩ := id V87
    have hin88 : ¬ ((0 : Int32) < 0 ∨ cl88.slots.size ≤ ((0 : Int32)).toNatClampNeg) := inb_of S88 ⟨by decide, by decide⟩
    obtain ⟨T88, h88, X88, e88, W88, st88⟩ := stI X87 hx hZ e87 Ar88 (j := (0 : Int32)) hin88 (g := (mkF m 135 #[.val (.int p0), .val (.int p1), .val (.int p2), .val (.int p3), .val (.int p4), .val (.int (4 : Int32)), .val (.int x6_15), .val (.int x7_23), .val (.int x8_34), .val (.int x9_43), .val (.int x10_54), .val (.int x11_63), .val (.int x12_75), .val (.int x13_84), .val (.ref ob5), .val (.ref ob87), .unset, .unset, .unset] [(.int (0 : Int32)), (.int (0 : Int32)), (.ref ob87)])) rfl rfl (hb hby at_135)
    refine own_go st88 ?_
    have V88 : Arv Z h88 ob87 ka87 .int (4 : Int32) [(.int (0 : Int32)), (.int (0 : Int32)), (.int (0 : Int32)), (.int (0 : Int32))] (.int (0 : Int32)) := Arv.set Ar88 q88 S88 M88 H88 G88 rfl W88 0 rfl (Nat.le_of_ble_eq_true rfl)
    have N88 := Fr.snoc X88 N10 g_ob87
    have Zp88 : n0 ≤ h88.size := Nat.le_trans Zp87 (Keep.of_wr W88).1
    show own_G p e below Φ T88 (mkF m 136 #[.val (.int p0), .val (.int p1), .val (.int p2), .val (.int p3), .val (.int p4), .val (.int (4 : Int32)), .val (.int x6_15), .val (.int x7_23), .val (.int x8_34), .val (.int x9_43), .val (.int x10_54), .val (.int x11_63), .val (.int x12_75), .val (.int x13_84), .val (.ref ob5), .val (.ref ob87), .unset, .unset, .unset] [])
    refine own_go (fun _ => XS.iload X88.here hx rfl (hb hby at_136) rfl) ?_
    show own_G p e below Φ T88 (mkF m 138 #[.val (.int p0), .val (.int p1), .val (.int p2), .val (.int p3), .val (.int p4), .val (.int (4 : Int32)), .val (.int x6_15), .val (.int x7_23), .val (.int x8_34), .val (.int x9_43), .val (.int x10_54), .val (.int x11_63), .val (.int x12_75), .val (.int x13_84), .val (.ref ob5), .val (.ref ob87), .unset, .unset, .unset] [(.int (4 : Int32))])
    refine own_go (fun _ => XS.iconst X88.here hx rfl (hb hby at_138)) ?_
    show own_G p e below Φ T88 (mkF m 139 #[.val (.int p0), .val (.int p1), .val (.int p2), .val (.int p3), .val (.int p4), .val (.int (4 : Int32)), .val (.int x6_15), .val (.int x7_23), .val (.int x8_34), .val (.int x9_43), .val (.int x10_54), .val (.int x11_63), .val (.int x12_75), .val (.int x13_84), .val (.ref ob5), .val (.ref ob87), .unset, .unset, .unset] [(.int (1 : Int32)), (.int (4 : Int32))])
    refine own_go (fun _ => XS.icmpNo X88.here hx rfl (hb hby at_139) rfl (Jvm.Free.XT.ii_le_f (by decide : ((1 : Int32) < (4 : Int32))))) ?_
    show own_G p e below Φ T88 (mkF m 142 #[.val (.int p0), .val (.int p1), .val (.int p2), .val (.int p3), .val (.int p4), .val (.int (4 : Int32)), .val (.int x6_15), .val (.int x7_23), .val (.int x8_34), .val (.int x9_43), .val (.int x10_54), .val (.int x11_63), .val (.int x12_75), .val (.int x13_84), .val (.ref ob5), .val (.ref ob87), .unset, .unset, .unset] [])
    refine own_go (fun _ => XS.aload X88.here hx rfl (hb hby at_142) rfl rfl) ?_
    show own_G p e below Φ T88 (mkF m 144 #[.val (.int p0), .val (.int p1), .val (.int p2), .val (.int p3), .val (.int p4), .val (.int (4 : Int32)), .val (.int x6_15), .val (.int x7_23), .val (.int x8_34), .val (.int x9_43), .val (.int x10_54), .val (.int x11_63), .val (.int x12_75), .val (.int x13_84), .val (.ref ob5), .val (.ref ob87), .unset, .unset, .unset] [(.ref ob87)])
    refine own_go (fun _ => XS.iconst X88.here hx rfl (hb hby at_144)) ?_
    show own_G p e below Φ T88 (mkF m 145 #[.val (.int p0), .val (.int p1), .val (.int p2), .val (.int p3), .val (.int p4), .val (.int (4 : Int32)), .val (.int x6_15), .val (.int x7_23), .val (.int x8_34), .val (.int x9_43), .val (.int x10_54), .val (.int x11_63), .val (.int x12_75), .val (.int x13_84), .val (.ref ob5), .val (.ref ob87), .unset, .unset, .unset] [(.int (1 : Int32)), (.ref ob87)])
    refine own_go (fun _ => XS.iload X88.here hx rfl (hb hby at_145) rfl) ?_
    show own_G p e below Φ T88 (mkF m 147 #[.val (.int p0), .val (.int p1), .val (.int p2), .val (.int p3), .val (.int p4), .val (.int (4 : Int32)), .val (.int x6_15), .val (.int x7_23), .val (.int x8_34), .val (.int x9_43), .val (.int x10_54), .val (.int x11_63), .val (.int x12_75), .val (.int x13_84), .val (.ref ob5), .val (.ref ob87), .unset, .unset, .unset] [(.int x6_15), (.int (1 : Int32)), (.ref ob87)])
    obtain ⟨cl89, Ar89, q89, S89, M89, H89, G89⟩ := id V88
    have hin89 : ¬ ((1 : Int32) < 0 ∨ cl89.slots.size ≤ ((1 : Int32)).toNatClampNeg) := inb_of S89 ⟨by decide, by decide⟩
    obtain ⟨T89, h89, X89, e89, W89, st89⟩ := stI X88 hx hZ e88 Ar89 (j := (1 : Int32)) hin89 (g := (mkF m 147 #[.val (.int p0), .val (.int p1), .val (.int p2), .val (.int p3), .val (.int p4), .val (.int (4 : Int32)), .val (.int x6_15), .val (.int x7_23), .val (.int x8_34), .val (.int x9_43), .val (.int x10_54), .val (.int x11_63), .val (.int x12_75), .val (.int x13_84), .val (.ref ob5), .val (.ref ob87), .unset, .unset, .unset] [(.int x6_15), (.int (1 : Int32)), (.ref ob87)])) rfl rfl (hb hby at_147)
    refine own_go st89 ?_
    have V89 : Arv Z h89 ob87 ka87 .int (4 : Int32) [(.int (0 : Int32)), (.int x6_15), (.int (0 : Int32)), (.int (0 : Int32))] (.int (0 : Int32)) := Arv.set Ar89 q89 S89 M89 H89 G89 rfl W89 1 rfl (Nat.le_of_ble_eq_true rfl)
    have N89 := Fr.snoc X89 N88 g_ob87
    have Zp89 : n0 ≤ h89.size := Nat.le_trans Zp88 (Keep.of_wr W89).1
    show own_G p e below Φ T89 (mkF m 148 #[.val (.int p0), .val (.int p1), .val (.int p2), .val (.int p3), .val (.int p4), .val (.int (4 : Int32)), .val (.int x6_15), .val (.int x7_23), .val (.int x8_34), .val (.int x9_43), .val (.int x10_54), .val (.int x11_63), .val (.int x12_75), .val (.int x13_84), .val (.ref ob5), .val (.ref ob87), .unset, .unset, .unset] [])
    refine own_go (fun _ => XS.iload X89.here hx rfl (hb hby at_148) rfl) ?_
    show own_G p e below Φ T89 (mkF m 150 #[.val (.int p0), .val (.int p1), .val (.int p2), .val (.int p3), .val (.int p4), .val (.int (4 : Int32)), .val (.int x6_15), .val (.int x7_23), .val (.int x8_34), .val (.int x9_43), .val (.int x10_54), .val (.int x11_63), .val (.int x12_75), .val (.int x13_84), .val (.ref ob5), .val (.ref ob87), .unset, .unset, .unset] [(.int (4 : Int32))])
    refine own_go (fun _ => XS.iconst X89.here hx rfl (hb hby at_150)) ?_
    show own_G p e below Φ T89 (mkF m 151 #[.val (.int p0), .val (.int p1), .val (.int p2), .val (.int p3), .val (.int p4), .val (.int (4 : Int32)), .val (.int x6_15), .val (.int x7_23), .val (.int x8_34), .val (.int x9_43), .val (.int x10_54), .val (.int x11_63), .val (.int x12_75), .val (.int x13_84), .val (.ref ob5), .val (.ref ob87), .unset, .unset, .unset] [(.int (2 : Int32)), (.int (4 : Int32))])
    refine own_go (fun _ => XS.icmpNo X89.here hx rfl (hb hby at_151) rfl (Jvm.Free.XT.ii_le_f (by decide : ((2 : Int32) < (4 : Int32))))) ?_
    show own_G p e below Φ T89 (mkF m 154 #[.val (.int p0), .val (.int p1), .val (.int p2), .val (.int p3), .val (.int p4), .val (.int (4 : Int32)), .val (.int x6_15), .val (.int x7_23), .val (.int x8_34), .val (.int x9_43), .val (.int x10_54), .val (.int x11_63), .val (.int x12_75), .val (.int x13_84), .val (.ref ob5), .val (.ref ob87), .unset, .unset, .unset] [])
    refine own_go (fun _ => XS.aload X89.here hx rfl (hb hby at_154) rfl rfl) ?_
    show own_G p e below Φ T89 (mkF m 156 #[.val (.int p0), .val (.int p1), .val (.int p2), .val (.int p3), .val (.int p4), .val (.int (4 : Int32)), .val (.int x6_15), .val (.int x7_23), .val (.int x8_34), .val (.int x9_43), .val (.int x10_54), .val (.int x11_63), .val (.int x12_75), .val (.int x13_84), .val (.ref ob5), .val (.ref ob87), .unset, .unset, .unset] [(.ref ob87)])
    refine own_go (fun _ => XS.iconst X89.here hx rfl (hb hby at_156)) ?_
    show own_G p e below Φ T89 (mkF m 157 #[.val (.int p0), .val (.int p1), .val (.int p2), .val (.int p3), .val (.int p4), .val (.int (4 : Int32)), .val (.int x6_15), .val (.int x7_23), .val (.int x8_34), .val (.int x9_43), .val (.int x10_54), .val (.int x11_63), .val (.int x12_75), .val (.int x13_84), .val (.ref ob5), .val (.ref ob87), .unset, .unset, .unset] [(.int (2 : Int32)), (.ref ob87)])
    refine own_go (fun _ => XS.iload X89.here hx rfl (hb hby at_157) rfl) ?_
    show own_G p e below Φ T89 (mkF m 159 #[.val (.int p0), .val (.int p1), .val (.int p2), .val (.int p3), .val (.int p4), .val (.int (4 : Int32)), .val (.int x6_15), .val (.int x7_23), .val (.int x8_34), .val (.int x9_43), .val (.int x10_54), .val (.int x11_63), .val (.int x12_75), .val (.int x13_84), .val (.ref ob5), .val (.ref ob87), .unset, .unset, .unset] [(.int x8_34), (.int (2 : Int32)), (.ref ob87)])
    obtain ⟨cl90, Ar90, q90, S90, M90, H90, G90⟩ := id V89
    have hin90 : ¬ ((2 : Int32) < 0 ∨ cl90.slots.size ≤ ((2 : Int32)).toNatClampNeg) := inb_of S90 ⟨by decide, by decide⟩
    obtain ⟨T90, h90, X90, e90, W90, st90⟩ := stI X89 hx hZ e89 Ar90 (j := (2 : Int32)) hin90 (g := (mkF m 159 #[.val (.int p0), .val (.int p1), .val (.int p2), .val (.int p3), .val (.int p4), .val (.int (4 : Int32)), .val (.int x6_15), .val (.int x7_23), .val (.int x8_34), .val (.int x9_43), .val (.int x10_54), .val (.int x11_63), .val (.int x12_75), .val (.int x13_84), .val (.ref ob5), .val (.ref ob87), .unset, .unset, .unset] [(.int x8_34), (.int (2 : Int32)), (.ref ob87)])) rfl rfl (hb hby at_159)
    refine own_go st90 ?_
    have V90 : Arv Z h90 ob87 ka87 .int (4 : Int32) [(.int (0 : Int32)), (.int x6_15), (.int x8_34), (.int (0 : Int32))] (.int (0 : Int32)) := Arv.set Ar90 q90 S90 M90 H90 G90 rfl W90 2 rfl (Nat.le_of_ble_eq_true rfl)
    have N90 := Fr.snoc X90 N89 g_ob87
    have Zp90 : n0 ≤ h90.size := Nat.le_trans Zp89 (Keep.of_wr W90).1
    show own_G p e below Φ T90 (mkF m 160 #[.val (.int p0), .val (.int p1), .val (.int p2), .val (.int p3), .val (.int p4), .val (.int (4 : Int32)), .val (.int x6_15), .val (.int x7_23), .val (.int x8_34), .val (.int x9_43), .val (.int x10_54), .val (.int x11_63), .val (.int x12_75), .val (.int x13_84), .val (.ref ob5), .val (.ref ob87), .unset, .unset, .unset] [])
    refine own_go (fun _ => XS.iload X90.here hx rfl (hb hby at_160) rfl) ?_
    show own_G p e below Φ T90 (mkF m 162 #[.val (.int p0), .val (.int p1), .val (.int p2), .val (.int p3), .val (.int p4), .val (.int (4 : Int32)), .val (.int x6_15), .val (.int x7_23), .val (.int x8_34), .val (.int x9_43), .val (.int x10_54), .val (.int x11_63), .val (.int x12_75), .val (.int x13_84), .val (.ref ob5), .val (.ref ob87), .unset, .unset, .unset] [(.int (4 : Int32))])
    refine own_go (fun _ => XS.iconst X90.here hx rfl (hb hby at_162)) ?_
    show own_G p e below Φ T90 (mkF m 163 #[.val (.int p0), .val (.int p1), .val (.int p2), .val (.int p3), .val (.int p4), .val (.int (4 : Int32)), .val (.int x6_15), .val (.int x7_23), .val (.int x8_34), .val (.int x9_43), .val (.int x10_54), .val (.int x11_63), .val (.int x12_75), .val (.int x13_84), .val (.ref ob5), .val (.ref ob87), .unset, .unset, .unset] [(.int (3 : Int32)), (.int (4 : Int32))])
    refine own_go (fun _ => XS.icmpNo X90.here hx rfl (hb hby at_163) rfl (Jvm.Free.XT.ii_le_f (by decide : ((3 : Int32) < (4 : Int32))))) ?_
    show own_G p e below Φ T90 (mkF m 166 #[.val (.int p0), .val (.int p1), .val (.int p2), .val (.int p3), .val (.int p4), .val (.int (4 : Int32)), .val (.int x6_15), .val (.int x7_23), .val (.int x8_34), .val (.int x9_43), .val (.int x10_54), .val (.int x11_63), .val (.int x12_75), .val (.int x13_84), .val (.ref ob5), .val (.ref ob87), .unset, .unset, .unset] [])
    refine own_go (fun _ => XS.aload X90.here hx rfl (hb hby at_166) rfl rfl) ?_
    show own_G p e below Φ T90 (mkF m 168 #[.val (.int p0), .val (.int p1), .val (.int p2), .val (.int p3), .val (.int p4), .val (.int (4 : Int32)), .val (.int x6_15), .val (.int x7_23), .val (.int x8_34), .val (.int x9_43), .val (.int x10_54), .val (.int x11_63), .val (.int x12_75), .val (.int x13_84), .val (.ref ob5), .val (.ref ob87), .unset, .unset, .unset] [(.ref ob87)])
    refine own_go (fun _ => XS.iconst X90.here hx rfl (hb hby at_168)) ?_
    show own_G p e below Φ T90 (mkF m 169 #[.val (.int p0), .val (.int p1), .val (.int p2), .val (.int p3), .val (.int p4), .val (.int (4 : Int32)), .val (.int x6_15), .val (.int x7_23), .val (.int x8_34), .val (.int x9_43), .val (.int x10_54), .val (.int x11_63), .val (.int x12_75), .val (.int x13_84), .val (.ref ob5), .val (.ref ob87), .unset, .unset, .unset] [(.int (3 : Int32)), (.ref ob87)])
    refine own_go (fun _ => XS.iload X90.here hx rfl (hb hby at_169) rfl) ?_
    show own_G p e below Φ T90 (mkF m 171 #[.val (.int p0), .val (.int p1), .val (.int p2), .val (.int p3), .val (.int p4), .val (.int (4 : Int32)), .val (.int x6_15), .val (.int x7_23), .val (.int x8_34), .val (.int x9_43), .val (.int x10_54), .val (.int x11_63), .val (.int x12_75), .val (.int x13_84), .val (.ref ob5), .val (.ref ob87), .unset, .unset, .unset] [(.int x10_54), (.int (3 : Int32)), (.ref ob87)])
    obtain ⟨cl91, Ar91, q91, S91, M91, H91, G91⟩ := id V90
    have hin91 : ¬ ((3 : Int32) < 0 ∨ cl91.slots.size ≤ ((3 : Int32)).toNatClampNeg) := inb_of S91 ⟨by decide, by decide⟩
    obtain ⟨T91, h91, X91, e91, W91, st91⟩ := stI X90 hx hZ e90 Ar91 (j := (3 : Int32)) hin91 (g := (mkF m 171 #[.val (.int p0), .val (.int p1), .val (.int p2), .val (.int p3), .val (.int p4), .val (.int (4 : Int32)), .val (.int x6_15), .val (.int x7_23), .val (.int x8_34), .val (.int x9_43), .val (.int x10_54), .val (.int x11_63), .val (.int x12_75), .val (.int x13_84), .val (.ref ob5), .val (.ref ob87), .unset, .unset, .unset] [(.int x10_54), (.int (3 : Int32)), (.ref ob87)])) rfl rfl (hb hby at_171)
    refine own_go st91 ?_
    have V91 : Arv Z h91 ob87 ka87 .int (4 : Int32) [(.int (0 : Int32)), (.int x6_15), (.int x8_34), (.int x10_54)] (.int (0 : Int32)) := Arv.set Ar91 q91 S91 M91 H91 G91 rfl W91 3 rfl (Nat.le_of_ble_eq_true rfl)
    have N91 := Fr.snoc X91 N90 g_ob87
    have Zp91 : n0 ≤ h91.size := Nat.le_trans Zp90 (Keep.of_wr W91).1
    show own_G p e below Φ T91 (mkF m 172 #[.val (.int p0), .val (.int p1), .val (.int p2), .val (.int p3), .val (.int p4), .val (.int (4 : Int32)), .val (.int x6_15), .val (.int x7_23), .val (.int x8_34), .val (.int x9_43), .val (.int x10_54), .val (.int x11_63), .val (.int x12_75), .val (.int x13_84), .val (.ref ob5), .val (.ref ob87), .unset, .unset, .unset] [])
    refine own_go (fun _ => XS.iload X91.here hx rfl (hb hby at_172) rfl) ?_
    show own_G p e below Φ T91 (mkF m 174 #[.val (.int p0), .val (.int p1), .val (.int p2), .val (.int p3), .val (.int p4), .val (.int (4 : Int32)), .val (.int x6_15), .val (.int x7_23), .val (.int x8_34), .val (.int x9_43), .val (.int x10_54), .val (.int x11_63), .val (.int x12_75), .val (.int x13_84), .val (.ref ob5), .val (.ref ob87), .unset, .unset, .unset] [(.int (4 : Int32))])
    refine own_go (fun _ => XS.iconst X91.here hx rfl (hb hby at_174)) ?_
    show own_G p e below Φ T91 (mkF m 175 #[.val (.int p0), .val (.int p1), .val (.int p2), .val (.int p3), .val (.int p4), .val (.int (4 : Int32)), .val (.int x6_15), .val (.int x7_23), .val (.int x8_34), .val (.int x9_43), .val (.int x10_54), .val (.int x11_63), .val (.int x12_75), .val (.int x13_84), .val (.ref ob5), .val (.ref ob87), .unset, .unset, .unset] [(.int (4 : Int32)), (.int (4 : Int32))])
    refine own_go (fun _ => XS.icmpYes X91.here hx rfl (pc0 := 175) (pc' := 184) rfl (hb hby at_175) rfl (Jvm.Free.XT.ii_le_t (by decide : ¬ ((4 : Int32) < (4 : Int32)))) (by decide) (by decide)) ?_
    show own_G p e below Φ T91 (mkF m 184 #[.val (.int p0), .val (.int p1), .val (.int p2), .val (.int p3), .val (.int p4), .val (.int (4 : Int32)), .val (.int x6_15), .val (.int x7_23), .val (.int x8_34), .val (.int x9_43), .val (.int x10_54), .val (.int x11_63), .val (.int x12_75), .val (.int x13_84), .val (.ref ob5), .val (.ref ob87), .unset, .unset, .unset] [])
    refine own_go (fun _ => XS.iconst X91.here hx rfl (hb hby at_184)) ?_
    show own_G p e below Φ T91 (mkF m 185 #[.val (.int p0), .val (.int p1), .val (.int p2), .val (.int p3), .val (.int p4), .val (.int (4 : Int32)), .val (.int x6_15), .val (.int x7_23), .val (.int x8_34), .val (.int x9_43), .val (.int x10_54), .val (.int x11_63), .val (.int x12_75), .val (.int x13_84), .val (.ref ob5), .val (.ref ob87), .unset, .unset, .unset] [(.int (0 : Int32))])
    refine own_go (fun _ => XS.istore X91.here hx rfl (hb hby at_185) rfl (l' := #[.val (.int p0), .val (.int p1), .val (.int p2), .val (.int p3), .val (.int p4), .val (.int (4 : Int32)), .val (.int x6_15), .val (.int x7_23), .val (.int x8_34), .val (.int x9_43), .val (.int x10_54), .val (.int x11_63), .val (.int x12_75), .val (.int x13_84), .val (.ref ob5), .val (.ref ob87), .val (.int (0 : Int32)), .unset, .unset]) rfl) ?_
    show own_G p e below Φ T91 (mkF m 187 #[.val (.int p0), .val (.int p1), .val (.int p2), .val (.int p3), .val (.int p4), .val (.int (4 : Int32)), .val (.int x6_15), .val (.int x7_23), .val (.int x8_34), .val (.int x9_43), .val (.int x10_54), .val (.int x11_63), .val (.int x12_75), .val (.int x13_84), .val (.ref ob5), .val (.ref ob87), .val (.int (0 : Int32)), .unset, .unset] [])
    refine own_go (fun _ => XS.iload X91.here hx rfl (hb hby at_187) rfl) ?_
    show own_G p e below Φ T91 (mkF m 189 #[.val (.int p0), .val (.int p1), .val (.int p2), .val (.int p3), .val (.int p4), .val (.int (4 : Int32)), .val (.int x6_15), .val (.int x7_23), .val (.int x8_34), .val (.int x9_43), .val (.int x10_54), .val (.int x11_63), .val (.int x12_75), .val (.int x13_84), .val (.ref ob5), .val (.ref ob87), .val (.int (0 : Int32)), .unset, .unset] [(.int (4 : Int32))])
    refine own_go (fun _ => XS.iconst X91.here hx rfl (hb hby at_189)) ?_
    show own_G p e below Φ T91 (mkF m 190 #[.val (.int p0), .val (.int p1), .val (.int p2), .val (.int p3), .val (.int p4), .val (.int (4 : Int32)), .val (.int x6_15), .val (.int x7_23), .val (.int x8_34), .val (.int x9_43), .val (.int x10_54), .val (.int x11_63), .val (.int x12_75), .val (.int x13_84), .val (.ref ob5), .val (.ref ob87), .val (.int (0 : Int32)), .unset, .unset] [(.int (1 : Int32)), (.int (4 : Int32))])
    refine own_go (fun _ => XS.icmpYes X91.here hx rfl (pc0 := 190) (pc' := 199) rfl (hb hby at_190) rfl (Jvm.Free.XT.ii_ne_t (by decide : ¬ ((4 : Int32) = (1 : Int32)))) (by decide) (by decide)) ?_
    show own_G p e below Φ T91 (mkF m 199 #[.val (.int p0), .val (.int p1), .val (.int p2), .val (.int p3), .val (.int p4), .val (.int (4 : Int32)), .val (.int x6_15), .val (.int x7_23), .val (.int x8_34), .val (.int x9_43), .val (.int x10_54), .val (.int x11_63), .val (.int x12_75), .val (.int x13_84), .val (.ref ob5), .val (.ref ob87), .val (.int (0 : Int32)), .unset, .unset] [])
    refine own_go (fun _ => XS.iload X91.here hx rfl (hb hby at_199) rfl) ?_
    show own_G p e below Φ T91 (mkF m 201 #[.val (.int p0), .val (.int p1), .val (.int p2), .val (.int p3), .val (.int p4), .val (.int (4 : Int32)), .val (.int x6_15), .val (.int x7_23), .val (.int x8_34), .val (.int x9_43), .val (.int x10_54), .val (.int x11_63), .val (.int x12_75), .val (.int x13_84), .val (.ref ob5), .val (.ref ob87), .val (.int (0 : Int32)), .unset, .unset] [(.int (4 : Int32))])
    refine own_go (fun _ => XS.iconst X91.here hx rfl (hb hby at_201)) ?_
    show own_G p e below Φ T91 (mkF m 202 #[.val (.int p0), .val (.int p1), .val (.int p2), .val (.int p3), .val (.int p4), .val (.int (4 : Int32)), .val (.int x6_15), .val (.int x7_23), .val (.int x8_34), .val (.int x9_43), .val (.int x10_54), .val (.int x11_63), .val (.int x12_75), .val (.int x13_84), .val (.ref ob5), .val (.ref ob87), .val (.int (0 : Int32)), .unset, .unset] [(.int (2 : Int32)), (.int (4 : Int32))])
    refine own_go (fun _ => XS.icmpYes X91.here hx rfl (pc0 := 202) (pc' := 214) rfl (hb hby at_202) rfl (Jvm.Free.XT.ii_ne_t (by decide : ¬ ((4 : Int32) = (2 : Int32)))) (by decide) (by decide)) ?_
    show own_G p e below Φ T91 (mkF m 214 #[.val (.int p0), .val (.int p1), .val (.int p2), .val (.int p3), .val (.int p4), .val (.int (4 : Int32)), .val (.int x6_15), .val (.int x7_23), .val (.int x8_34), .val (.int x9_43), .val (.int x10_54), .val (.int x11_63), .val (.int x12_75), .val (.int x13_84), .val (.ref ob5), .val (.ref ob87), .val (.int (0 : Int32)), .unset, .unset] [])
    refine own_go (fun _ => XS.iload X91.here hx rfl (hb hby at_214) rfl) ?_
    show own_G p e below Φ T91 (mkF m 216 #[.val (.int p0), .val (.int p1), .val (.int p2), .val (.int p3), .val (.int p4), .val (.int (4 : Int32)), .val (.int x6_15), .val (.int x7_23), .val (.int x8_34), .val (.int x9_43), .val (.int x10_54), .val (.int x11_63), .val (.int x12_75), .val (.int x13_84), .val (.ref ob5), .val (.ref ob87), .val (.int (0 : Int32)), .unset, .unset] [(.int (4 : Int32))])
    refine own_go (fun _ => XS.iconst X91.here hx rfl (hb hby at_216)) ?_
    show own_G p e below Φ T91 (mkF m 217 #[.val (.int p0), .val (.int p1), .val (.int p2), .val (.int p3), .val (.int p4), .val (.int (4 : Int32)), .val (.int x6_15), .val (.int x7_23), .val (.int x8_34), .val (.int x9_43), .val (.int x10_54), .val (.int x11_63), .val (.int x12_75), .val (.int x13_84), .val (.ref ob5), .val (.ref ob87), .val (.int (0 : Int32)), .unset, .unset] [(.int (3 : Int32)), (.int (4 : Int32))])
    refine own_go (fun _ => XS.icmpYes X91.here hx rfl (pc0 := 217) (pc' := 229) rfl (hb hby at_217) rfl (Jvm.Free.XT.ii_ne_t (by decide : ¬ ((4 : Int32) = (3 : Int32)))) (by decide) (by decide)) ?_
    show own_G p e below Φ T91 (mkF m 229 #[.val (.int p0), .val (.int p1), .val (.int p2), .val (.int p3), .val (.int p4), .val (.int (4 : Int32)), .val (.int x6_15), .val (.int x7_23), .val (.int x8_34), .val (.int x9_43), .val (.int x10_54), .val (.int x11_63), .val (.int x12_75), .val (.int x13_84), .val (.ref ob5), .val (.ref ob87), .val (.int (0 : Int32)), .unset, .unset] [])
    refine own_go (fun _ => XS.iload X91.here hx rfl (hb hby at_229) rfl) ?_
    show own_G p e below Φ T91 (mkF m 231 #[.val (.int p0), .val (.int p1), .val (.int p2), .val (.int p3), .val (.int p4), .val (.int (4 : Int32)), .val (.int x6_15), .val (.int x7_23), .val (.int x8_34), .val (.int x9_43), .val (.int x10_54), .val (.int x11_63), .val (.int x12_75), .val (.int x13_84), .val (.ref ob5), .val (.ref ob87), .val (.int (0 : Int32)), .unset, .unset] [(.int (4 : Int32))])
    refine own_go (fun _ => XS.iconst X91.here hx rfl (hb hby at_231)) ?_
    show own_G p e below Φ T91 (mkF m 232 #[.val (.int p0), .val (.int p1), .val (.int p2), .val (.int p3), .val (.int p4), .val (.int (4 : Int32)), .val (.int x6_15), .val (.int x7_23), .val (.int x8_34), .val (.int x9_43), .val (.int x10_54), .val (.int x11_63), .val (.int x12_75), .val (.int x13_84), .val (.ref ob5), .val (.ref ob87), .val (.int (0 : Int32)), .unset, .unset] [(.int (4 : Int32)), (.int (4 : Int32))])
    refine own_go (fun _ => XS.icmpNo X91.here hx rfl (hb hby at_232) rfl (Jvm.Free.XT.ii_ne_f (by decide : ((4 : Int32) = (4 : Int32))))) ?_
    show own_G p e below Φ T91 (mkF m 235 #[.val (.int p0), .val (.int p1), .val (.int p2), .val (.int p3), .val (.int p4), .val (.int (4 : Int32)), .val (.int x6_15), .val (.int x7_23), .val (.int x8_34), .val (.int x9_43), .val (.int x10_54), .val (.int x11_63), .val (.int x12_75), .val (.int x13_84), .val (.ref ob5), .val (.ref ob87), .val (.int (0 : Int32)), .unset, .unset] [])
    refine own_go (fun _ => XS.iload X91.here hx rfl (hb hby at_235) rfl) ?_
    show own_G p e below Φ T91 (mkF m 237 #[.val (.int p0), .val (.int p1), .val (.int p2), .val (.int p3), .val (.int p4), .val (.int (4 : Int32)), .val (.int x6_15), .val (.int x7_23), .val (.int x8_34), .val (.int x9_43), .val (.int x10_54), .val (.int x11_63), .val (.int x12_75), .val (.int x13_84), .val (.ref ob5), .val (.ref ob87), .val (.int (0 : Int32)), .unset, .unset] [(.int x11_63)])
    refine own_go (fun _ => XS.iconst X91.here hx rfl (hb hby at_237)) ?_
    show own_G p e below Φ T91 (mkF m 238 #[.val (.int p0), .val (.int p1), .val (.int p2), .val (.int p3), .val (.int p4), .val (.int (4 : Int32)), .val (.int x6_15), .val (.int x7_23), .val (.int x8_34), .val (.int x9_43), .val (.int x10_54), .val (.int x11_63), .val (.int x12_75), .val (.int x13_84), .val (.ref ob5), .val (.ref ob87), .val (.int (0 : Int32)), .unset, .unset] [(.int (1 : Int32)), (.int x11_63)])
    refine own_go (fun _ => XS.iadd X91.here hx rfl (hb hby at_238) rfl) ?_
    show own_G p e below Φ T91 (mkF m 239 #[.val (.int p0), .val (.int p1), .val (.int p2), .val (.int p3), .val (.int p4), .val (.int (4 : Int32)), .val (.int x6_15), .val (.int x7_23), .val (.int x8_34), .val (.int x9_43), .val (.int x10_54), .val (.int x11_63), .val (.int x12_75), .val (.int x13_84), .val (.ref ob5), .val (.ref ob87), .val (.int (0 : Int32)), .unset, .unset] [(.int (x11_63 + (1 : Int32)))])
    refine own_go (fun _ => XS.istore X91.here hx rfl (hb hby at_239) rfl (l' := #[.val (.int p0), .val (.int p1), .val (.int p2), .val (.int p3), .val (.int p4), .val (.int (4 : Int32)), .val (.int x6_15), .val (.int x7_23), .val (.int x8_34), .val (.int x9_43), .val (.int x10_54), .val (.int x11_63), .val (.int x12_75), .val (.int x13_84), .val (.ref ob5), .val (.ref ob87), .val (.int (x11_63 + (1 : Int32))), .unset, .unset]) rfl) ?_
    show own_G p e below Φ T91 (mkF m 241 #[.val (.int p0), .val (.int p1), .val (.int p2), .val (.int p3), .val (.int p4), .val (.int (4 : Int32)), .val (.int x6_15), .val (.int x7_23), .val (.int x8_34), .val (.int x9_43), .val (.int x10_54), .val (.int x11_63), .val (.int x12_75), .val (.int x13_84), .val (.ref ob5), .val (.ref ob87), .val (.int (x11_63 + (1 : Int32))), .unset, .unset] [])
    refine own_go (fun _ => XS.goto X91.here hx rfl (pc0 := 241) (pc' := 256) rfl (hb hby at_241) (by decide) (by decide)) ?_
    show own_G p e below Φ T91 (mkF m 256 #[.val (.int p0), .val (.int p1), .val (.int p2), .val (.int p3), .val (.int p4), .val (.int (4 : Int32)), .val (.int x6_15), .val (.int x7_23), .val (.int x8_34), .val (.int x9_43), .val (.int x10_54), .val (.int x11_63), .val (.int x12_75), .val (.int x13_84), .val (.ref ob5), .val (.ref ob87), .val (.int (x11_63 + (1 : Int32))), .unset, .unset] [])
    obtain ⟨T92, h92, X92, e92, E92, A92, D92, -, st92⟩ := newO X91 hx hZ hown (wd_6 hw) (wd_7 hw) (wd_8 hw) e91 (g := (mkF m 256 #[.val (.int p0), .val (.int p1), .val (.int p2), .val (.int p3), .val (.int p4), .val (.int (4 : Int32)), .val (.int x6_15), .val (.int x7_23), .val (.int x8_34), .val (.int x9_43), .val (.int x10_54), .val (.int x11_63), .val (.int x12_75), .val (.int x13_84), .val (.ref ob5), .val (.ref ob87), .val (.int (x11_63 + (1 : Int32))), .unset, .unset] [])) rfl (hb hby at_256) (by decide) (by decide)
    obtain ⟨ob92, g92⟩ : ∃ z, z = h91.size := ⟨_, rfl⟩
    rw [← g92] at A92 D92 st92
    have f93 : Arv Z h87 ob5 ka5 .int (5 : Int32) [(.int (0 : Int32)), (.int x6_15), (.int x8_34), (.int x10_54), (.int x12_75)] (.int (0 : Int32)) := V10.ext E87
    have f94 : Arv Z h88 ob5 ka5 .int (5 : Int32) [(.int (0 : Int32)), (.int x6_15), (.int x8_34), (.int x10_54), (.int x12_75)] (.int (0 : Int32)) := f93.other W88 ne_ob5_ob87
    have f95 : Arv Z h89 ob5 ka5 .int (5 : Int32) [(.int (0 : Int32)), (.int x6_15), (.int x8_34), (.int x10_54), (.int x12_75)] (.int (0 : Int32)) := f94.other W89 ne_ob5_ob87
    have f96 : Arv Z h90 ob5 ka5 .int (5 : Int32) [(.int (0 : Int32)), (.int x6_15), (.int x8_34), (.int x10_54), (.int x12_75)] (.int (0 : Int32)) := f95.other W90 ne_ob5_ob87
    have f97 : Arv Z h91 ob5 ka5 .int (5 : Int32) [(.int (0 : Int32)), (.int x6_15), (.int x8_34), (.int x10_54), (.int x12_75)] (.int (0 : Int32)) := f96.other W91 ne_ob5_ob87
    have ne_ob5_ob92 : ob5 ≠ ob92 := Nat.ne_of_lt (Nat.lt_of_lt_of_le f97.lt (Nat.le_of_eq g92.symm))
    have ne_ob87_ob92 : ob87 ≠ ob92 := Nat.ne_of_lt (Nat.lt_of_lt_of_le V91.lt (Nat.le_of_eq g92.symm))
    have g_ob92 : n0 ≤ ob92 := Nat.le_trans Zp91 (Nat.le_of_eq g92.symm)
    have Zp92 : n0 ≤ h92.size := Nat.le_trans Zp91 E92.1
    refine own_go st92 ?_
    have F_m_aClasses_ob92 : Fld Z h92 ob92 "com/example/edgewarden/edgewarden/graph/Likeness" "m_aClasses" "[I" .null := D92 (Or.inr (wd_16 hw)) (ty := (.array .int)) (by decide)
    have F_m_nClassCount_ob92 : Fld Z h92 ob92 "com/example/edgewarden/edgewarden/graph/Likeness" "m_nClassCount" "I" (.int (0 : Int32)) := D92 (Or.inr (wd_18 hw)) (ty := .int) (by decide)
    show own_G p e below Φ T92 (mkF m 259 #[.val (.int p0), .val (.int p1), .val (.int p2), .val (.int p3), .val (.int p4), .val (.int (4 : Int32)), .val (.int x6_15), .val (.int x7_23), .val (.int x8_34), .val (.int x9_43), .val (.int x10_54), .val (.int x11_63), .val (.int x12_75), .val (.int x13_84), .val (.ref ob5), .val (.ref ob87), .val (.int (x11_63 + (1 : Int32))), .unset, .unset] [(.ref ob92)])
    refine own_go (fun _ => XS.dup X92.here hx rfl (hb hby at_259) rfl rfl) ?_
    show own_G p e below Φ T92 (mkF m 260 #[.val (.int p0), .val (.int p1), .val (.int p2), .val (.int p3), .val (.int p4), .val (.int (4 : Int32)), .val (.int x6_15), .val (.int x7_23), .val (.int x8_34), .val (.int x9_43), .val (.int x10_54), .val (.int x11_63), .val (.int x12_75), .val (.int x13_84), .val (.ref ob5), .val (.ref ob87), .val (.int (x11_63 + (1 : Int32))), .unset, .unset] [(.ref ob92), (.ref ob92)])
    refine own_go (fun _ => XS.aload X92.here hx rfl (hb hby at_260) rfl rfl) ?_
    show own_G p e below Φ T92 (mkF m 262 #[.val (.int p0), .val (.int p1), .val (.int p2), .val (.int p3), .val (.int p4), .val (.int (4 : Int32)), .val (.int x6_15), .val (.int x7_23), .val (.int x8_34), .val (.int x9_43), .val (.int x10_54), .val (.int x11_63), .val (.int x12_75), .val (.int x13_84), .val (.ref ob5), .val (.ref ob87), .val (.int (x11_63 + (1 : Int32))), .unset, .unset] [(.ref ob87), (.ref ob92), (.ref ob92)])
    have f98 : Arv Z h92 ob87 ka87 .int (4 : Int32) [(.int (0 : Int32)), (.int x6_15), (.int x8_34), (.int x10_54)] (.int (0 : Int32)) := V91.ext E92
    obtain ⟨_, _, ⟨T99, zL99, zk99, zn99⟩, -, X99, ⟨Lc99, hQ99, l99, y99, z99⟩, st99⟩ := X92.specialBack hx (y := (⟨"com/example/edgewarden/edgewarden/graph/Likeness", "<init>", "([I)V"⟩ : MethodName)) rfl hown (mvT hZ (wd_9 hw)) (mvT hZ (wd_10 hw)) (mvT hZ (wd_11 hw)) (by decide) (backOf (W := 1) (rmI4 l Z a0 hw [] ob92 ob87 ka87 (0 : Int32) x6_15 x8_34 x10_54 .null (.int (0 : Int32)) h92 n0 Zp92 A92 F_m_aClasses_ob92 F_m_nClassCount_ob92 g_ob92 f98 ne_ob87_ob92) hZ (wd_11 hw) (wd_8 hw) (by decide) (by decide)) (g := (mkF m 262 #[.val (.int p0), .val (.int p1), .val (.int p2), .val (.int p3), .val (.int p4), .val (.int (4 : Int32)), .val (.int x6_15), .val (.int x7_23), .val (.int x8_34), .val (.int x9_43), .val (.int x10_54), .val (.int x11_63), .val (.int x12_75), .val (.int x13_84), .val (.ref ob5), .val (.ref ob87), .val (.int (x11_63 + (1 : Int32))), .unset, .unset] [(.ref ob87), (.ref ob92), (.ref ob92)])) rfl (by rw [hml]; rfl) (Steps.refl _) (a := ob92) (argsL := [(.ref ob87)]) (rest := [(.ref ob92)]) (lenOf pd_2 rfl) rfl (by show 2 * 0 + _ ≤ _; exact Nat.le_of_eq rfl) (hb hby at_262) (fun _ _ => ⟨rfl, e92, (by decide : 3 + 0 ≤ _), (by decide : 11 + 0 ≤ _)⟩)
    dsimp only [Pt.U, Pt.locs, Pt.cells, Pt.slots] at X99 l99 y99 z99 st99 hQ99
    subst l99 y99 z99
    obtain ⟨rfl, N99q, Kq99, p99_0, p99_1, p99_2⟩ := hQ99
    have N99 := Fr.app N91 N99q
    refine own_on st99 ?_
    have Zp99 : n0 ≤ T99.heap.size := Nat.le_trans Zp92 Kq99.1
    show own_G p e below Φ T99 (mkF m 265 #[.val (.int p0), .val (.int p1), .val (.int p2), .val (.int p3), .val (.int p4), .val (.int (4 : Int32)), .val (.int x6_15), .val (.int x7_23), .val (.int x8_34), .val (.int x9_43), .val (.int x10_54), .val (.int x11_63), .val (.int x12_75), .val (.int x13_84), .val (.ref ob5), .val (.ref ob87), .val (.int (x11_63 + (1 : Int32))), .unset, .unset] [(.ref ob92)])
    refine own_go (fun _ => XS.astore X99.here hx rfl (hb hby at_265) rfl rfl (l' := #[.val (.int p0), .val (.int p1), .val (.int p2), .val (.int p3), .val (.int p4), .val (.int (4 : Int32)), .val (.int x6_15), .val (.int x7_23), .val (.int x8_34), .val (.int x9_43), .val (.int x10_54), .val (.int x11_63), .val (.int x12_75), .val (.int x13_84), .val (.ref ob5), .val (.ref ob87), .val (.int (x11_63 + (1 : Int32))), .val (.ref ob92), .unset]) rfl) ?_
    show own_G p e below Φ T99 (mkF m 267 #[.val (.int p0), .val (.int p1), .val (.int p2), .val (.int p3), .val (.int p4), .val (.int (4 : Int32)), .val (.int x6_15), .val (.int x7_23), .val (.int x8_34), .val (.int x9_43), .val (.int x10_54), .val (.int x11_63), .val (.int x12_75), .val (.int x13_84), .val (.ref ob5), .val (.ref ob87), .val (.int (x11_63 + (1 : Int32))), .val (.ref ob92), .unset] [])
    refine own_go (fun _ => XS.aload X99.here hx rfl (hb hby at_267) rfl rfl) ?_
    show own_G p e below Φ T99 (mkF m 269 #[.val (.int p0), .val (.int p1), .val (.int p2), .val (.int p3), .val (.int p4), .val (.int (4 : Int32)), .val (.int x6_15), .val (.int x7_23), .val (.int x8_34), .val (.int x9_43), .val (.int x10_54), .val (.int x11_63), .val (.int x12_75), .val (.int x13_84), .val (.ref ob5), .val (.ref ob87), .val (.int (x11_63 + (1 : Int32))), .val (.ref ob92), .unset] [(.ref ob92)])
    have f100 : Arv Z T99.heap ob87 ka87 .int (4 : Int32) [(.int (0 : Int32)), (.int x6_15), (.int x8_34), (.int x10_54)] (.int (0 : Int32)) := f98.keep Kq99 (ninS ne_ob87_ob92 nin0)
    obtain ⟨cq101, kq101, q101a, q101b, q101c⟩ := isOf hZ rfl p99_0
    obtain ⟨_, _, ⟨T101, zL101, zk101, zn101⟩, -, X101, ⟨Lc101, hQ101, l101, y101, z101⟩, st101⟩ := X99.virtualBack hx (y := (⟨"com/example/edgewarden/edgewarden/graph/Likeness", "getFirstMembers", "()[I"⟩ : MethodName)) (z := (⟨"com/example/edgewarden/edgewarden/graph/Likeness", "getFirstMembers", "()[I"⟩ : MethodName)) hown (mvT hZ (wd_19 hw)) (mvT hZ (wd_20 hw)) (notFace_of_selects (args := #[]) (mvT hZ (wd_22 hw))) (mvT hZ (wd_22 hw)) (mvT hZ (wd_21 hw)) (by decide) (backOf (W := 0) (rmS4 l Z a0 hw [] ob92 ob87 ka87 (own_max (own_max (own_max (own_max (0 : Int32) ((0 : Int32) + (1 : Int32))) (x6_15 + (1 : Int32))) (x8_34 + (1 : Int32))) (x10_54 + (1 : Int32))) (0 : Int32) x6_15 x8_34 x10_54 T99.heap n0 Zp99 p99_2 p99_1 f100 (own_use (P := fun t => ¬ (own_max (own_max (own_max (own_max (0 : Int32) ((0 : Int32) + (1 : Int32))) (t.1 + (1 : Int32))) (t.2.2.1 + (1 : Int32))) (t.2.2.2.2.1 + (1 : Int32))) < 0) (by decide +kernel) hall) (own_use (P := fun t => ((own_max (own_max (own_max (own_max (0 : Int32) ((0 : Int32) + (1 : Int32))) (t.1 + (1 : Int32))) (t.2.2.1 + (1 : Int32))) (t.2.2.2.2.1 + (1 : Int32)))).toNatClampNeg ≤ 5) (by decide +kernel) hall) (own_use (P := fun t => ¬ (0 : Int32) < 0 ∧ (0 : Int32) < (own_max (own_max (own_max (own_max (0 : Int32) ((0 : Int32) + (1 : Int32))) (t.1 + (1 : Int32))) (t.2.2.1 + (1 : Int32))) (t.2.2.2.2.1 + (1 : Int32)))) (by decide +kernel) hall) (own_use (P := fun t => ¬ t.1 < 0 ∧ t.1 < (own_max (own_max (own_max (own_max (0 : Int32) ((0 : Int32) + (1 : Int32))) (t.1 + (1 : Int32))) (t.2.2.1 + (1 : Int32))) (t.2.2.2.2.1 + (1 : Int32)))) (by decide +kernel) hall) (own_use (P := fun t => ¬ t.2.2.1 < 0 ∧ t.2.2.1 < (own_max (own_max (own_max (own_max (0 : Int32) ((0 : Int32) + (1 : Int32))) (t.1 + (1 : Int32))) (t.2.2.1 + (1 : Int32))) (t.2.2.2.2.1 + (1 : Int32)))) (by decide +kernel) hall) (own_use (P := fun t => ¬ t.2.2.2.2.1 < 0 ∧ t.2.2.2.2.1 < (own_max (own_max (own_max (own_max (0 : Int32) ((0 : Int32) + (1 : Int32))) (t.1 + (1 : Int32))) (t.2.2.1 + (1 : Int32))) (t.2.2.2.2.1 + (1 : Int32)))) (by decide +kernel) hall)) hZ (wd_23 hw) (wd_8 hw) (by decide) (by decide)) q101a q101c (g := (mkF m 269 #[.val (.int p0), .val (.int p1), .val (.int p2), .val (.int p3), .val (.int p4), .val (.int (4 : Int32)), .val (.int x6_15), .val (.int x7_23), .val (.int x8_34), .val (.int x9_43), .val (.int x10_54), .val (.int x11_63), .val (.int x12_75), .val (.int x13_84), .val (.ref ob5), .val (.ref ob87), .val (.int (x11_63 + (1 : Int32))), .val (.ref ob92), .unset] [(.ref ob92)])) rfl (by rw [hml]; rfl) (Steps.refl _) (argsL := []) (rest := []) (lenOf pd_3 rfl) rfl (by show 2 * 0 + _ ≤ _; exact Nat.le_of_eq rfl) (hb hby at_269) (fun _ _ => ⟨rfl, rfl, (by decide : 3 + 1 ≤ _), (by decide : 11 + 5 ≤ _)⟩)
    dsimp only [Pt.U, Pt.locs, Pt.cells, Pt.slots] at X101 l101 y101 z101 st101 hQ101
    subst l101 y101 z101
    obtain ⟨b_101, ns_b_101, kb_101, rfl, N101q, Kq101, p101_0⟩ := hQ101
    have N101 := Fr.app N99 N101q
    refine own_on st101 ?_
    have f102 : Arv Z h92 ob5 ka5 .int (5 : Int32) [(.int (0 : Int32)), (.int x6_15), (.int x8_34), (.int x10_54), (.int x12_75)] (.int (0 : Int32)) := f97.ext E92
    have f103 : Arv Z T99.heap ob5 ka5 .int (5 : Int32) [(.int (0 : Int32)), (.int x6_15), (.int x8_34), (.int x10_54), (.int x12_75)] (.int (0 : Int32)) := f102.keep Kq99 (ninS ne_ob5_ob92 nin0)
    have ne_ob5_b_101 : ob5 ≠ b_101 := Nat.ne_of_lt (Nat.lt_of_lt_of_le f103.lt ns_b_101)
    have ne_ob87_b_101 : ob87 ≠ b_101 := Nat.ne_of_lt (Nat.lt_of_lt_of_le f100.lt ns_b_101)
    have ne_ob92_b_101 : ob92 ≠ b_101 := Nat.ne_of_lt (Nat.lt_of_lt_of_le p99_0.lt ns_b_101)
    have g_b_101 : n0 ≤ b_101 := Nat.le_trans Zp99 ns_b_101
    have Zp101 : n0 ≤ T101.heap.size := Nat.le_trans Zp99 Kq101.1
    show own_G p e below Φ T101 (mkF m 272 #[.val (.int p0), .val (.int p1), .val (.int p2), .val (.int p3), .val (.int p4), .val (.int (4 : Int32)), .val (.int x6_15), .val (.int x7_23), .val (.int x8_34), .val (.int x9_43), .val (.int x10_54), .val (.int x11_63), .val (.int x12_75), .val (.int x13_84), .val (.ref ob5), .val (.ref ob87), .val (.int (x11_63 + (1 : Int32))), .val (.ref ob92), .unset] [(.ref b_101)])
    refine own_go (fun _ => XS.astore X101.here hx rfl (hb hby at_272) rfl rfl (l' := #[.val (.int p0), .val (.int p1), .val (.int p2), .val (.int p3), .val (.int p4), .val (.int (4 : Int32)), .val (.int x6_15), .val (.int x7_23), .val (.int x8_34), .val (.int x9_43), .val (.int x10_54), .val (.int x11_63), .val (.int x12_75), .val (.int x13_84), .val (.ref ob5), .val (.ref ob87), .val (.int (x11_63 + (1 : Int32))), .val (.ref ob92), .val (.ref b_101)]) rfl) ?_
    show own_G p e below Φ T101 (mkF m 274 #[.val (.int p0), .val (.int p1), .val (.int p2), .val (.int p3), .val (.int p4), .val (.int (4 : Int32)), .val (.int x6_15), .val (.int x7_23), .val (.int x8_34), .val (.int x9_43), .val (.int x10_54), .val (.int x11_63), .val (.int x12_75), .val (.int x13_84), .val (.ref ob5), .val (.ref ob87), .val (.int (x11_63 + (1 : Int32))), .val (.ref ob92), .val (.ref b_101)] [])
    refine own_go (fun _ => XS.aload X101.here hx rfl (hb hby at_274) rfl rfl) ?_
    show own_G p e below Φ T101 (mkF m 276 #[.val (.int p0), .val (.int p1), .val (.int p2), .val (.int p3), .val (.int p4), .val (.int (4 : Int32)), .val (.int x6_15), .val (.int x7_23), .val (.int x8_34), .val (.int x9_43), .val (.int x10_54), .val (.int x11_63), .val (.int x12_75), .val (.int x13_84), .val (.ref ob5), .val (.ref ob87), .val (.int (x11_63 + (1 : Int32))), .val (.ref ob92), .val (.ref b_101)] [(.ref b_101)])
    refine own_go (fun _ => XS.ifnullNo X101.here hx rfl (hb hby at_276) rfl) ?_
    show own_G p e below Φ T101 (mkF m 279 #[.val (.int p0), .val (.int p1), .val (.int p2), .val (.int p3), .val (.int p4), .val (.int (4 : Int32)), .val (.int x6_15), .val (.int x7_23), .val (.int x8_34), .val (.int x9_43), .val (.int x10_54), .val (.int x11_63), .val (.int x12_75), .val (.int x13_84), .val (.ref ob5), .val (.ref ob87), .val (.int (x11_63 + (1 : Int32))), .val (.ref ob92), .val (.ref b_101)] [])
    refine own_go (fun _ => XS.aload X101.here hx rfl (hb hby at_279) rfl rfl) ?_
    show own_G p e below Φ T101 (mkF m 281 #[.val (.int p0), .val (.int p1), .val (.int p2), .val (.int p3), .val (.int p4), .val (.int (4 : Int32)), .val (.int x6_15), .val (.int x7_23), .val (.int x8_34), .val (.int x9_43), .val (.int x10_54), .val (.int x11_63), .val (.int x12_75), .val (.int x13_84), .val (.ref ob5), .val (.ref ob87), .val (.int (x11_63 + (1 : Int32))), .val (.ref ob92), .val (.ref b_101)] [(.ref b_101)])
    obtain ⟨cl104, Ar104, q104, S104, M104, H104, G104⟩ := id p101_0
    refine own_go (fun _ => X101.arraylength hx Ar104.1 (State.isArrayOf_alike hZ.alike Ar104.2.1) (g := (mkF m 281 #[.val (.int p0), .val (.int p1), .val (.int p2), .val (.int p3), .val (.int p4), .val (.int (4 : Int32)), .val (.int x6_15), .val (.int x7_23), .val (.int x8_34), .val (.int x9_43), .val (.int x10_54), .val (.int x11_63), .val (.int x12_75), .val (.int x13_84), .val (.ref ob5), .val (.ref ob87), .val (.int (x11_63 + (1 : Int32))), .val (.ref ob92), .val (.ref b_101)] [(.ref b_101)])) rfl rfl (hb hby at_281) _) ?_
    rw [len_of S104 M104]
    show own_G p e below Φ T101 (mkF m 282 #[.val (.int p0), .val (.int p1), .val (.int p2), .val (.int p3), .val (.int p4), .val (.int (4 : Int32)), .val (.int x6_15), .val (.int x7_23), .val (.int x8_34), .val (.int x9_43), .val (.int x10_54), .val (.int x11_63), .val (.int x12_75), .val (.int x13_84), .val (.ref ob5), .val (.ref ob87), .val (.int (x11_63 + (1 : Int32))), .val (.ref ob92), .val (.ref b_101)] [(.int (own_max (own_max (own_max (own_max (0 : Int32) ((0 : Int32) + (1 : Int32))) (x6_15 + (1 : Int32))) (x8_34 + (1 : Int32))) (x10_54 + (1 : Int32))))])
    refine own_go (fun _ => XS.iload X101.here hx rfl (hb hby at_282) rfl) ?_
    show own_G p e below Φ T101 (mkF m 284 #[.val (.int p0), .val (.int p1), .val (.int p2), .val (.int p3), .val (.int p4), .val (.int (4 : Int32)), .val (.int x6_15), .val (.int x7_23), .val (.int x8_34), .val (.int x9_43), .val (.int x10_54), .val (.int x11_63), .val (.int x12_75), .val (.int x13_84), .val (.ref ob5), .val (.ref ob87), .val (.int (x11_63 + (1 : Int32))), .val (.ref ob92), .val (.ref b_101)] [(.int (x11_63 + (1 : Int32))), (.int (own_max (own_max (own_max (own_max (0 : Int32) ((0 : Int32) + (1 : Int32))) (x6_15 + (1 : Int32))) (x8_34 + (1 : Int32))) (x10_54 + (1 : Int32))))])
    refine own_go (fun _ => XS.icmpYes X101.here hx rfl (pc0 := 284) (pc' := 289) rfl (hb hby at_284) rfl (Jvm.Free.XT.ii_eq_t (own_use (P := fun t => (own_max (own_max (own_max (own_max (0 : Int32) ((0 : Int32) + (1 : Int32))) (t.1 + (1 : Int32))) (t.2.2.1 + (1 : Int32))) (t.2.2.2.2.1 + (1 : Int32))) = (t.2.2.2.2.2.1 + (1 : Int32))) (by decide +kernel) hall)) (by decide) (by decide)) ?_
    show own_G p e below Φ T101 (mkF m 289 #[.val (.int p0), .val (.int p1), .val (.int p2), .val (.int p3), .val (.int p4), .val (.int (4 : Int32)), .val (.int x6_15), .val (.int x7_23), .val (.int x8_34), .val (.int x9_43), .val (.int x10_54), .val (.int x11_63), .val (.int x12_75), .val (.int x13_84), .val (.ref ob5), .val (.ref ob87), .val (.int (x11_63 + (1 : Int32))), .val (.ref ob92), .val (.ref b_101)] [])
    refine own_go (fun _ => XS.aload X101.here hx rfl (hb hby at_289) rfl rfl) ?_
    show own_G p e below Φ T101 (mkF m 291 #[.val (.int p0), .val (.int p1), .val (.int p2), .val (.int p3), .val (.int p4), .val (.int (4 : Int32)), .val (.int x6_15), .val (.int x7_23), .val (.int x8_34), .val (.int x9_43), .val (.int x10_54), .val (.int x11_63), .val (.int x12_75), .val (.int x13_84), .val (.ref ob5), .val (.ref ob87), .val (.int (x11_63 + (1 : Int32))), .val (.ref ob92), .val (.ref b_101)] [(.ref b_101)])
    refine own_go (fun _ => XS.aload X101.here hx rfl (hb hby at_291) rfl rfl) ?_
    show own_G p e below Φ T101 (mkF m 293 #[.val (.int p0), .val (.int p1), .val (.int p2), .val (.int p3), .val (.int p4), .val (.int (4 : Int32)), .val (.int x6_15), .val (.int x7_23), .val (.int x8_34), .val (.int x9_43), .val (.int x10_54), .val (.int x11_63), .val (.int x12_75), .val (.int x13_84), .val (.ref ob5), .val (.ref ob87), .val (.int (x11_63 + (1 : Int32))), .val (.ref ob92), .val (.ref b_101)] [(.ref ob5), (.ref b_101)])
    refine own_go (fun _ => XS.iload X101.here hx rfl (hb hby at_293) rfl) ?_
    show own_G p e below Φ T101 (mkF m 295 #[.val (.int p0), .val (.int p1), .val (.int p2), .val (.int p3), .val (.int p4), .val (.int (4 : Int32)), .val (.int x6_15), .val (.int x7_23), .val (.int x8_34), .val (.int x9_43), .val (.int x10_54), .val (.int x11_63), .val (.int x12_75), .val (.int x13_84), .val (.ref ob5), .val (.ref ob87), .val (.int (x11_63 + (1 : Int32))), .val (.ref ob92), .val (.ref b_101)] [(.int (4 : Int32)), (.ref ob5), (.ref b_101)])
    refine own_go (fun _ => XS.iconst X101.here hx rfl (hb hby at_295)) ?_
    show own_G p e below Φ T101 (mkF m 296 #[.val (.int p0), .val (.int p1), .val (.int p2), .val (.int p3), .val (.int p4), .val (.int (4 : Int32)), .val (.int x6_15), .val (.int x7_23), .val (.int x8_34), .val (.int x9_43), .val (.int x10_54), .val (.int x11_63), .val (.int x12_75), .val (.int x13_84), .val (.ref ob5), .val (.ref ob87), .val (.int (x11_63 + (1 : Int32))), .val (.ref ob92), .val (.ref b_101)] [(.int (0 : Int32)), (.int (4 : Int32)), (.ref ob5), (.ref b_101)])
    have f105 : Arv Z T101.heap ob5 ka5 .int (5 : Int32) [(.int (0 : Int32)), (.int x6_15), (.int x8_34), (.int x10_54), (.int x12_75)] (.int (0 : Int32)) := f103.keep Kq101 nin0
    obtain ⟨_, _, ⟨T106, zL106, zk106, zn106⟩, -, X106, ⟨Lc106, hQ106, l106, y106, z106⟩, st106⟩ := Jvm.LawKit.callS X101 hx (y := (⟨"com/example/edgewarden/edgewarden/graph/LikenessGetFirstMembersPinLaw", "ok", "([I[III)Z"⟩ : MethodName)) hown (mvT hZ (wd_24 hw)) (mvT hZ (wd_25 hw)) (mvT hZ (wd_26 hw)) (mvT hZ (wd_27 hw)) (by decide) (backOf (W := 0) (rmK l Z a0 hw [] b_101 ob5 kb_101 ka5 (own_max (own_max (own_max (own_max (0 : Int32) ((0 : Int32) + (1 : Int32))) (x6_15 + (1 : Int32))) (x8_34 + (1 : Int32))) (x10_54 + (1 : Int32))) (own_put (own_put (own_put (own_put (own_zeros (own_max (own_max (own_max (own_max (0 : Int32) ((0 : Int32) + (1 : Int32))) (x6_15 + (1 : Int32))) (x8_34 + (1 : Int32))) (x10_54 + (1 : Int32)))) x10_54 (3 : Int32)) x8_34 (2 : Int32)) x6_15 (1 : Int32)) (0 : Int32) (0 : Int32)) (4 : Int32) (0 : Int32) (0 : Int32) x6_15 x8_34 x10_54 x12_75 T101.heap n0 Zp101 p101_0 f105 (by decide) (own_use (P := fun t => (0 : Int32) < (own_max (own_max (own_max (own_max (0 : Int32) ((0 : Int32) + (1 : Int32))) (t.1 + (1 : Int32))) (t.2.2.1 + (1 : Int32))) (t.2.2.2.2.1 + (1 : Int32))) → ((own_put (own_put (own_put (own_put (own_zeros (own_max (own_max (own_max (own_max (0 : Int32) ((0 : Int32) + (1 : Int32))) (t.1 + (1 : Int32))) (t.2.2.1 + (1 : Int32))) (t.2.2.2.2.1 + (1 : Int32)))) t.2.2.2.2.1 (3 : Int32)) t.2.2.1 (2 : Int32)) t.1 (1 : Int32)) (0 : Int32) (0 : Int32))).getD ((0 : Int32)).toNatClampNeg 0 = own_first (0 : Int32) t.1 t.2.2.1 t.2.2.2.2.1 t.2.2.2.2.2.2.1 (4 : Int32) (0 : Int32)) (by decide +kernel) hall)) hZ (wd_27 hw) (wd_26 hw) (by decide) (by decide)) (g := (mkF m 296 #[.val (.int p0), .val (.int p1), .val (.int p2), .val (.int p3), .val (.int p4), .val (.int (4 : Int32)), .val (.int x6_15), .val (.int x7_23), .val (.int x8_34), .val (.int x9_43), .val (.int x10_54), .val (.int x11_63), .val (.int x12_75), .val (.int x13_84), .val (.ref ob5), .val (.ref ob87), .val (.int (x11_63 + (1 : Int32))), .val (.ref ob92), .val (.ref b_101)] [(.int (0 : Int32)), (.int (4 : Int32)), (.ref ob5), (.ref b_101)])) rfl (by rw [hml]; rfl) (argsL := [(.ref b_101), (.ref ob5), (.int (4 : Int32)), (.int (0 : Int32))]) (rest := []) (lenOf pd_4 rfl) rfl (by show 2 * 0 + _ ≤ _; exact Nat.le_of_eq rfl) (hb hby at_296) (fun _ _ => ⟨rfl, rfl, (by decide : 4 + 0 ≤ _), (by decide : 16 + 0 ≤ _)⟩)
    dsimp only [Pt.U, Pt.locs, Pt.cells, Pt.slots] at X106 l106 y106 z106 st106 hQ106
    subst l106 y106 z106
    obtain ⟨rfl, N106q, hs106⟩ := hQ106
    have N106 := Fr.app N101 N106q
    refine own_go st106 ?_
    show own_G p e below Φ T106 (mkF m 299 #[.val (.int p0), .val (.int p1), .val (.int p2), .val (.int p3), .val (.int p4), .val (.int (4 : Int32)), .val (.int x6_15), .val (.int x7_23), .val (.int x8_34), .val (.int x9_43), .val (.int x10_54), .val (.int x11_63), .val (.int x12_75), .val (.int x13_84), .val (.ref ob5), .val (.ref ob87), .val (.int (x11_63 + (1 : Int32))), .val (.ref ob92), .val (.ref b_101)] [(.int (1 : Int32))])
    refine own_go (fun _ => XS.ifNo X106.here hx rfl (hb hby at_299) rfl (Jvm.Free.XT.i0_eq_f (by decide : ¬ ((1 : Int32) = (0 : Int32))))) ?_
    show own_G p e below Φ T106 (mkF m 302 #[.val (.int p0), .val (.int p1), .val (.int p2), .val (.int p3), .val (.int p4), .val (.int (4 : Int32)), .val (.int x6_15), .val (.int x7_23), .val (.int x8_34), .val (.int x9_43), .val (.int x10_54), .val (.int x11_63), .val (.int x12_75), .val (.int x13_84), .val (.ref ob5), .val (.ref ob87), .val (.int (x11_63 + (1 : Int32))), .val (.ref ob92), .val (.ref b_101)] [])
    refine own_go (fun _ => XS.aload X106.here hx rfl (hb hby at_302) rfl rfl) ?_
    show own_G p e below Φ T106 (mkF m 304 #[.val (.int p0), .val (.int p1), .val (.int p2), .val (.int p3), .val (.int p4), .val (.int (4 : Int32)), .val (.int x6_15), .val (.int x7_23), .val (.int x8_34), .val (.int x9_43), .val (.int x10_54), .val (.int x11_63), .val (.int x12_75), .val (.int x13_84), .val (.ref ob5), .val (.ref ob87), .val (.int (x11_63 + (1 : Int32))), .val (.ref ob92), .val (.ref b_101)] [(.ref b_101)])
    refine own_go (fun _ => XS.aload X106.here hx rfl (hb hby at_304) rfl rfl) ?_
    show own_G p e below Φ T106 (mkF m 306 #[.val (.int p0), .val (.int p1), .val (.int p2), .val (.int p3), .val (.int p4), .val (.int (4 : Int32)), .val (.int x6_15), .val (.int x7_23), .val (.int x8_34), .val (.int x9_43), .val (.int x10_54), .val (.int x11_63), .val (.int x12_75), .val (.int x13_84), .val (.ref ob5), .val (.ref ob87), .val (.int (x11_63 + (1 : Int32))), .val (.ref ob92), .val (.ref b_101)] [(.ref ob5), (.ref b_101)])
    refine own_go (fun _ => XS.iload X106.here hx rfl (hb hby at_306) rfl) ?_
    show own_G p e below Φ T106 (mkF m 308 #[.val (.int p0), .val (.int p1), .val (.int p2), .val (.int p3), .val (.int p4), .val (.int (4 : Int32)), .val (.int x6_15), .val (.int x7_23), .val (.int x8_34), .val (.int x9_43), .val (.int x10_54), .val (.int x11_63), .val (.int x12_75), .val (.int x13_84), .val (.ref ob5), .val (.ref ob87), .val (.int (x11_63 + (1 : Int32))), .val (.ref ob92), .val (.ref b_101)] [(.int (4 : Int32)), (.ref ob5), (.ref b_101)])
    refine own_go (fun _ => XS.iconst X106.here hx rfl (hb hby at_308)) ?_
    show own_G p e below Φ T106 (mkF m 309 #[.val (.int p0), .val (.int p1), .val (.int p2), .val (.int p3), .val (.int p4), .val (.int (4 : Int32)), .val (.int x6_15), .val (.int x7_23), .val (.int x8_34), .val (.int x9_43), .val (.int x10_54), .val (.int x11_63), .val (.int x12_75), .val (.int x13_84), .val (.ref ob5), .val (.ref ob87), .val (.int (x11_63 + (1 : Int32))), .val (.ref ob92), .val (.ref b_101)] [(.int (1 : Int32)), (.int (4 : Int32)), (.ref ob5), (.ref b_101)])
    obtain ⟨_, _, ⟨T107, zL107, zk107, zn107⟩, -, X107, ⟨Lc107, hQ107, l107, y107, z107⟩, st107⟩ := Jvm.LawKit.callS X106 hx (y := (⟨"com/example/edgewarden/edgewarden/graph/LikenessGetFirstMembersPinLaw", "ok", "([I[III)Z"⟩ : MethodName)) hown (mvT hZ (wd_24 hw)) (mvT hZ (wd_25 hw)) (mvT hZ (wd_26 hw)) (mvT hZ (wd_27 hw)) (by decide) (backOf (W := 0) (rmK l Z a0 hw [] b_101 ob5 kb_101 ka5 (own_max (own_max (own_max (own_max (0 : Int32) ((0 : Int32) + (1 : Int32))) (x6_15 + (1 : Int32))) (x8_34 + (1 : Int32))) (x10_54 + (1 : Int32))) (own_put (own_put (own_put (own_put (own_zeros (own_max (own_max (own_max (own_max (0 : Int32) ((0 : Int32) + (1 : Int32))) (x6_15 + (1 : Int32))) (x8_34 + (1 : Int32))) (x10_54 + (1 : Int32)))) x10_54 (3 : Int32)) x8_34 (2 : Int32)) x6_15 (1 : Int32)) (0 : Int32) (0 : Int32)) (4 : Int32) (1 : Int32) (0 : Int32) x6_15 x8_34 x10_54 x12_75 T101.heap n0 Zp101 p101_0 f105 (by decide) (own_use (P := fun t => (1 : Int32) < (own_max (own_max (own_max (own_max (0 : Int32) ((0 : Int32) + (1 : Int32))) (t.1 + (1 : Int32))) (t.2.2.1 + (1 : Int32))) (t.2.2.2.2.1 + (1 : Int32))) → ((own_put (own_put (own_put (own_put (own_zeros (own_max (own_max (own_max (own_max (0 : Int32) ((0 : Int32) + (1 : Int32))) (t.1 + (1 : Int32))) (t.2.2.1 + (1 : Int32))) (t.2.2.2.2.1 + (1 : Int32)))) t.2.2.2.2.1 (3 : Int32)) t.2.2.1 (2 : Int32)) t.1 (1 : Int32)) (0 : Int32) (0 : Int32))).getD ((1 : Int32)).toNatClampNeg 0 = own_first (0 : Int32) t.1 t.2.2.1 t.2.2.2.2.1 t.2.2.2.2.2.2.1 (4 : Int32) (1 : Int32)) (by decide +kernel) hall)) hZ (wd_27 hw) (wd_26 hw) (by decide) (by decide)) (g := (mkF m 309 #[.val (.int p0), .val (.int p1), .val (.int p2), .val (.int p3), .val (.int p4), .val (.int (4 : Int32)), .val (.int x6_15), .val (.int x7_23), .val (.int x8_34), .val (.int x9_43), .val (.int x10_54), .val (.int x11_63), .val (.int x12_75), .val (.int x13_84), .val (.ref ob5), .val (.ref ob87), .val (.int (x11_63 + (1 : Int32))), .val (.ref ob92), .val (.ref b_101)] [(.int (1 : Int32)), (.int (4 : Int32)), (.ref ob5), (.ref b_101)])) rfl (by rw [hml]; rfl) (argsL := [(.ref b_101), (.ref ob5), (.int (4 : Int32)), (.int (1 : Int32))]) (rest := []) (lenOf pd_4 rfl) rfl (by show 2 * 0 + _ ≤ _; exact Nat.le_of_eq rfl) (hb hby at_309) (fun _ _ => ⟨rfl, hs106, (by decide : 4 + 0 ≤ _), (by decide : 16 + 0 ≤ _)⟩)
    dsimp only [Pt.U, Pt.locs, Pt.cells, Pt.slots] at X107 l107 y107 z107 st107 hQ107
    subst l107 y107 z107
    obtain ⟨rfl, N107q, hs107⟩ := hQ107
    have N107 := Fr.app N106 N107q
    refine own_go st107 ?_
    show own_G p e below Φ T107 (mkF m 312 #[.val (.int p0), .val (.int p1), .val (.int p2), .val (.int p3), .val (.int p4), .val (.int (4 : Int32)), .val (.int x6_15), .val (.int x7_23), .val (.int x8_34), .val (.int x9_43), .val (.int x10_54), .val (.int x11_63), .val (.int x12_75), .val (.int x13_84), .val (.ref ob5), .val (.ref ob87), .val (.int (x11_63 + (1 : Int32))), .val (.ref ob92), .val (.ref b_101)] [(.int (1 : Int32))])
    refine own_go (fun _ => XS.ifNo X107.here hx rfl (hb hby at_312) rfl (Jvm.Free.XT.i0_eq_f (by decide : ¬ ((1 : Int32) = (0 : Int32))))) ?_
    show own_G p e below Φ T107 (mkF m 315 #[.val (.int p0), .val (.int p1), .val (.int p2), .val (.int p3), .val (.int p4), .val (.int (4 : Int32)), .val (.int x6_15), .val (.int x7_23), .val (.int x8_34), .val (.int x9_43), .val (.int x10_54), .val (.int x11_63), .val (.int x12_75), .val (.int x13_84), .val (.ref ob5), .val (.ref ob87), .val (.int (x11_63 + (1 : Int32))), .val (.ref ob92), .val (.ref b_101)] [])
    refine own_go (fun _ => XS.aload X107.here hx rfl (hb hby at_315) rfl rfl) ?_
    show own_G p e below Φ T107 (mkF m 317 #[.val (.int p0), .val (.int p1), .val (.int p2), .val (.int p3), .val (.int p4), .val (.int (4 : Int32)), .val (.int x6_15), .val (.int x7_23), .val (.int x8_34), .val (.int x9_43), .val (.int x10_54), .val (.int x11_63), .val (.int x12_75), .val (.int x13_84), .val (.ref ob5), .val (.ref ob87), .val (.int (x11_63 + (1 : Int32))), .val (.ref ob92), .val (.ref b_101)] [(.ref b_101)])
    refine own_go (fun _ => XS.aload X107.here hx rfl (hb hby at_317) rfl rfl) ?_
    show own_G p e below Φ T107 (mkF m 319 #[.val (.int p0), .val (.int p1), .val (.int p2), .val (.int p3), .val (.int p4), .val (.int (4 : Int32)), .val (.int x6_15), .val (.int x7_23), .val (.int x8_34), .val (.int x9_43), .val (.int x10_54), .val (.int x11_63), .val (.int x12_75), .val (.int x13_84), .val (.ref ob5), .val (.ref ob87), .val (.int (x11_63 + (1 : Int32))), .val (.ref ob92), .val (.ref b_101)] [(.ref ob5), (.ref b_101)])
    refine own_go (fun _ => XS.iload X107.here hx rfl (hb hby at_319) rfl) ?_
    show own_G p e below Φ T107 (mkF m 321 #[.val (.int p0), .val (.int p1), .val (.int p2), .val (.int p3), .val (.int p4), .val (.int (4 : Int32)), .val (.int x6_15), .val (.int x7_23), .val (.int x8_34), .val (.int x9_43), .val (.int x10_54), .val (.int x11_63), .val (.int x12_75), .val (.int x13_84), .val (.ref ob5), .val (.ref ob87), .val (.int (x11_63 + (1 : Int32))), .val (.ref ob92), .val (.ref b_101)] [(.int (4 : Int32)), (.ref ob5), (.ref b_101)])
    refine own_go (fun _ => XS.iconst X107.here hx rfl (hb hby at_321)) ?_
    show own_G p e below Φ T107 (mkF m 322 #[.val (.int p0), .val (.int p1), .val (.int p2), .val (.int p3), .val (.int p4), .val (.int (4 : Int32)), .val (.int x6_15), .val (.int x7_23), .val (.int x8_34), .val (.int x9_43), .val (.int x10_54), .val (.int x11_63), .val (.int x12_75), .val (.int x13_84), .val (.ref ob5), .val (.ref ob87), .val (.int (x11_63 + (1 : Int32))), .val (.ref ob92), .val (.ref b_101)] [(.int (2 : Int32)), (.int (4 : Int32)), (.ref ob5), (.ref b_101)])
    obtain ⟨_, _, ⟨T108, zL108, zk108, zn108⟩, -, X108, ⟨Lc108, hQ108, l108, y108, z108⟩, st108⟩ := Jvm.LawKit.callS X107 hx (y := (⟨"com/example/edgewarden/edgewarden/graph/LikenessGetFirstMembersPinLaw", "ok", "([I[III)Z"⟩ : MethodName)) hown (mvT hZ (wd_24 hw)) (mvT hZ (wd_25 hw)) (mvT hZ (wd_26 hw)) (mvT hZ (wd_27 hw)) (by decide) (backOf (W := 0) (rmK l Z a0 hw [] b_101 ob5 kb_101 ka5 (own_max (own_max (own_max (own_max (0 : Int32) ((0 : Int32) + (1 : Int32))) (x6_15 + (1 : Int32))) (x8_34 + (1 : Int32))) (x10_54 + (1 : Int32))) (own_put (own_put (own_put (own_put (own_zeros (own_max (own_max (own_max (own_max (0 : Int32) ((0 : Int32) + (1 : Int32))) (x6_15 + (1 : Int32))) (x8_34 + (1 : Int32))) (x10_54 + (1 : Int32)))) x10_54 (3 : Int32)) x8_34 (2 : Int32)) x6_15 (1 : Int32)) (0 : Int32) (0 : Int32)) (4 : Int32) (2 : Int32) (0 : Int32) x6_15 x8_34 x10_54 x12_75 T101.heap n0 Zp101 p101_0 f105 (by decide) (own_use (P := fun t => (2 : Int32) < (own_max (own_max (own_max (own_max (0 : Int32) ((0 : Int32) + (1 : Int32))) (t.1 + (1 : Int32))) (t.2.2.1 + (1 : Int32))) (t.2.2.2.2.1 + (1 : Int32))) → ((own_put (own_put (own_put (own_put (own_zeros (own_max (own_max (own_max (own_max (0 : Int32) ((0 : Int32) + (1 : Int32))) (t.1 + (1 : Int32))) (t.2.2.1 + (1 : Int32))) (t.2.2.2.2.1 + (1 : Int32)))) t.2.2.2.2.1 (3 : Int32)) t.2.2.1 (2 : Int32)) t.1 (1 : Int32)) (0 : Int32) (0 : Int32))).getD ((2 : Int32)).toNatClampNeg 0 = own_first (0 : Int32) t.1 t.2.2.1 t.2.2.2.2.1 t.2.2.2.2.2.2.1 (4 : Int32) (2 : Int32)) (by decide +kernel) hall)) hZ (wd_27 hw) (wd_26 hw) (by decide) (by decide)) (g := (mkF m 322 #[.val (.int p0), .val (.int p1), .val (.int p2), .val (.int p3), .val (.int p4), .val (.int (4 : Int32)), .val (.int x6_15), .val (.int x7_23), .val (.int x8_34), .val (.int x9_43), .val (.int x10_54), .val (.int x11_63), .val (.int x12_75), .val (.int x13_84), .val (.ref ob5), .val (.ref ob87), .val (.int (x11_63 + (1 : Int32))), .val (.ref ob92), .val (.ref b_101)] [(.int (2 : Int32)), (.int (4 : Int32)), (.ref ob5), (.ref b_101)])) rfl (by rw [hml]; rfl) (argsL := [(.ref b_101), (.ref ob5), (.int (4 : Int32)), (.int (2 : Int32))]) (rest := []) (lenOf pd_4 rfl) rfl (by show 2 * 0 + _ ≤ _; exact Nat.le_of_eq rfl) (hb hby at_322) (fun _ _ => ⟨rfl, hs107, (by decide : 4 + 0 ≤ _), (by decide : 16 + 0 ≤ _)⟩)
    dsimp only [Pt.U, Pt.locs, Pt.cells, Pt.slots] at X108 l108 y108 z108 st108 hQ108
    subst l108 y108 z108
    obtain ⟨rfl, N108q, hs108⟩ := hQ108
    have N108 := Fr.app N107 N108q
    refine own_go st108 ?_
    show own_G p e below Φ T108 (mkF m 325 #[.val (.int p0), .val (.int p1), .val (.int p2), .val (.int p3), .val (.int p4), .val (.int (4 : Int32)), .val (.int x6_15), .val (.int x7_23), .val (.int x8_34), .val (.int x9_43), .val (.int x10_54), .val (.int x11_63), .val (.int x12_75), .val (.int x13_84), .val (.ref ob5), .val (.ref ob87), .val (.int (x11_63 + (1 : Int32))), .val (.ref ob92), .val (.ref b_101)] [(.int (1 : Int32))])
    refine own_go (fun _ => XS.ifNo X108.here hx rfl (hb hby at_325) rfl (Jvm.Free.XT.i0_eq_f (by decide : ¬ ((1 : Int32) = (0 : Int32))))) ?_
    show own_G p e below Φ T108 (mkF m 328 #[.val (.int p0), .val (.int p1), .val (.int p2), .val (.int p3), .val (.int p4), .val (.int (4 : Int32)), .val (.int x6_15), .val (.int x7_23), .val (.int x8_34), .val (.int x9_43), .val (.int x10_54), .val (.int x11_63), .val (.int x12_75), .val (.int x13_84), .val (.ref ob5), .val (.ref ob87), .val (.int (x11_63 + (1 : Int32))), .val (.ref ob92), .val (.ref b_101)] [])
    refine own_go (fun _ => XS.aload X108.here hx rfl (hb hby at_328) rfl rfl) ?_
    show own_G p e below Φ T108 (mkF m 330 #[.val (.int p0), .val (.int p1), .val (.int p2), .val (.int p3), .val (.int p4), .val (.int (4 : Int32)), .val (.int x6_15), .val (.int x7_23), .val (.int x8_34), .val (.int x9_43), .val (.int x10_54), .val (.int x11_63), .val (.int x12_75), .val (.int x13_84), .val (.ref ob5), .val (.ref ob87), .val (.int (x11_63 + (1 : Int32))), .val (.ref ob92), .val (.ref b_101)] [(.ref b_101)])
    refine own_go (fun _ => XS.aload X108.here hx rfl (hb hby at_330) rfl rfl) ?_
    show own_G p e below Φ T108 (mkF m 332 #[.val (.int p0), .val (.int p1), .val (.int p2), .val (.int p3), .val (.int p4), .val (.int (4 : Int32)), .val (.int x6_15), .val (.int x7_23), .val (.int x8_34), .val (.int x9_43), .val (.int x10_54), .val (.int x11_63), .val (.int x12_75), .val (.int x13_84), .val (.ref ob5), .val (.ref ob87), .val (.int (x11_63 + (1 : Int32))), .val (.ref ob92), .val (.ref b_101)] [(.ref ob5), (.ref b_101)])
    refine own_go (fun _ => XS.iload X108.here hx rfl (hb hby at_332) rfl) ?_
    show own_G p e below Φ T108 (mkF m 334 #[.val (.int p0), .val (.int p1), .val (.int p2), .val (.int p3), .val (.int p4), .val (.int (4 : Int32)), .val (.int x6_15), .val (.int x7_23), .val (.int x8_34), .val (.int x9_43), .val (.int x10_54), .val (.int x11_63), .val (.int x12_75), .val (.int x13_84), .val (.ref ob5), .val (.ref ob87), .val (.int (x11_63 + (1 : Int32))), .val (.ref ob92), .val (.ref b_101)] [(.int (4 : Int32)), (.ref ob5), (.ref b_101)])
    refine own_go (fun _ => XS.iconst X108.here hx rfl (hb hby at_334)) ?_
    show own_G p e below Φ T108 (mkF m 335 #[.val (.int p0), .val (.int p1), .val (.int p2), .val (.int p3), .val (.int p4), .val (.int (4 : Int32)), .val (.int x6_15), .val (.int x7_23), .val (.int x8_34), .val (.int x9_43), .val (.int x10_54), .val (.int x11_63), .val (.int x12_75), .val (.int x13_84), .val (.ref ob5), .val (.ref ob87), .val (.int (x11_63 + (1 : Int32))), .val (.ref ob92), .val (.ref b_101)] [(.int (3 : Int32)), (.int (4 : Int32)), (.ref ob5), (.ref b_101)])
    obtain ⟨_, _, ⟨T109, zL109, zk109, zn109⟩, -, X109, ⟨Lc109, hQ109, l109, y109, z109⟩, st109⟩ := Jvm.LawKit.callS X108 hx (y := (⟨"com/example/edgewarden/edgewarden/graph/LikenessGetFirstMembersPinLaw", "ok", "([I[III)Z"⟩ : MethodName)) hown (mvT hZ (wd_24 hw)) (mvT hZ (wd_25 hw)) (mvT hZ (wd_26 hw)) (mvT hZ (wd_27 hw)) (by decide) (backOf (W := 0) (rmK l Z a0 hw [] b_101 ob5 kb_101 ka5 (own_max (own_max (own_max (own_max (0 : Int32) ((0 : Int32) + (1 : Int32))) (x6_15 + (1 : Int32))) (x8_34 + (1 : Int32))) (x10_54 + (1 : Int32))) (own_put (own_put (own_put (own_put (own_zeros (own_max (own_max (own_max (own_max (0 : Int32) ((0 : Int32) + (1 : Int32))) (x6_15 + (1 : Int32))) (x8_34 + (1 : Int32))) (x10_54 + (1 : Int32)))) x10_54 (3 : Int32)) x8_34 (2 : Int32)) x6_15 (1 : Int32)) (0 : Int32) (0 : Int32)) (4 : Int32) (3 : Int32) (0 : Int32) x6_15 x8_34 x10_54 x12_75 T101.heap n0 Zp101 p101_0 f105 (by decide) (own_use (P := fun t => (3 : Int32) < (own_max (own_max (own_max (own_max (0 : Int32) ((0 : Int32) + (1 : Int32))) (t.1 + (1 : Int32))) (t.2.2.1 + (1 : Int32))) (t.2.2.2.2.1 + (1 : Int32))) → ((own_put (own_put (own_put (own_put (own_zeros (own_max (own_max (own_max (own_max (0 : Int32) ((0 : Int32) + (1 : Int32))) (t.1 + (1 : Int32))) (t.2.2.1 + (1 : Int32))) (t.2.2.2.2.1 + (1 : Int32)))) t.2.2.2.2.1 (3 : Int32)) t.2.2.1 (2 : Int32)) t.1 (1 : Int32)) (0 : Int32) (0 : Int32))).getD ((3 : Int32)).toNatClampNeg 0 = own_first (0 : Int32) t.1 t.2.2.1 t.2.2.2.2.1 t.2.2.2.2.2.2.1 (4 : Int32) (3 : Int32)) (by decide +kernel) hall)) hZ (wd_27 hw) (wd_26 hw) (by decide) (by decide)) (g := (mkF m 335 #[.val (.int p0), .val (.int p1), .val (.int p2), .val (.int p3), .val (.int p4), .val (.int (4 : Int32)), .val (.int x6_15), .val (.int x7_23), .val (.int x8_34), .val (.int x9_43), .val (.int x10_54), .val (.int x11_63), .val (.int x12_75), .val (.int x13_84), .val (.ref ob5), .val (.ref ob87), .val (.int (x11_63 + (1 : Int32))), .val (.ref ob92), .val (.ref b_101)] [(.int (3 : Int32)), (.int (4 : Int32)), (.ref ob5), (.ref b_101)])) rfl (by rw [hml]; rfl) (argsL := [(.ref b_101), (.ref ob5), (.int (4 : Int32)), (.int (3 : Int32))]) (rest := []) (lenOf pd_4 rfl) rfl (by show 2 * 0 + _ ≤ _; exact Nat.le_of_eq rfl) (hb hby at_335) (fun _ _ => ⟨rfl, hs108, (by decide : 4 + 0 ≤ _), (by decide : 16 + 0 ≤ _)⟩)
    dsimp only [Pt.U, Pt.locs, Pt.cells, Pt.slots] at X109 l109 y109 z109 st109 hQ109
    subst l109 y109 z109
    obtain ⟨rfl, N109q, hs109⟩ := hQ109
    have N109 := Fr.app N108 N109q
    refine own_go st109 ?_
    show own_G p e below Φ T109 (mkF m 338 #[.val (.int p0), .val (.int p1), .val (.int p2), .val (.int p3), .val (.int p4), .val (.int (4 : Int32)), .val (.int x6_15), .val (.int x7_23), .val (.int x8_34), .val (.int x9_43), .val (.int x10_54), .val (.int x11_63), .val (.int x12_75), .val (.int x13_84), .val (.ref ob5), .val (.ref ob87), .val (.int (x11_63 + (1 : Int32))), .val (.ref ob92), .val (.ref b_101)] [(.int (1 : Int32))])
    refine own_go (fun _ => XS.ifNo X109.here hx rfl (hb hby at_338) rfl (Jvm.Free.XT.i0_eq_f (by decide : ¬ ((1 : Int32) = (0 : Int32))))) ?_
    show own_G p e below Φ T109 (mkF m 341 #[.val (.int p0), .val (.int p1), .val (.int p2), .val (.int p3), .val (.int p4), .val (.int (4 : Int32)), .val (.int x6_15), .val (.int x7_23), .val (.int x8_34), .val (.int x9_43), .val (.int x10_54), .val (.int x11_63), .val (.int x12_75), .val (.int x13_84), .val (.ref ob5), .val (.ref ob87), .val (.int (x11_63 + (1 : Int32))), .val (.ref ob92), .val (.ref b_101)] [])
    refine own_go (fun _ => XS.aload X109.here hx rfl (hb hby at_341) rfl rfl) ?_
    show own_G p e below Φ T109 (mkF m 343 #[.val (.int p0), .val (.int p1), .val (.int p2), .val (.int p3), .val (.int p4), .val (.int (4 : Int32)), .val (.int x6_15), .val (.int x7_23), .val (.int x8_34), .val (.int x9_43), .val (.int x10_54), .val (.int x11_63), .val (.int x12_75), .val (.int x13_84), .val (.ref ob5), .val (.ref ob87), .val (.int (x11_63 + (1 : Int32))), .val (.ref ob92), .val (.ref b_101)] [(.ref b_101)])
    refine own_go (fun _ => XS.aload X109.here hx rfl (hb hby at_343) rfl rfl) ?_
    show own_G p e below Φ T109 (mkF m 345 #[.val (.int p0), .val (.int p1), .val (.int p2), .val (.int p3), .val (.int p4), .val (.int (4 : Int32)), .val (.int x6_15), .val (.int x7_23), .val (.int x8_34), .val (.int x9_43), .val (.int x10_54), .val (.int x11_63), .val (.int x12_75), .val (.int x13_84), .val (.ref ob5), .val (.ref ob87), .val (.int (x11_63 + (1 : Int32))), .val (.ref ob92), .val (.ref b_101)] [(.ref ob5), (.ref b_101)])
    refine own_go (fun _ => XS.iload X109.here hx rfl (hb hby at_345) rfl) ?_
    show own_G p e below Φ T109 (mkF m 347 #[.val (.int p0), .val (.int p1), .val (.int p2), .val (.int p3), .val (.int p4), .val (.int (4 : Int32)), .val (.int x6_15), .val (.int x7_23), .val (.int x8_34), .val (.int x9_43), .val (.int x10_54), .val (.int x11_63), .val (.int x12_75), .val (.int x13_84), .val (.ref ob5), .val (.ref ob87), .val (.int (x11_63 + (1 : Int32))), .val (.ref ob92), .val (.ref b_101)] [(.int (4 : Int32)), (.ref ob5), (.ref b_101)])
    refine own_go (fun _ => XS.iconst X109.here hx rfl (hb hby at_347)) ?_
    show own_G p e below Φ T109 (mkF m 348 #[.val (.int p0), .val (.int p1), .val (.int p2), .val (.int p3), .val (.int p4), .val (.int (4 : Int32)), .val (.int x6_15), .val (.int x7_23), .val (.int x8_34), .val (.int x9_43), .val (.int x10_54), .val (.int x11_63), .val (.int x12_75), .val (.int x13_84), .val (.ref ob5), .val (.ref ob87), .val (.int (x11_63 + (1 : Int32))), .val (.ref ob92), .val (.ref b_101)] [(.int (4 : Int32)), (.int (4 : Int32)), (.ref ob5), (.ref b_101)])
    obtain ⟨_, _, ⟨T110, zL110, zk110, zn110⟩, -, X110, ⟨Lc110, hQ110, l110, y110, z110⟩, st110⟩ := Jvm.LawKit.callS X109 hx (y := (⟨"com/example/edgewarden/edgewarden/graph/LikenessGetFirstMembersPinLaw", "ok", "([I[III)Z"⟩ : MethodName)) hown (mvT hZ (wd_24 hw)) (mvT hZ (wd_25 hw)) (mvT hZ (wd_26 hw)) (mvT hZ (wd_27 hw)) (by decide) (backOf (W := 0) (rmK l Z a0 hw [] b_101 ob5 kb_101 ka5 (own_max (own_max (own_max (own_max (0 : Int32) ((0 : Int32) + (1 : Int32))) (x6_15 + (1 : Int32))) (x8_34 + (1 : Int32))) (x10_54 + (1 : Int32))) (own_put (own_put (own_put (own_put (own_zeros (own_max (own_max (own_max (own_max (0 : Int32) ((0 : Int32) + (1 : Int32))) (x6_15 + (1 : Int32))) (x8_34 + (1 : Int32))) (x10_54 + (1 : Int32)))) x10_54 (3 : Int32)) x8_34 (2 : Int32)) x6_15 (1 : Int32)) (0 : Int32) (0 : Int32)) (4 : Int32) (4 : Int32) (0 : Int32) x6_15 x8_34 x10_54 x12_75 T101.heap n0 Zp101 p101_0 f105 (by decide) (own_use (P := fun t => (4 : Int32) < (own_max (own_max (own_max (own_max (0 : Int32) ((0 : Int32) + (1 : Int32))) (t.1 + (1 : Int32))) (t.2.2.1 + (1 : Int32))) (t.2.2.2.2.1 + (1 : Int32))) → ((own_put (own_put (own_put (own_put (own_zeros (own_max (own_max (own_max (own_max (0 : Int32) ((0 : Int32) + (1 : Int32))) (t.1 + (1 : Int32))) (t.2.2.1 + (1 : Int32))) (t.2.2.2.2.1 + (1 : Int32)))) t.2.2.2.2.1 (3 : Int32)) t.2.2.1 (2 : Int32)) t.1 (1 : Int32)) (0 : Int32) (0 : Int32))).getD ((4 : Int32)).toNatClampNeg 0 = own_first (0 : Int32) t.1 t.2.2.1 t.2.2.2.2.1 t.2.2.2.2.2.2.1 (4 : Int32) (4 : Int32)) (by decide +kernel) hall)) hZ (wd_27 hw) (wd_26 hw) (by decide) (by decide)) (g := (mkF m 348 #[.val (.int p0), .val (.int p1), .val (.int p2), .val (.int p3), .val (.int p4), .val (.int (4 : Int32)), .val (.int x6_15), .val (.int x7_23), .val (.int x8_34), .val (.int x9_43), .val (.int x10_54), .val (.int x11_63), .val (.int x12_75), .val (.int x13_84), .val (.ref ob5), .val (.ref ob87), .val (.int (x11_63 + (1 : Int32))), .val (.ref ob92), .val (.ref b_101)] [(.int (4 : Int32)), (.int (4 : Int32)), (.ref ob5), (.ref b_101)])) rfl (by rw [hml]; rfl) (argsL := [(.ref b_101), (.ref ob5), (.int (4 : Int32)), (.int (4 : Int32))]) (rest := []) (lenOf pd_4 rfl) rfl (by show 2 * 0 + _ ≤ _; exact Nat.le_of_eq rfl) (hb hby at_348) (fun _ _ => ⟨rfl, hs109, (by decide : 4 + 0 ≤ _), (by decide : 16 + 0 ≤ _)⟩)
    dsimp only [Pt.U, Pt.locs, Pt.cells, Pt.slots] at X110 l110 y110 z110 st110 hQ110
    subst l110 y110 z110
    obtain ⟨rfl, N110q, hs110⟩ := hQ110
    have N110 := Fr.app N109 N110q
    refine own_go st110 ?_
    show own_G p e below Φ T110 (mkF m 351 #[.val (.int p0), .val (.int p1), .val (.int p2), .val (.int p3), .val (.int p4), .val (.int (4 : Int32)), .val (.int x6_15), .val (.int x7_23), .val (.int x8_34), .val (.int x9_43), .val (.int x10_54), .val (.int x11_63), .val (.int x12_75), .val (.int x13_84), .val (.ref ob5), .val (.ref ob87), .val (.int (x11_63 + (1 : Int32))), .val (.ref ob92), .val (.ref b_101)] [(.int (1 : Int32))])
    refine own_go (fun _ => XS.ifNo X110.here hx rfl (hb hby at_351) rfl (Jvm.Free.XT.i0_eq_f (by decide : ¬ ((1 : Int32) = (0 : Int32))))) ?_
    show own_G p e below Φ T110 (mkF m 354 #[.val (.int p0), .val (.int p1), .val (.int p2), .val (.int p3), .val (.int p4), .val (.int (4 : Int32)), .val (.int x6_15), .val (.int x7_23), .val (.int x8_34), .val (.int x9_43), .val (.int x10_54), .val (.int x11_63), .val (.int x12_75), .val (.int x13_84), .val (.ref ob5), .val (.ref ob87), .val (.int (x11_63 + (1 : Int32))), .val (.ref ob92), .val (.ref b_101)] [])
    refine own_go (fun _ => XS.iconst X110.here hx rfl (hb hby at_354)) ?_
    show own_G p e below Φ T110 (mkF m 355 #[.val (.int p0), .val (.int p1), .val (.int p2), .val (.int p3), .val (.int p4), .val (.int (4 : Int32)), .val (.int x6_15), .val (.int x7_23), .val (.int x8_34), .val (.int x9_43), .val (.int x10_54), .val (.int x11_63), .val (.int x12_75), .val (.int x13_84), .val (.ref ob5), .val (.ref ob87), .val (.int (x11_63 + (1 : Int32))), .val (.ref ob92), .val (.ref b_101)] [(.int (1 : Int32))])
    refine own_go (fun _ => XS.goto X110.here hx rfl (pc0 := 355) (pc' := 359) rfl (hb hby at_355) (by decide) (by decide)) ?_
    show own_G p e below Φ T110 (mkF m 359 #[.val (.int p0), .val (.int p1), .val (.int p2), .val (.int p3), .val (.int p4), .val (.int (4 : Int32)), .val (.int x6_15), .val (.int x7_23), .val (.int x8_34), .val (.int x9_43), .val (.int x10_54), .val (.int x11_63), .val (.int x12_75), .val (.int x13_84), .val (.ref ob5), .val (.ref ob87), .val (.int (x11_63 + (1 : Int32))), .val (.ref ob92), .val (.ref b_101)] [(.int (1 : Int32))])
    rw [hΦ]
    refine own_ret X110 (v := some (.int (1 : Int32))) (fun h => by rw [Bd.returns] at h; cases h) (BodyLoose.notSynchronized Bd) (fun fs hr => retN X110 hx (t := .boolean) Bd.returns (by simp) (hb hby at_359) hr) ?_ (by decide) (by decide)
    rw [hs110]
    exact ⟨rfl, N110⟩
  · show own_G p e below Φ T10 (mkF m 120 #[.val (.int p0), .val (.int p1), .val (.int p2), .val (.int p3), .val (.int p4), .val (.int (5 : Int32)), .val (.int x6_15), .val (.int x7_23), .val (.int x8_34), .val (.int x9_43), .val (.int x10_54), .val (.int x11_63), .val (.int x12_75), .val (.int x13_84), .val (.ref ob5), .unset, .unset, .unset, .unset] [])
    refine own_go (fun _ => XS.iload X10.here hx rfl (hb hby at_120) rfl) ?_
    show own_G p e below Φ T10 (mkF m 122 #[.val (.int p0), .val (.int p1), .val (.int p2), .val (.int p3), .val (.int p4), .val (.int (5 : Int32)), .val (.int x6_15), .val (.int x7_23), .val (.int x8_34), .val (.int x9_43), .val (.int x10_54), .val (.int x11_63), .val (.int x12_75), .val (.int x13_84), .val (.ref ob5), .unset, .unset, .unset, .unset] [(.int (5 : Int32))])
    obtain ⟨T111, h111, ka111, X111, e111, E111, A111, st111⟩ := newP (aty := .int) X10 hx hZ (wd_5 hw) e10 (g := (mkF m 122 #[.val (.int p0), .val (.int p1), .val (.int p2), .val (.int p3), .val (.int p4), .val (.int (5 : Int32)), .val (.int x6_15), .val (.int x7_23), .val (.int x8_34), .val (.int x9_43), .val (.int x10_54), .val (.int x11_63), .val (.int x12_75), .val (.int x13_84), .val (.ref ob5), .unset, .unset, .unset, .unset] [(.int (5 : Int32))])) rfl (hb hby at_122) rfl (by decide) (cap := 5) (by decide) (by decide) (by decide) (by decide)
    obtain ⟨ob111, g111⟩ : ∃ z, z = h10.size := ⟨_, rfl⟩
    rw [← g111] at A111 st111
    have ne_ob5_ob111 : ob5 ≠ ob111 := Nat.ne_of_lt (Nat.lt_of_lt_of_le V10.lt (Nat.le_of_eq g111.symm))
    have V111 : Arv Z h111 ob111 ka111 .int (5 : Int32) [(.int (0 : Int32)), (.int (0 : Int32)), (.int (0 : Int32)), (.int (0 : Int32)), (.int (0 : Int32))] (.int (0 : Int32)) := (Arv.new A111 (by decide)).pad (pad_rep [] (.int (0 : Int32)) 5)
    have g_ob111 : n0 ≤ ob111 := Nat.le_trans Zp10 (Nat.le_of_eq g111.symm)
    have Zp111 : n0 ≤ h111.size := Nat.le_trans Zp10 E111.1
    refine own_go st111 ?_
    show own_G p e below Φ T111 (mkF m 124 #[.val (.int p0), .val (.int p1), .val (.int p2), .val (.int p3), .val (.int p4), .val (.int (5 : Int32)), .val (.int x6_15), .val (.int x7_23), .val (.int x8_34), .val (.int x9_43), .val (.int x10_54), .val (.int x11_63), .val (.int x12_75), .val (.int x13_84), .val (.ref ob5), .unset, .unset, .unset, .unset] [(.ref ob111)])
    refine own_go (fun _ => XS.astore X111.here hx rfl (hb hby at_124) rfl rfl (l' := #[.val (.int p0), .val (.int p1), .val (.int p2), .val (.int p3), .val (.int p4), .val (.int (5 : Int32)), .val (.int x6_15), .val (.int x7_23), .val (.int x8_34), .val (.int x9_43), .val (.int x10_54), .val (.int x11_63), .val (.int x12_75), .val (.int x13_84), .val (.ref ob5), .val (.ref ob111), .unset, .unset, .unset]) rfl) ?_
    show own_G p e below Φ T111 (mkF m 126 #[.val (.int p0), .val (.int p1), .val (.int p2), .val (.int p3), .val (.int p4), .val (.int (5 : Int32)), .val (.int x6_15), .val (.int x7_23), .val (.int x8_34), .val (.int x9_43), .val (.int x10_54), .val (.int x11_63), .val (.int x12_75), .val (.int x13_84), .val (.ref ob5), .val (.ref ob111), .unset, .unset, .unset] [])
    refine own_go (fun _ => XS.iload X111.here hx rfl (hb hby at_126) rfl) ?_
    show own_G p e below Φ T111 (mkF m 128 #[.val (.int p0), .val (.int p1), .val (.int p2), .val (.int p3), .val (.int p4), .val (.int (5 : Int32)), .val (.int x6_15), .val (.int x7_23), .val (.int x8_34), .val (.int x9_43), .val (.int x10_54), .val (.int x11_63), .val (.int x12_75), .val (.int x13_84), .val (.ref ob5), .val (.ref ob111), .unset, .unset, .unset] [(.int (5 : Int32))])
    refine own_go (fun _ => XS.ifNo X111.here hx rfl (hb hby at_128) rfl (Jvm.Free.XT.i0_le_f (by decide : ((0 : Int32) < (5 : Int32))))) ?_
    show own_G p e below Φ T111 (mkF m 131 #[.val (.int p0), .val (.int p1), .val (.int p2), .val (.int p3), .val (.int p4), .val (.int (5 : Int32)), .val (.int x6_15), .val (.int x7_23), .val (.int x8_34), .val (.int x9_43), .val (.int x10_54), .val (.int x11_63), .val (.int x12_75), .val (.int x13_84), .val (.ref ob5), .val (.ref ob111), .unset, .unset, .unset] [])
    refine own_go (fun _ => XS.aload X111.here hx rfl (hb hby at_131) rfl rfl) ?_
    show own_G p e below Φ T111 (mkF m 133 #[.val (.int p0), .val (.int p1), .val (.int p2), .val (.int p3), .val (.int p4), .val (.int (5 : Int32)), .val (.int x6_15), .val (.int x7_23), .val (.int x8_34), .val (.int x9_43), .val (.int x10_54), .val (.int x11_63), .val (.int x12_75), .val (.int x13_84), .val (.ref ob5), .val (.ref ob111), .unset, .unset, .unset] [(.ref ob111)])
    refine own_go (fun _ => XS.iconst X111.here hx rfl (hb hby at_133)) ?_
    show own_G p e below Φ T111 (mkF m 134 #[.val (.int p0), .val (.int p1), .val (.int p2), .val (.int p3), .val (.int p4), .val (.int (5 : Int32)), .val (.int x6_15), .val (.int x7_23), .val (.int x8_34), .val (.int x9_43), .val (.int x10_54), .val (.int x11_63), .val (.int x12_75), .val (.int x13_84), .val (.ref ob5), .val (.ref ob111), .unset, .unset, .unset] [(.int (0 : Int32)), (.ref ob111)])
    refine own_go (fun _ => XS.iconst X111.here hx rfl (hb hby at_134)) ?_
    show own_G p e below Φ T111 (mkF m 135 #[.val (.int p0), .val (.int p1), .val (.int p2), .val (.int p3), .val (.int p4), .val (.int (5 : Int32)), .val (.int x6_15), .val (.int x7_23), .val (.int x8_34), .val (.int x9_43), .val (.int x10_54), .val (.int x11_63), .val (.int x12_75), .val (.int x13_84), .val (.ref ob5), .val (.ref ob111), .unset, .unset, .unset] [(.int (0 : Int32)), (.int (0 : Int32)), (.ref ob111)])
    obtain ⟨cl112, Ar112, q112, S112, M112, H112, G112⟩ := id V111
    have hin112 : ¬ ((0 : Int32) < 0 ∨ cl112.slots.size ≤ ((0 : Int32)).toNatClampNeg) := inb_of S112 ⟨by decide, by decide⟩
    obtain ⟨T112, h112, X112, e112, W112, st112⟩ := stI X111 hx hZ e111 Ar112 (j := (0 : Int32)) hin112 (g := (mkF m 135 #[.val (.int p0), .val (.int p1), .val (.int p2), .val (.int p3), .val (.int p4), .val (.int (5 : Int32)), .val (.int x6_15), .val (.int x7_23), .val (.int x8_34), .val (.int x9_43), .val (.int x10_54), .val (.int x11_63), .val (.int x12_75), .val (.int x13_84), .val (.ref ob5), .val (.ref ob111), .unset, .unset, .unset] [(.int (0 : Int32)), (.int (0 : Int32)), (.ref ob111)])) rfl rfl (hb hby at_135)
    refine own_go st112 ?_
    have V112 : Arv Z h112 ob111 ka111 .int (5 : Int32) [(.int (0 : Int32)), (.int (0 : Int32)), (.int (0 : Int32)), (.int (0 : Int32)), (.int (0 : Int32))] (.int (0 : Int32)) := Arv.set Ar112 q112 S112 M112 H112 G112 rfl W112 0 rfl (Nat.le_of_ble_eq_true rfl)
    have N112 := Fr.snoc X112 N10 g_ob111
    have Zp112 : n0 ≤ h112.size := Nat.le_trans Zp111 (Keep.of_wr W112).1
    show own_G p e below Φ T112 (mkF m 136 #[.val (.int p0), .val (.int p1), .val (.int p2), .val (.int p3), .val (.int p4), .val (.int (5 : Int32)), .val (.int x6_15), .val (.int x7_23), .val (.int x8_34), .val (.int x9_43), .val (.int x10_54), .val (.int x11_63), .val (.int x12_75), .val (.int x13_84), .val (.ref ob5), .val (.ref ob111), .unset, .unset, .unset] [])
    refine own_go (fun _ => XS.iload X112.here hx rfl (hb hby at_136) rfl) ?_
    show own_G p e below Φ T112 (mkF m 138 #[.val (.int p0), .val (.int p1), .val (.int p2), .val (.int p3), .val (.int p4), .val (.int (5 : Int32)), .val (.int x6_15), .val (.int x7_23), .val (.int x8_34), .val (.int x9_43), .val (.int x10_54), .val (.int x11_63), .val (.int x12_75), .val (.int x13_84), .val (.ref ob5), .val (.ref ob111), .unset, .unset, .unset] [(.int (5 : Int32))])
    refine own_go (fun _ => XS.iconst X112.here hx rfl (hb hby at_138)) ?_
    show own_G p e below Φ T112 (mkF m 139 #[.val (.int p0), .val (.int p1), .val (.int p2), .val (.int p3), .val (.int p4), .val (.int (5 : Int32)), .val (.int x6_15), .val (.int x7_23), .val (.int x8_34), .val (.int x9_43), .val (.int x10_54), .val (.int x11_63), .val (.int x12_75), .val (.int x13_84), .val (.ref ob5), .val (.ref ob111), .unset, .unset, .unset] [(.int (1 : Int32)), (.int (5 : Int32))])
    refine own_go (fun _ => XS.icmpNo X112.here hx rfl (hb hby at_139) rfl (Jvm.Free.XT.ii_le_f (by decide : ((1 : Int32) < (5 : Int32))))) ?_
    show own_G p e below Φ T112 (mkF m 142 #[.val (.int p0), .val (.int p1), .val (.int p2), .val (.int p3), .val (.int p4), .val (.int (5 : Int32)), .val (.int x6_15), .val (.int x7_23), .val (.int x8_34), .val (.int x9_43), .val (.int x10_54), .val (.int x11_63), .val (.int x12_75), .val (.int x13_84), .val (.ref ob5), .val (.ref ob111), .unset, .unset, .unset] [])
    refine own_go (fun _ => XS.aload X112.here hx rfl (hb hby at_142) rfl rfl) ?_
    show own_G p e below Φ T112 (mkF m 144 #[.val (.int p0), .val (.int p1), .val (.int p2), .val (.int p3), .val (.int p4), .val (.int (5 : Int32)), .val (.int x6_15), .val (.int x7_23), .val (.int x8_34), .val (.int x9_43), .val (.int x10_54), .val (.int x11_63), .val (.int x12_75), .val (.int x13_84), .val (.ref ob5), .val (.ref ob111), .unset, .unset, .unset] [(.ref ob111)])
    refine own_go (fun _ => XS.iconst X112.here hx rfl (hb hby at_144)) ?_
    show own_G p e below Φ T112 (mkF m 145 #[.val (.int p0), .val (.int p1), .val (.int p2), .val (.int p3), .val (.int p4), .val (.int (5 : Int32)), .val (.int x6_15), .val (.int x7_23), .val (.int x8_34), .val (.int x9_43), .val (.int x10_54), .val (.int x11_63), .val (.int x12_75), .val (.int x13_84), .val (.ref ob5), .val (.ref ob111), .unset, .unset, .unset] [(.int (1 : Int32)), (.ref ob111)])
    refine own_go (fun _ => XS.iload X112.here hx rfl (hb hby at_145) rfl) ?_
    show own_G p e below Φ T112 (mkF m 147 #[.val (.int p0), .val (.int p1), .val (.int p2), .val (.int p3), .val (.int p4), .val (.int (5 : Int32)), .val (.int x6_15), .val (.int x7_23), .val (.int x8_34), .val (.int x9_43), .val (.int x10_54), .val (.int x11_63), .val (.int x12_75), .val (.int x13_84), .val (.ref ob5), .val (.ref ob111), .unset, .unset, .unset] [(.int x6_15), (.int (1 : Int32)), (.ref ob111)])
    obtain ⟨cl113, Ar113, q113, S113, M113, H113, G113⟩ := id V112
    have hin113 : ¬ ((1 : Int32) < 0 ∨ cl113.slots.size ≤ ((1 : Int32)).toNatClampNeg) := inb_of S113 ⟨by decide, by decide⟩
    obtain ⟨T113, h113, X113, e113, W113, st113⟩ := stI X112 hx hZ e112 Ar113 (j := (1 : Int32)) hin113 (g := (mkF m 147 #[.val (.int p0), .val (.int p1), .val (.int p2), .val (.int p3), .val (.int p4), .val (.int (5 : Int32)), .val (.int x6_15), .val (.int x7_23), .val (.int x8_34), .val (.int x9_43), .val (.int x10_54), .val (.int x11_63), .val (.int x12_75), .val (.int x13_84), .val (.ref ob5), .val (.ref ob111), .unset, .unset, .unset] [(.int x6_15), (.int (1 : Int32)), (.ref ob111)])) rfl rfl (hb hby at_147)
    refine own_go st113 ?_
    have V113 : Arv Z h113 ob111 ka111 .int (5 : Int32) [(.int (0 : Int32)), (.int x6_15), (.int (0 : Int32)), (.int (0 : Int32)), (.int (0 : Int32))] (.int (0 : Int32)) := Arv.set Ar113 q113 S113 M113 H113 G113 rfl W113 1 rfl (Nat.le_of_ble_eq_true rfl)
    have N113 := Fr.snoc X113 N112 g_ob111
    have Zp113 : n0 ≤ h113.size := Nat.le_trans Zp112 (Keep.of_wr W113).1
    show own_G p e below Φ T113 (mkF m 148 #[.val (.int p0), .val (.int p1), .val (.int p2), .val (.int p3), .val (.int p4), .val (.int (5 : Int32)), .val (.int x6_15), .val (.int x7_23), .val (.int x8_34), .val (.int x9_43), .val (.int x10_54), .val (.int x11_63), .val (.int x12_75), .val (.int x13_84), .val (.ref ob5), .val (.ref ob111), .unset, .unset, .unset] [])
    refine own_go (fun _ => XS.iload X113.here hx rfl (hb hby at_148) rfl) ?_
    show own_G p e below Φ T113 (mkF m 150 #[.val (.int p0), .val (.int p1), .val (.int p2), .val (.int p3), .val (.int p4), .val (.int (5 : Int32)), .val (.int x6_15), .val (.int x7_23), .val (.int x8_34), .val (.int x9_43), .val (.int x10_54), .val (.int x11_63), .val (.int x12_75), .val (.int x13_84), .val (.ref ob5), .val (.ref ob111), .unset, .unset, .unset] [(.int (5 : Int32))])
    refine own_go (fun _ => XS.iconst X113.here hx rfl (hb hby at_150)) ?_
    show own_G p e below Φ T113 (mkF m 151 #[.val (.int p0), .val (.int p1), .val (.int p2), .val (.int p3), .val (.int p4), .val (.int (5 : Int32)), .val (.int x6_15), .val (.int x7_23), .val (.int x8_34), .val (.int x9_43), .val (.int x10_54), .val (.int x11_63), .val (.int x12_75), .val (.int x13_84), .val (.ref ob5), .val (.ref ob111), .unset, .unset, .unset] [(.int (2 : Int32)), (.int (5 : Int32))])
    refine own_go (fun _ => XS.icmpNo X113.here hx rfl (hb hby at_151) rfl (Jvm.Free.XT.ii_le_f (by decide : ((2 : Int32) < (5 : Int32))))) ?_
    show own_G p e below Φ T113 (mkF m 154 #[.val (.int p0), .val (.int p1), .val (.int p2), .val (.int p3), .val (.int p4), .val (.int (5 : Int32)), .val (.int x6_15), .val (.int x7_23), .val (.int x8_34), .val (.int x9_43), .val (.int x10_54), .val (.int x11_63), .val (.int x12_75), .val (.int x13_84), .val (.ref ob5), .val (.ref ob111), .unset, .unset, .unset] [])
    refine own_go (fun _ => XS.aload X113.here hx rfl (hb hby at_154) rfl rfl) ?_
    show own_G p e below Φ T113 (mkF m 156 #[.val (.int p0), .val (.int p1), .val (.int p2), .val (.int p3), .val (.int p4), .val (.int (5 : Int32)), .val (.int x6_15), .val (.int x7_23), .val (.int x8_34), .val (.int x9_43), .val (.int x10_54), .val (.int x11_63), .val (.int x12_75), .val (.int x13_84), .val (.ref ob5), .val (.ref ob111), .unset, .unset, .unset] [(.ref ob111)])
    refine own_go (fun _ => XS.iconst X113.here hx rfl (hb hby at_156)) ?_
    show own_G p e below Φ T113 (mkF m 157 #[.val (.int p0), .val (.int p1), .val (.int p2), .val (.int p3), .val (.int p4), .val (.int (5 : Int32)), .val (.int x6_15), .val (.int x7_23), .val (.int x8_34), .val (.int x9_43), .val (.int x10_54), .val (.int x11_63), .val (.int x12_75), .val (.int x13_84), .val (.ref ob5), .val (.ref ob111), .unset, .unset, .unset] [(.int (2 : Int32)), (.ref ob111)])
    refine own_go (fun _ => XS.iload X113.here hx rfl (hb hby at_157) rfl) ?_
    show own_G p e below Φ T113 (mkF m 159 #[.val (.int p0), .val (.int p1), .val (.int p2), .val (.int p3), .val (.int p4), .val (.int (5 : Int32)), .val (.int x6_15), .val (.int x7_23), .val (.int x8_34), .val (.int x9_43), .val (.int x10_54), .val (.int x11_63), .val (.int x12_75), .val (.int x13_84), .val (.ref ob5), .val (.ref ob111), .unset, .unset, .unset] [(.int x8_34), (.int (2 : Int32)), (.ref ob111)])
    obtain ⟨cl114, Ar114, q114, S114, M114, H114, G114⟩ := id V113
    have hin114 : ¬ ((2 : Int32) < 0 ∨ cl114.slots.size ≤ ((2 : Int32)).toNatClampNeg) := inb_of S114 ⟨by decide, by decide⟩
    obtain ⟨T114, h114, X114, e114, W114, st114⟩ := stI X113 hx hZ e113 Ar114 (j := (2 : Int32)) hin114 (g := (mkF m 159 #[.val (.int p0), .val (.int p1), .val (.int p2), .val (.int p3), .val (.int p4), .val (.int (5 : Int32)), .val (.int x6_15), .val (.int x7_23), .val (.int x8_34), .val (.int x9_43), .val (.int x10_54), .val (.int x11_63), .val (.int x12_75), .val (.int x13_84), .val (.ref ob5), .val (.ref ob111), .unset, .unset, .unset] [(.int x8_34), (.int (2 : Int32)), (.ref ob111)])) rfl rfl (hb hby at_159)
    refine own_go st114 ?_
    have V114 : Arv Z h114 ob111 ka111 .int (5 : Int32) [(.int (0 : Int32)), (.int x6_15), (.int x8_34), (.int (0 : Int32)), (.int (0 : Int32))] (.int (0 : Int32)) := Arv.set Ar114 q114 S114 M114 H114 G114 rfl W114 2 rfl (Nat.le_of_ble_eq_true rfl)
    have N114 := Fr.snoc X114 N113 g_ob111
    have Zp114 : n0 ≤ h114.size := Nat.le_trans Zp113 (Keep.of_wr W114).1
    show own_G p e below Φ T114 (mkF m 160 #[.val (.int p0), .val (.int p1), .val (.int p2), .val (.int p3), .val (.int p4), .val (.int (5 : Int32)), .val (.int x6_15), .val (.int x7_23), .val (.int x8_34), .val (.int x9_43), .val (.int x10_54), .val (.int x11_63), .val (.int x12_75), .val (.int x13_84), .val (.ref ob5), .val (.ref ob111), .unset, .unset, .unset] [])
    refine own_go (fun _ => XS.iload X114.here hx rfl (hb hby at_160) rfl) ?_
    show own_G p e below Φ T114 (mkF m 162 #[.val (.int p0), .val (.int p1), .val (.int p2), .val (.int p3), .val (.int p4), .val (.int (5 : Int32)), .val (.int x6_15), .val (.int x7_23), .val (.int x8_34), .val (.int x9_43), .val (.int x10_54), .val (.int x11_63), .val (.int x12_75), .val (.int x13_84), .val (.ref ob5), .val (.ref ob111), .unset, .unset, .unset] [(.int (5 : Int32))])
    refine own_go (fun _ => XS.iconst X114.here hx rfl (hb hby at_162)) ?_
    show own_G p e below Φ T114 (mkF m 163 #[.val (.int p0), .val (.int p1), .val (.int p2), .val (.int p3), .val (.int p4), .val (.int (5 : Int32)), .val (.int x6_15), .val (.int x7_23), .val (.int x8_34), .val (.int x9_43), .val (.int x10_54), .val (.int x11_63), .val (.int x12_75), .val (.int x13_84), .val (.ref ob5), .val (.ref ob111), .unset, .unset, .unset] [(.int (3 : Int32)), (.int (5 : Int32))])
    refine own_go (fun _ => XS.icmpNo X114.here hx rfl (hb hby at_163) rfl (Jvm.Free.XT.ii_le_f (by decide : ((3 : Int32) < (5 : Int32))))) ?_
    show own_G p e below Φ T114 (mkF m 166 #[.val (.int p0), .val (.int p1), .val (.int p2), .val (.int p3), .val (.int p4), .val (.int (5 : Int32)), .val (.int x6_15), .val (.int x7_23), .val (.int x8_34), .val (.int x9_43), .val (.int x10_54), .val (.int x11_63), .val (.int x12_75), .val (.int x13_84), .val (.ref ob5), .val (.ref ob111), .unset, .unset, .unset] [])
    refine own_go (fun _ => XS.aload X114.here hx rfl (hb hby at_166) rfl rfl) ?_
    show own_G p e below Φ T114 (mkF m 168 #[.val (.int p0), .val (.int p1), .val (.int p2), .val (.int p3), .val (.int p4), .val (.int (5 : Int32)), .val (.int x6_15), .val (.int x7_23), .val (.int x8_34), .val (.int x9_43), .val (.int x10_54), .val (.int x11_63), .val (.int x12_75), .val (.int x13_84), .val (.ref ob5), .val (.ref ob111), .unset, .unset, .unset] [(.ref ob111)])
    refine own_go (fun _ => XS.iconst X114.here hx rfl (hb hby at_168)) ?_
    show own_G p e below Φ T114 (mkF m 169 #[.val (.int p0), .val (.int p1), .val (.int p2), .val (.int p3), .val (.int p4), .val (.int (5 : Int32)), .val (.int x6_15), .val (.int x7_23), .val (.int x8_34), .val (.int x9_43), .val (.int x10_54), .val (.int x11_63), .val (.int x12_75), .val (.int x13_84), .val (.ref ob5), .val (.ref ob111), .unset, .unset, .unset] [(.int (3 : Int32)), (.ref ob111)])
    refine own_go (fun _ => XS.iload X114.here hx rfl (hb hby at_169) rfl) ?_
    show own_G p e below Φ T114 (mkF m 171 #[.val (.int p0), .val (.int p1), .val (.int p2), .val (.int p3), .val (.int p4), .val (.int (5 : Int32)), .val (.int x6_15), .val (.int x7_23), .val (.int x8_34), .val (.int x9_43), .val (.int x10_54), .val (.int x11_63), .val (.int x12_75), .val (.int x13_84), .val (.ref ob5), .val (.ref ob111), .unset, .unset, .unset] [(.int x10_54), (.int (3 : Int32)), (.ref ob111)])
    obtain ⟨cl115, Ar115, q115, S115, M115, H115, G115⟩ := id V114
    have hin115 : ¬ ((3 : Int32) < 0 ∨ cl115.slots.size ≤ ((3 : Int32)).toNatClampNeg) := inb_of S115 ⟨by decide, by decide⟩
    obtain ⟨T115, h115, X115, e115, W115, st115⟩ := stI X114 hx hZ e114 Ar115 (j := (3 : Int32)) hin115 (g := (mkF m 171 #[.val (.int p0), .val (.int p1), .val (.int p2), .val (.int p3), .val (.int p4), .val (.int (5 : Int32)), .val (.int x6_15), .val (.int x7_23), .val (.int x8_34), .val (.int x9_43), .val (.int x10_54), .val (.int x11_63), .val (.int x12_75), .val (.int x13_84), .val (.ref ob5), .val (.ref ob111), .unset, .unset, .unset] [(.int x10_54), (.int (3 : Int32)), (.ref ob111)])) rfl rfl (hb hby at_171)
    refine own_go st115 ?_
    have V115 : Arv Z h115 ob111 ka111 .int (5 : Int32) [(.int (0 : Int32)), (.int x6_15), (.int x8_34), (.int x10_54), (.int (0 : Int32))] (.int (0 : Int32)) := Arv.set Ar115 q115 S115 M115 H115 G115 rfl W115 3 rfl (Nat.le_of_ble_eq_true rfl)
    have N115 := Fr.snoc X115 N114 g_ob111
    have Zp115 : n0 ≤ h115.size := Nat.le_trans Zp114 (Keep.of_wr W115).1
    show own_G p e below Φ T115 (mkF m 172 #[.val (.int p0), .val (.int p1), .val (.int p2), .val (.int p3), .val (.int p4), .val (.int (5 : Int32)), .val (.int x6_15), .val (.int x7_23), .val (.int x8_34), .val (.int x9_43), .val (.int x10_54), .val (.int x11_63), .val (.int x12_75), .val (.int x13_84), .val (.ref ob5), .val (.ref ob111), .unset, .unset, .unset] [])
    refine own_go (fun _ => XS.iload X115.here hx rfl (hb hby at_172) rfl) ?_
    show own_G p e below Φ T115 (mkF m 174 #[.val (.int p0), .val (.int p1), .val (.int p2), .val (.int p3), .val (.int p4), .val (.int (5 : Int32)), .val (.int x6_15), .val (.int x7_23), .val (.int x8_34), .val (.int x9_43), .val (.int x10_54), .val (.int x11_63), .val (.int x12_75), .val (.int x13_84), .val (.ref ob5), .val (.ref ob111), .unset, .unset, .unset] [(.int (5 : Int32))])
    refine own_go (fun _ => XS.iconst X115.here hx rfl (hb hby at_174)) ?_
    show own_G p e below Φ T115 (mkF m 175 #[.val (.int p0), .val (.int p1), .val (.int p2), .val (.int p3), .val (.int p4), .val (.int (5 : Int32)), .val (.int x6_15), .val (.int x7_23), .val (.int x8_34), .val (.int x9_43), .val (.int x10_54), .val (.int x11_63), .val (.int x12_75), .val (.int x13_84), .val (.ref ob5), .val (.ref ob111), .unset, .unset, .unset] [(.int (4 : Int32)), (.int (5 : Int32))])
    refine own_go (fun _ => XS.icmpNo X115.here hx rfl (hb hby at_175) rfl (Jvm.Free.XT.ii_le_f (by decide : ((4 : Int32) < (5 : Int32))))) ?_
    show own_G p e below Φ T115 (mkF m 178 #[.val (.int p0), .val (.int p1), .val (.int p2), .val (.int p3), .val (.int p4), .val (.int (5 : Int32)), .val (.int x6_15), .val (.int x7_23), .val (.int x8_34), .val (.int x9_43), .val (.int x10_54), .val (.int x11_63), .val (.int x12_75), .val (.int x13_84), .val (.ref ob5), .val (.ref ob111), .unset, .unset, .unset] [])
    refine own_go (fun _ => XS.aload X115.here hx rfl (hb hby at_178) rfl rfl) ?_
    show own_G p e below Φ T115 (mkF m 180 #[.val (.int p0), .val (.int p1), .val (.int p2), .val (.int p3), .val (.int p4), .val (.int (5 : Int32)), .val (.int x6_15), .val (.int x7_23), .val (.int x8_34), .val (.int x9_43), .val (.int x10_54), .val (.int x11_63), .val (.int x12_75), .val (.int x13_84), .val (.ref ob5), .val (.ref ob111), .unset, .unset, .unset] [(.ref ob111)])
    refine own_go (fun _ => XS.iconst X115.here hx rfl (hb hby at_180)) ?_
    show own_G p e below Φ T115 (mkF m 181 #[.val (.int p0), .val (.int p1), .val (.int p2), .val (.int p3), .val (.int p4), .val (.int (5 : Int32)), .val (.int x6_15), .val (.int x7_23), .val (.int x8_34), .val (.int x9_43), .val (.int x10_54), .val (.int x11_63), .val (.int x12_75), .val (.int x13_84), .val (.ref ob5), .val (.ref ob111), .unset, .unset, .unset] [(.int (4 : Int32)), (.ref ob111)])
    refine own_go (fun _ => XS.iload X115.here hx rfl (hb hby at_181) rfl) ?_
    show own_G p e below Φ T115 (mkF m 183 #[.val (.int p0), .val (.int p1), .val (.int p2), .val (.int p3), .val (.int p4), .val (.int (5 : Int32)), .val (.int x6_15), .val (.int x7_23), .val (.int x8_34), .val (.int x9_43), .val (.int x10_54), .val (.int x11_63), .val (.int x12_75), .val (.int x13_84), .val (.ref ob5), .val (.ref ob111), .unset, .unset, .unset] [(.int x12_75), (.int (4 : Int32)), (.ref ob111)])
    obtain ⟨cl116, Ar116, q116, S116, M116, H116, G116⟩ := id V115
    have hin116 : ¬ ((4 : Int32) < 0 ∨ cl116.slots.size ≤ ((4 : Int32)).toNatClampNeg) := inb_of S116 ⟨by decide, by decide⟩
    obtain ⟨T116, h116, X116, e116, W116, st116⟩ := stI X115 hx hZ e115 Ar116 (j := (4 : Int32)) hin116 (g := (mkF m 183 #[.val (.int p0), .val (.int p1), .val (.int p2), .val (.int p3), .val (.int p4), .val (.int (5 : Int32)), .val (.int x6_15), .val (.int x7_23), .val (.int x8_34), .val (.int x9_43), .val (.int x10_54), .val (.int x11_63), .val (.int x12_75), .val (.int x13_84), .val (.ref ob5), .val (.ref ob111), .unset, .unset, .unset] [(.int x12_75), (.int (4 : Int32)), (.ref ob111)])) rfl rfl (hb hby at_183)
    refine own_go st116 ?_
    have V116 : Arv Z h116 ob111 ka111 .int (5 : Int32) [(.int (0 : Int32)), (.int x6_15), (.int x8_34), (.int x10_54), (.int x12_75)] (.int (0 : Int32)) := Arv.set Ar116 q116 S116 M116 H116 G116 rfl W116 4 rfl (Nat.le_of_ble_eq_true rfl)
    have N116 := Fr.snoc X116 N115 g_ob111
    have Zp116 : n0 ≤ h116.size := Nat.le_trans Zp115 (Keep.of_wr W116).1
    show own_G p e below Φ T116 (mkF m 184 #[.val (.int p0), .val (.int p1), .val (.int p2), .val (.int p3), .val (.int p4), .val (.int (5 : Int32)), .val (.int x6_15), .val (.int x7_23), .val (.int x8_34), .val (.int x9_43), .val (.int x10_54), .val (.int x11_63), .val (.int x12_75), .val (.int x13_84), .val (.ref ob5), .val (.ref ob111), .unset, .unset, .unset] [])
    refine own_go (fun _ => XS.iconst X116.here hx rfl (hb hby at_184)) ?_
    show own_G p e below Φ T116 (mkF m 185 #[.val (.int p0), .val (.int p1), .val (.int p2), .val (.int p3), .val (.int p4), .val (.int (5 : Int32)), .val (.int x6_15), .val (.int x7_23), .val (.int x8_34), .val (.int x9_43), .val (.int x10_54), .val (.int x11_63), .val (.int x12_75), .val (.int x13_84), .val (.ref ob5), .val (.ref ob111), .unset, .unset, .unset] [(.int (0 : Int32))])
    refine own_go (fun _ => XS.istore X116.here hx rfl (hb hby at_185) rfl (l' := #[.val (.int p0), .val (.int p1), .val (.int p2), .val (.int p3), .val (.int p4), .val (.int (5 : Int32)), .val (.int x6_15), .val (.int x7_23), .val (.int x8_34), .val (.int x9_43), .val (.int x10_54), .val (.int x11_63), .val (.int x12_75), .val (.int x13_84), .val (.ref ob5), .val (.ref ob111), .val (.int (0 : Int32)), .unset, .unset]) rfl) ?_
    show own_G p e below Φ T116 (mkF m 187 #[.val (.int p0), .val (.int p1), .val (.int p2), .val (.int p3), .val (.int p4), .val (.int (5 : Int32)), .val (.int x6_15), .val (.int x7_23), .val (.int x8_34), .val (.int x9_43), .val (.int x10_54), .val (.int x11_63), .val (.int x12_75), .val (.int x13_84), .val (.ref ob5), .val (.ref ob111), .val (.int (0 : Int32)), .unset, .unset] [])
    refine own_go (fun _ => XS.iload X116.here hx rfl (hb hby at_187) rfl) ?_
    show own_G p e below Φ T116 (mkF m 189 #[.val (.int p0), .val (.int p1), .val (.int p2), .val (.int p3), .val (.int p4), .val (.int (5 : Int32)), .val (.int x6_15), .val (.int x7_23), .val (.int x8_34), .val (.int x9_43), .val (.int x10_54), .val (.int x11_63), .val (.int x12_75), .val (.int x13_84), .val (.ref ob5), .val (.ref ob111), .val (.int (0 : Int32)), .unset, .unset] [(.int (5 : Int32))])
    refine own_go (fun _ => XS.iconst X116.here hx rfl (hb hby at_189)) ?_
    show own_G p e below Φ T116 (mkF m 190 #[.val (.int p0), .val (.int p1), .val (.int p2), .val (.int p3), .val (.int p4), .val (.int (5 : Int32)), .val (.int x6_15), .val (.int x7_23), .val (.int x8_34), .val (.int x9_43), .val (.int x10_54), .val (.int x11_63), .val (.int x12_75), .val (.int x13_84), .val (.ref ob5), .val (.ref ob111), .val (.int (0 : Int32)), .unset, .unset] [(.int (1 : Int32)), (.int (5 : Int32))])
    refine own_go (fun _ => XS.icmpYes X116.here hx rfl (pc0 := 190) (pc' := 199) rfl (hb hby at_190) rfl (Jvm.Free.XT.ii_ne_t (by decide : ¬ ((5 : Int32) = (1 : Int32)))) (by decide) (by decide)) ?_
    show own_G p e below Φ T116 (mkF m 199 #[.val (.int p0), .val (.int p1), .val (.int p2), .val (.int p3), .val (.int p4), .val (.int (5 : Int32)), .val (.int x6_15), .val (.int x7_23), .val (.int x8_34), .val (.int x9_43), .val (.int x10_54), .val (.int x11_63), .val (.int x12_75), .val (.int x13_84), .val (.ref ob5), .val (.ref ob111), .val (.int (0 : Int32)), .unset, .unset] [])
    refine own_go (fun _ => XS.iload X116.here hx rfl (hb hby at_199) rfl) ?_
    show own_G p e below Φ T116 (mkF m 201 #[.val (.int p0), .val (.int p1), .val (.int p2), .val (.int p3), .val (.int p4), .val (.int (5 : Int32)), .val (.int x6_15), .val (.int x7_23), .val (.int x8_34), .val (.int x9_43), .val (.int x10_54), .val (.int x11_63), .val (.int x12_75), .val (.int x13_84), .val (.ref ob5), .val (.ref ob111), .val (.int (0 : Int32)), .unset, .unset] [(.int (5 : Int32))])
    refine own_go (fun _ => XS.iconst X116.here hx rfl (hb hby at_201)) ?_
    show own_G p e below Φ T116 (mkF m 202 #[.val (.int p0), .val (.int p1), .val (.int p2), .val (.int p3), .val (.int p4), .val (.int (5 : Int32)), .val (.int x6_15), .val (.int x7_23), .val (.int x8_34), .val (.int x9_43), .val (.int x10_54), .val (.int x11_63), .val (.int x12_75), .val (.int x13_84), .val (.ref ob5), .val (.ref ob111), .val (.int (0 : Int32)), .unset, .unset] [(.int (2 : Int32)), (.int (5 : Int32))])
    refine own_go (fun _ => XS.icmpYes X116.here hx rfl (pc0 := 202) (pc' := 214) rfl (hb hby at_202) rfl (Jvm.Free.XT.ii_ne_t (by decide : ¬ ((5 : Int32) = (2 : Int32)))) (by decide) (by decide)) ?_
    show own_G p e below Φ T116 (mkF m 214 #[.val (.int p0), .val (.int p1), .val (.int p2), .val (.int p3), .val (.int p4), .val (.int (5 : Int32)), .val (.int x6_15), .val (.int x7_23), .val (.int x8_34), .val (.int x9_43), .val (.int x10_54), .val (.int x11_63), .val (.int x12_75), .val (.int x13_84), .val (.ref ob5), .val (.ref ob111), .val (.int (0 : Int32)), .unset, .unset] [])
    refine own_go (fun _ => XS.iload X116.here hx rfl (hb hby at_214) rfl) ?_
    show own_G p e below Φ T116 (mkF m 216 #[.val (.int p0), .val (.int p1), .val (.int p2), .val (.int p3), .val (.int p4), .val (.int (5 : Int32)), .val (.int x6_15), .val (.int x7_23), .val (.int x8_34), .val (.int x9_43), .val (.int x10_54), .val (.int x11_63), .val (.int x12_75), .val (.int x13_84), .val (.ref ob5), .val (.ref ob111), .val (.int (0 : Int32)), .unset, .unset] [(.int (5 : Int32))])
    refine own_go (fun _ => XS.iconst X116.here hx rfl (hb hby at_216)) ?_
    show own_G p e below Φ T116 (mkF m 217 #[.val (.int p0), .val (.int p1), .val (.int p2), .val (.int p3), .val (.int p4), .val (.int (5 : Int32)), .val (.int x6_15), .val (.int x7_23), .val (.int x8_34), .val (.int x9_43), .val (.int x10_54), .val (.int x11_63), .val (.int x12_75), .val (.int x13_84), .val (.ref ob5), .val (.ref ob111), .val (.int (0 : Int32)), .unset, .unset] [(.int (3 : Int32)), (.int (5 : Int32))])
    refine own_go (fun _ => XS.icmpYes X116.here hx rfl (pc0 := 217) (pc' := 229) rfl (hb hby at_217) rfl (Jvm.Free.XT.ii_ne_t (by decide : ¬ ((5 : Int32) = (3 : Int32)))) (by decide) (by decide)) ?_
    show own_G p e below Φ T116 (mkF m 229 #[.val (.int p0), .val (.int p1), .val (.int p2), .val (.int p3), .val (.int p4), .val (.int (5 : Int32)), .val (.int x6_15), .val (.int x7_23), .val (.int x8_34), .val (.int x9_43), .val (.int x10_54), .val (.int x11_63), .val (.int x12_75), .val (.int x13_84), .val (.ref ob5), .val (.ref ob111), .val (.int (0 : Int32)), .unset, .unset] [])
    refine own_go (fun _ => XS.iload X116.here hx rfl (hb hby at_229) rfl) ?_
    show own_G p e below Φ T116 (mkF m 231 #[.val (.int p0), .val (.int p1), .val (.int p2), .val (.int p3), .val (.int p4), .val (.int (5 : Int32)), .val (.int x6_15), .val (.int x7_23), .val (.int x8_34), .val (.int x9_43), .val (.int x10_54), .val (.int x11_63), .val (.int x12_75), .val (.int x13_84), .val (.ref ob5), .val (.ref ob111), .val (.int (0 : Int32)), .unset, .unset] [(.int (5 : Int32))])
    refine own_go (fun _ => XS.iconst X116.here hx rfl (hb hby at_231)) ?_
    show own_G p e below Φ T116 (mkF m 232 #[.val (.int p0), .val (.int p1), .val (.int p2), .val (.int p3), .val (.int p4), .val (.int (5 : Int32)), .val (.int x6_15), .val (.int x7_23), .val (.int x8_34), .val (.int x9_43), .val (.int x10_54), .val (.int x11_63), .val (.int x12_75), .val (.int x13_84), .val (.ref ob5), .val (.ref ob111), .val (.int (0 : Int32)), .unset, .unset] [(.int (4 : Int32)), (.int (5 : Int32))])
    refine own_go (fun _ => XS.icmpYes X116.here hx rfl (pc0 := 232) (pc' := 244) rfl (hb hby at_232) rfl (Jvm.Free.XT.ii_ne_t (by decide : ¬ ((5 : Int32) = (4 : Int32)))) (by decide) (by decide)) ?_
    show own_G p e below Φ T116 (mkF m 244 #[.val (.int p0), .val (.int p1), .val (.int p2), .val (.int p3), .val (.int p4), .val (.int (5 : Int32)), .val (.int x6_15), .val (.int x7_23), .val (.int x8_34), .val (.int x9_43), .val (.int x10_54), .val (.int x11_63), .val (.int x12_75), .val (.int x13_84), .val (.ref ob5), .val (.ref ob111), .val (.int (0 : Int32)), .unset, .unset] [])
    refine own_go (fun _ => XS.iload X116.here hx rfl (hb hby at_244) rfl) ?_
    show own_G p e below Φ T116 (mkF m 246 #[.val (.int p0), .val (.int p1), .val (.int p2), .val (.int p3), .val (.int p4), .val (.int (5 : Int32)), .val (.int x6_15), .val (.int x7_23), .val (.int x8_34), .val (.int x9_43), .val (.int x10_54), .val (.int x11_63), .val (.int x12_75), .val (.int x13_84), .val (.ref ob5), .val (.ref ob111), .val (.int (0 : Int32)), .unset, .unset] [(.int (5 : Int32))])
    refine own_go (fun _ => XS.iconst X116.here hx rfl (hb hby at_246)) ?_
    show own_G p e below Φ T116 (mkF m 247 #[.val (.int p0), .val (.int p1), .val (.int p2), .val (.int p3), .val (.int p4), .val (.int (5 : Int32)), .val (.int x6_15), .val (.int x7_23), .val (.int x8_34), .val (.int x9_43), .val (.int x10_54), .val (.int x11_63), .val (.int x12_75), .val (.int x13_84), .val (.ref ob5), .val (.ref ob111), .val (.int (0 : Int32)), .unset, .unset] [(.int (5 : Int32)), (.int (5 : Int32))])
    refine own_go (fun _ => XS.icmpNo X116.here hx rfl (hb hby at_247) rfl (Jvm.Free.XT.ii_ne_f (by decide : ((5 : Int32) = (5 : Int32))))) ?_
    show own_G p e below Φ T116 (mkF m 250 #[.val (.int p0), .val (.int p1), .val (.int p2), .val (.int p3), .val (.int p4), .val (.int (5 : Int32)), .val (.int x6_15), .val (.int x7_23), .val (.int x8_34), .val (.int x9_43), .val (.int x10_54), .val (.int x11_63), .val (.int x12_75), .val (.int x13_84), .val (.ref ob5), .val (.ref ob111), .val (.int (0 : Int32)), .unset, .unset] [])
    refine own_go (fun _ => XS.iload X116.here hx rfl (hb hby at_250) rfl) ?_
    show own_G p e below Φ T116 (mkF m 252 #[.val (.int p0), .val (.int p1), .val (.int p2), .val (.int p3), .val (.int p4), .val (.int (5 : Int32)), .val (.int x6_15), .val (.int x7_23), .val (.int x8_34), .val (.int x9_43), .val (.int x10_54), .val (.int x11_63), .val (.int x12_75), .val (.int x13_84), .val (.ref ob5), .val (.ref ob111), .val (.int (0 : Int32)), .unset, .unset] [(.int x13_84)])
    refine own_go (fun _ => XS.iconst X116.here hx rfl (hb hby at_252)) ?_
    show own_G p e below Φ T116 (mkF m 253 #[.val (.int p0), .val (.int p1), .val (.int p2), .val (.int p3), .val (.int p4), .val (.int (5 : Int32)), .val (.int x6_15), .val (.int x7_23), .val (.int x8_34), .val (.int x9_43), .val (.int x10_54), .val (.int x11_63), .val (.int x12_75), .val (.int x13_84), .val (.ref ob5), .val (.ref ob111), .val (.int (0 : Int32)), .unset, .unset] [(.int (1 : Int32)), (.int x13_84)])
    refine own_go (fun _ => XS.iadd X116.here hx rfl (hb hby at_253) rfl) ?_
    show own_G p e below Φ T116 (mkF m 254 #[.val (.int p0), .val (.int p1), .val (.int p2), .val (.int p3), .val (.int p4), .val (.int (5 : Int32)), .val (.int x6_15), .val (.int x7_23), .val (.int x8_34), .val (.int x9_43), .val (.int x10_54), .val (.int x11_63), .val (.int x12_75), .val (.int x13_84), .val (.ref ob5), .val (.ref ob111), .val (.int (0 : Int32)), .unset, .unset] [(.int (x13_84 + (1 : Int32)))])
    refine own_go (fun _ => XS.istore X116.here hx rfl (hb hby at_254) rfl (l' := #[.val (.int p0), .val (.int p1), .val (.int p2), .val (.int p3), .val (.int p4), .val (.int (5 : Int32)), .val (.int x6_15), .val (.int x7_23), .val (.int x8_34), .val (.int x9_43), .val (.int x10_54), .val (.int x11_63), .val (.int x12_75), .val (.int x13_84), .val (.ref ob5), .val (.ref ob111), .val (.int (x13_84 + (1 : Int32))), .unset, .unset]) rfl) ?_
    show own_G p e below Φ T116 (mkF m 256 #[.val (.int p0), .val (.int p1), .val (.int p2), .val (.int p3), .val (.int p4), .val (.int (5 : Int32)), .val (.int x6_15), .val (.int x7_23), .val (.int x8_34), .val (.int x9_43), .val (.int x10_54), .val (.int x11_63), .val (.int x12_75), .val (.int x13_84), .val (.ref ob5), .val (.ref ob111), .val (.int (x13_84 + (1 : Int32))), .unset, .unset] [])
    obtain ⟨T117, h117, X117, e117, E117, A117, D117, -, st117⟩ := newO X116 hx hZ hown (wd_6 hw) (wd_7 hw) (wd_8 hw) e116 (g := (mkF m 256 #[.val (.int p0), .val (.int p1), .val (.int p2), .val (.int p3), .val (.int p4), .val (.int (5 : Int32)), .val (.int x6_15), .val (.int x7_23), .val (.int x8_34), .val (.int x9_43), .val (.int x10_54), .val (.int x11_63), .val (.int x12_75), .val (.int x13_84), .val (.ref ob5), .val (.ref ob111), .val (.int (x13_84 + (1 : Int32))), .unset, .unset] [])) rfl (hb hby at_256) (by decide) (by decide)
    obtain ⟨ob117, g117⟩ : ∃ z, z = h116.size := ⟨_, rfl⟩
    rw [← g117] at A117 D117 st117
    have f118 : Arv Z h111 ob5 ka5 .int (5 : Int32) [(.int (0 : Int32)), (.int x6_15), (.int x8_34), (.int x10_54), (.int x12_75)] (.int (0 : Int32)) := V10.ext E111
    have f119 : Arv Z h112 ob5 ka5 .int (5 : Int32) [(.int (0 : Int32)), (.int x6_15), (.int x8_34), (.int x10_54), (.int x12_75)] (.int (0 : Int32)) := f118.other W112 ne_ob5_ob111
    have f120 : Arv Z h113 ob5 ka5 .int (5 : Int32) [(.int (0 : Int32)), (.int x6_15), (.int x8_34), (.int x10_54), (.int x12_75)] (.int (0 : Int32)) := f119.other W113 ne_ob5_ob111
    have f121 : Arv Z h114 ob5 ka5 .int (5 : Int32) [(.int (0 : Int32)), (.int x6_15), (.int x8_34), (.int x10_54), (.int x12_75)] (.int (0 : Int32)) := f120.other W114 ne_ob5_ob111
    have f122 : Arv Z h115 ob5 ka5 .int (5 : Int32) [(.int (0 : Int32)), (.int x6_15), (.int x8_34), (.int x10_54), (.int x12_75)] (.int (0 : Int32)) := f121.other W115 ne_ob5_ob111
    have f123 : Arv Z h116 ob5 ka5 .int (5 : Int32) [(.int (0 : Int32)), (.int x6_15), (.int x8_34), (.int x10_54), (.int x12_75)] (.int (0 : Int32)) := f122.other W116 ne_ob5_ob111
    have ne_ob5_ob117 : ob5 ≠ ob117 := Nat.ne_of_lt (Nat.lt_of_lt_of_le f123.lt (Nat.le_of_eq g117.symm))
    have ne_ob111_ob117 : ob111 ≠ ob117 := Nat.ne_of_lt (Nat.lt_of_lt_of_le V116.lt (Nat.le_of_eq g117.symm))
    have g_ob117 : n0 ≤ ob117 := Nat.le_trans Zp116 (Nat.le_of_eq g117.symm)
    have Zp117 : n0 ≤ h117.size := Nat.le_trans Zp116 E117.1
    refine own_go st117 ?_
    have F_m_aClasses_ob117 : Fld Z h117 ob117 "com/example/edgewarden/edgewarden/graph/Likeness" "m_aClasses" "[I" .null := D117 (Or.inr (wd_16 hw)) (ty := (.array .int)) (by decide)
    have F_m_nClassCount_ob117 : Fld Z h117 ob117 "com/example/edgewarden/edgewarden/graph/Likeness" "m_nClassCount" "I" (.int (0 : Int32)) := D117 (Or.inr (wd_18 hw)) (ty := .int) (by decide)
    show own_G p e below Φ T117 (mkF m 259 #[.val (.int p0), .val (.int p1), .val (.int p2), .val (.int p3), .val (.int p4), .val (.int (5 : Int32)), .val (.int x6_15), .val (.int x7_23), .val (.int x8_34), .val (.int x9_43), .val (.int x10_54), .val (.int x11_63), .val (.int x12_75), .val (.int x13_84), .val (.ref ob5), .val (.ref ob111), .val (.int (x13_84 + (1 : Int32))), .unset, .unset] [(.ref ob117)])
    refine own_go (fun _ => XS.dup X117.here hx rfl (hb hby at_259) rfl rfl) ?_
    show own_G p e below Φ T117 (mkF m 260 #[.val (.int p0), .val (.int p1), .val (.int p2), .val (.int p3), .val (.int p4), .val (.int (5 : Int32)), .val (.int x6_15), .val (.int x7_23), .val (.int x8_34), .val (.int x9_43), .val (.int x10_54), .val (.int x11_63), .val (.int x12_75), .val (.int x13_84), .val (.ref ob5), .val (.ref ob111), .val (.int (x13_84 + (1 : Int32))), .unset, .unset] [(.ref ob117), (.ref ob117)])
    refine own_go (fun _ => XS.aload X117.here hx rfl (hb hby at_260) rfl rfl) ?_
    show own_G p e below Φ T117 (mkF m 262 #[.val (.int p0), .val (.int p1), .val (.int p2), .val (.int p3), .val (.int p4), .val (.int (5 : Int32)), .val (.int x6_15), .val (.int x7_23), .val (.int x8_34), .val (.int x9_43), .val (.int x10_54), .val (.int x11_63), .val (.int x12_75), .val (.int x13_84), .val (.ref ob5), .val (.ref ob111), .val (.int (x13_84 + (1 : Int32))), .unset, .unset] [(.ref ob111), (.ref ob117), (.ref ob117)])
    have f124 : Arv Z h117 ob111 ka111 .int (5 : Int32) [(.int (0 : Int32)), (.int x6_15), (.int x8_34), (.int x10_54), (.int x12_75)] (.int (0 : Int32)) := V116.ext E117
    obtain ⟨_, _, ⟨T125, zL125, zk125, zn125⟩, -, X125, ⟨Lc125, hQ125, l125, y125, z125⟩, st125⟩ := X117.specialBack hx (y := (⟨"com/example/edgewarden/edgewarden/graph/Likeness", "<init>", "([I)V"⟩ : MethodName)) rfl hown (mvT hZ (wd_9 hw)) (mvT hZ (wd_10 hw)) (mvT hZ (wd_11 hw)) (by decide) (backOf (W := 1) (rmI5 l Z a0 hw [] ob117 ob111 ka111 (0 : Int32) x6_15 x8_34 x10_54 x12_75 .null (.int (0 : Int32)) h117 n0 Zp117 A117 F_m_aClasses_ob117 F_m_nClassCount_ob117 g_ob117 f124 ne_ob111_ob117) hZ (wd_11 hw) (wd_8 hw) (by decide) (by decide)) (g := (mkF m 262 #[.val (.int p0), .val (.int p1), .val (.int p2), .val (.int p3), .val (.int p4), .val (.int (5 : Int32)), .val (.int x6_15), .val (.int x7_23), .val (.int x8_34), .val (.int x9_43), .val (.int x10_54), .val (.int x11_63), .val (.int x12_75), .val (.int x13_84), .val (.ref ob5), .val (.ref ob111), .val (.int (x13_84 + (1 : Int32))), .unset, .unset] [(.ref ob111), (.ref ob117), (.ref ob117)])) rfl (by rw [hml]; rfl) (Steps.refl _) (a := ob117) (argsL := [(.ref ob111)]) (rest := [(.ref ob117)]) (lenOf pd_2 rfl) rfl (by show 2 * 0 + _ ≤ _; exact Nat.le_of_eq rfl) (hb hby at_262) (fun _ _ => ⟨rfl, e117, (by decide : 3 + 0 ≤ _), (by decide : 12 + 0 ≤ _)⟩)
    dsimp only [Pt.U, Pt.locs, Pt.cells, Pt.slots] at X125 l125 y125 z125 st125 hQ125
    subst l125 y125 z125
    obtain ⟨rfl, N125q, Kq125, p125_0, p125_1, p125_2⟩ := hQ125
    have N125 := Fr.app N116 N125q
    refine own_on st125 ?_
    have Zp125 : n0 ≤ T125.heap.size := Nat.le_trans Zp117 Kq125.1
    show own_G p e below Φ T125 (mkF m 265 #[.val (.int p0), .val (.int p1), .val (.int p2), .val (.int p3), .val (.int p4), .val (.int (5 : Int32)), .val (.int x6_15), .val (.int x7_23), .val (.int x8_34), .val (.int x9_43), .val (.int x10_54), .val (.int x11_63), .val (.int x12_75), .val (.int x13_84), .val (.ref ob5), .val (.ref ob111), .val (.int (x13_84 + (1 : Int32))), .unset, .unset] [(.ref ob117)])
    refine own_go (fun _ => XS.astore X125.here hx rfl (hb hby at_265) rfl rfl (l' := #[.val (.int p0), .val (.int p1), .val (.int p2), .val (.int p3), .val (.int p4), .val (.int (5 : Int32)), .val (.int x6_15), .val (.int x7_23), .val (.int x8_34), .val (.int x9_43), .val (.int x10_54), .val (.int x11_63), .val (.int x12_75), .val (.int x13_84), .val (.ref ob5), .val (.ref ob111), .val (.int (x13_84 + (1 : Int32))), .val (.ref ob117), .unset]) rfl) ?_
    show own_G p e below Φ T125 (mkF m 267 #[.val (.int p0), .val (.int p1), .val (.int p2), .val (.int p3), .val (.int p4), .val (.int (5 : Int32)), .val (.int x6_15), .val (.int x7_23), .val (.int x8_34), .val (.int x9_43), .val (.int x10_54), .val (.int x11_63), .val (.int x12_75), .val (.int x13_84), .val (.ref ob5), .val (.ref ob111), .val (.int (x13_84 + (1 : Int32))), .val (.ref ob117), .unset] [])
    refine own_go (fun _ => XS.aload X125.here hx rfl (hb hby at_267) rfl rfl) ?_
    show own_G p e below Φ T125 (mkF m 269 #[.val (.int p0), .val (.int p1), .val (.int p2), .val (.int p3), .val (.int p4), .val (.int (5 : Int32)), .val (.int x6_15), .val (.int x7_23), .val (.int x8_34), .val (.int x9_43), .val (.int x10_54), .val (.int x11_63), .val (.int x12_75), .val (.int x13_84), .val (.ref ob5), .val (.ref ob111), .val (.int (x13_84 + (1 : Int32))), .val (.ref ob117), .unset] [(.ref ob117)])
    have f126 : Arv Z T125.heap ob111 ka111 .int (5 : Int32) [(.int (0 : Int32)), (.int x6_15), (.int x8_34), (.int x10_54), (.int x12_75)] (.int (0 : Int32)) := f124.keep Kq125 (ninS ne_ob111_ob117 nin0)
    obtain ⟨cq127, kq127, q127a, q127b, q127c⟩ := isOf hZ rfl p125_0
    obtain ⟨_, _, ⟨T127, zL127, zk127, zn127⟩, -, X127, ⟨Lc127, hQ127, l127, y127, z127⟩, st127⟩ := X125.virtualBack hx (y := (⟨"com/example/edgewarden/edgewarden/graph/Likeness", "getFirstMembers", "()[I"⟩ : MethodName)) (z := (⟨"com/example/edgewarden/edgewarden/graph/Likeness", "getFirstMembers", "()[I"⟩ : MethodName)) hown (mvT hZ (wd_19 hw)) (mvT hZ (wd_20 hw)) (notFace_of_selects (args := #[]) (mvT hZ (wd_22 hw))) (mvT hZ (wd_22 hw)) (mvT hZ (wd_21 hw)) (by decide) (backOf (W := 0) (rmS5 l Z a0 hw [] ob117 ob111 ka111 (own_max (own_max (own_max (own_max (own_max (0 : Int32) ((0 : Int32) + (1 : Int32))) (x6_15 + (1 : Int32))) (x8_34 + (1 : Int32))) (x10_54 + (1 : Int32))) (x12_75 + (1 : Int32))) (0 : Int32) x6_15 x8_34 x10_54 x12_75 T125.heap n0 Zp125 p125_2 p125_1 f126 (own_use (P := fun t => ¬ (own_max (own_max (own_max (own_max (own_max (0 : Int32) ((0 : Int32) + (1 : Int32))) (t.1 + (1 : Int32))) (t.2.2.1 + (1 : Int32))) (t.2.2.2.2.1 + (1 : Int32))) (t.2.2.2.2.2.2.1 + (1 : Int32))) < 0) (by decide +kernel) hall) (own_use (P := fun t => ((own_max (own_max (own_max (own_max (own_max (0 : Int32) ((0 : Int32) + (1 : Int32))) (t.1 + (1 : Int32))) (t.2.2.1 + (1 : Int32))) (t.2.2.2.2.1 + (1 : Int32))) (t.2.2.2.2.2.2.1 + (1 : Int32)))).toNatClampNeg ≤ 5) (by decide +kernel) hall) (own_use (P := fun t => ¬ (0 : Int32) < 0 ∧ (0 : Int32) < (own_max (own_max (own_max (own_max (own_max (0 : Int32) ((0 : Int32) + (1 : Int32))) (t.1 + (1 : Int32))) (t.2.2.1 + (1 : Int32))) (t.2.2.2.2.1 + (1 : Int32))) (t.2.2.2.2.2.2.1 + (1 : Int32)))) (by decide +kernel) hall) (own_use (P := fun t => ¬ t.1 < 0 ∧ t.1 < (own_max (own_max (own_max (own_max (own_max (0 : Int32) ((0 : Int32) + (1 : Int32))) (t.1 + (1 : Int32))) (t.2.2.1 + (1 : Int32))) (t.2.2.2.2.1 + (1 : Int32))) (t.2.2.2.2.2.2.1 + (1 : Int32)))) (by decide +kernel) hall) (own_use (P := fun t => ¬ t.2.2.1 < 0 ∧ t.2.2.1 < (own_max (own_max (own_max (own_max (own_max (0 : Int32) ((0 : Int32) + (1 : Int32))) (t.1 + (1 : Int32))) (t.2.2.1 + (1 : Int32))) (t.2.2.2.2.1 + (1 : Int32))) (t.2.2.2.2.2.2.1 + (1 : Int32)))) (by decide +kernel) hall) (own_use (P := fun t => ¬ t.2.2.2.2.1 < 0 ∧ t.2.2.2.2.1 < (own_max (own_max (own_max (own_max (own_max (0 : Int32) ((0 : Int32) + (1 : Int32))) (t.1 + (1 : Int32))) (t.2.2.1 + (1 : Int32))) (t.2.2.2.2.1 + (1 : Int32))) (t.2.2.2.2.2.2.1 + (1 : Int32)))) (by decide +kernel) hall) (own_use (P := fun t => ¬ t.2.2.2.2.2.2.1 < 0 ∧ t.2.2.2.2.2.2.1 < (own_max (own_max (own_max (own_max (own_max (0 : Int32) ((0 : Int32) + (1 : Int32))) (t.1 + (1 : Int32))) (t.2.2.1 + (1 : Int32))) (t.2.2.2.2.1 + (1 : Int32))) (t.2.2.2.2.2.2.1 + (1 : Int32)))) (by decide +kernel) hall)) hZ (wd_23 hw) (wd_8 hw) (by decide) (by decide)) q127a q127c (g := (mkF m 269 #[.val (.int p0), .val (.int p1), .val (.int p2), .val (.int p3), .val (.int p4), .val (.int (5 : Int32)), .val (.int x6_15), .val (.int x7_23), .val (.int x8_34), .val (.int x9_43), .val (.int x10_54), .val (.int x11_63), .val (.int x12_75), .val (.int x13_84), .val (.ref ob5), .val (.ref ob111), .val (.int (x13_84 + (1 : Int32))), .val (.ref ob117), .unset] [(.ref ob117)])) rfl (by rw [hml]; rfl) (Steps.refl _) (argsL := []) (rest := []) (lenOf pd_3 rfl) rfl (by show 2 * 0 + _ ≤ _; exact Nat.le_of_eq rfl) (hb hby at_269) (fun _ _ => ⟨rfl, rfl, (by decide : 3 + 1 ≤ _), (by decide : 12 + 5 ≤ _)⟩)
    dsimp only [Pt.U, Pt.locs, Pt.cells, Pt.slots] at X127 l127 y127 z127 st127 hQ127
    subst l127 y127 z127
    obtain ⟨b_127, ns_b_127, kb_127, rfl, N127q, Kq127, p127_0⟩ := hQ127
    have N127 := Fr.app N125 N127q
    refine own_on st127 ?_
    have f128 : Arv Z h117 ob5 ka5 .int (5 : Int32) [(.int (0 : Int32)), (.int x6_15), (.int x8_34), (.int x10_54), (.int x12_75)] (.int (0 : Int32)) := f123.ext E117
    have f129 : Arv Z T125.heap ob5 ka5 .int (5 : Int32) [(.int (0 : Int32)), (.int x6_15), (.int x8_34), (.int x10_54), (.int x12_75)] (.int (0 : Int32)) := f128.keep Kq125 (ninS ne_ob5_ob117 nin0)
    have ne_ob5_b_127 : ob5 ≠ b_127 := Nat.ne_of_lt (Nat.lt_of_lt_of_le f129.lt ns_b_127)
    have ne_ob111_b_127 : ob111 ≠ b_127 := Nat.ne_of_lt (Nat.lt_of_lt_of_le f126.lt ns_b_127)
    have ne_ob117_b_127 : ob117 ≠ b_127 := Nat.ne_of_lt (Nat.lt_of_lt_of_le p125_0.lt ns_b_127)
    have g_b_127 : n0 ≤ b_127 := Nat.le_trans Zp125 ns_b_127
    have Zp127 : n0 ≤ T127.heap.size := Nat.le_trans Zp125 Kq127.1
    show own_G p e below Φ T127 (mkF m 272 #[.val (.int p0), .val (.int p1), .val (.int p2), .val (.int p3), .val (.int p4), .val (.int (5 : Int32)), .val (.int x6_15), .val (.int x7_23), .val (.int x8_34), .val (.int x9_43), .val (.int x10_54), .val (.int x11_63), .val (.int x12_75), .val (.int x13_84), .val (.ref ob5), .val (.ref ob111), .val (.int (x13_84 + (1 : Int32))), .val (.ref ob117), .unset] [(.ref b_127)])
    refine own_go (fun _ => XS.astore X127.here hx rfl (hb hby at_272) rfl rfl (l' := #[.val (.int p0), .val (.int p1), .val (.int p2), .val (.int p3), .val (.int p4), .val (.int (5 : Int32)), .val (.int x6_15), .val (.int x7_23), .val (.int x8_34), .val (.int x9_43), .val (.int x10_54), .val (.int x11_63), .val (.int x12_75), .val (.int x13_84), .val (.ref ob5), .val (.ref ob111), .val (.int (x13_84 + (1 : Int32))), .val (.ref ob117), .val (.ref b_127)]) rfl) ?_
    show own_G p e below Φ T127 (mkF m 274 #[.val (.int p0), .val (.int p1), .val (.int p2), .val (.int p3), .val (.int p4), .val (.int (5 : Int32)), .val (.int x6_15), .val (.int x7_23), .val (.int x8_34), .val (.int x9_43), .val (.int x10_54), .val (.int x11_63), .val (.int x12_75), .val (.int x13_84), .val (.ref ob5), .val (.ref ob111), .val (.int (x13_84 + (1 : Int32))), .val (.ref ob117), .val (.ref b_127)] [])
    refine own_go (fun _ => XS.aload X127.here hx rfl (hb hby at_274) rfl rfl) ?_
    show own_G p e below Φ T127 (mkF m 276 #[.val (.int p0), .val (.int p1), .val (.int p2), .val (.int p3), .val (.int p4), .val (.int (5 : Int32)), .val (.int x6_15), .val (.int x7_23), .val (.int x8_34), .val (.int x9_43), .val (.int x10_54), .val (.int x11_63), .val (.int x12_75), .val (.int x13_84), .val (.ref ob5), .val (.ref ob111), .val (.int (x13_84 + (1 : Int32))), .val (.ref ob117), .val (.ref b_127)] [(.ref b_127)])
    refine own_go (fun _ => XS.ifnullNo X127.here hx rfl (hb hby at_276) rfl) ?_
    show own_G p e below Φ T127 (mkF m 279 #[.val (.int p0), .val (.int p1), .val (.int p2), .val (.int p3), .val (.int p4), .val (.int (5 : Int32)), .val (.int x6_15), .val (.int x7_23), .val (.int x8_34), .val (.int x9_43), .val (.int x10_54), .val (.int x11_63), .val (.int x12_75), .val (.int x13_84), .val (.ref ob5), .val (.ref ob111), .val (.int (x13_84 + (1 : Int32))), .val (.ref ob117), .val (.ref b_127)] [])
    refine own_go (fun _ => XS.aload X127.here hx rfl (hb hby at_279) rfl rfl) ?_
    show own_G p e below Φ T127 (mkF m 281 #[.val (.int p0), .val (.int p1), .val (.int p2), .val (.int p3), .val (.int p4), .val (.int (5 : Int32)), .val (.int x6_15), .val (.int x7_23), .val (.int x8_34), .val (.int x9_43), .val (.int x10_54), .val (.int x11_63), .val (.int x12_75), .val (.int x13_84), .val (.ref ob5), .val (.ref ob111), .val (.int (x13_84 + (1 : Int32))), .val (.ref ob117), .val (.ref b_127)] [(.ref b_127)])
    obtain ⟨cl130, Ar130, q130, S130, M130, H130, G130⟩ := id p127_0
    refine own_go (fun _ => X127.arraylength hx Ar130.1 (State.isArrayOf_alike hZ.alike Ar130.2.1) (g := (mkF m 281 #[.val (.int p0), .val (.int p1), .val (.int p2), .val (.int p3), .val (.int p4), .val (.int (5 : Int32)), .val (.int x6_15), .val (.int x7_23), .val (.int x8_34), .val (.int x9_43), .val (.int x10_54), .val (.int x11_63), .val (.int x12_75), .val (.int x13_84), .val (.ref ob5), .val (.ref ob111), .val (.int (x13_84 + (1 : Int32))), .val (.ref ob117), .val (.ref b_127)] [(.ref b_127)])) rfl rfl (hb hby at_281) _) ?_
    rw [len_of S130 M130]
    show own_G p e below Φ T127 (mkF m 282 #[.val (.int p0), .val (.int p1), .val (.int p2), .val (.int p3), .val (.int p4), .val (.int (5 : Int32)), .val (.int x6_15), .val (.int x7_23), .val (.int x8_34), .val (.int x9_43), .val (.int x10_54), .val (.int x11_63), .val (.int x12_75), .val (.int x13_84), .val (.ref ob5), .val (.ref ob111), .val (.int (x13_84 + (1 : Int32))), .val (.ref ob117), .val (.ref b_127)] [(.int (own_max (own_max (own_max (own_max (own_max (0 : Int32) ((0 : Int32) + (1 : Int32))) (x6_15 + (1 : Int32))) (x8_34 + (1 : Int32))) (x10_54 + (1 : Int32))) (x12_75 + (1 : Int32))))])
    refine own_go (fun _ => XS.iload X127.here hx rfl (hb hby at_282) rfl) ?_
    show own_G p e below Φ T127 (mkF m 284 #[.val (.int p0), .val (.int p1), .val (.int p2), .val (.int p3), .val (.int p4), .val (.int (5 : Int32)), .val (.int x6_15), .val (.int x7_23), .val (.int x8_34), .val (.int x9_43), .val (.int x10_54), .val (.int x11_63), .val (.int x12_75), .val (.int x13_84), .val (.ref ob5), .val (.ref ob111), .val (.int (x13_84 + (1 : Int32))), .val (.ref ob117), .val (.ref b_127)] [(.int (x13_84 + (1 : Int32))), (.int (own_max (own_max (own_max (own_max (own_max (0 : Int32) ((0 : Int32) + (1 : Int32))) (x6_15 + (1 : Int32))) (x8_34 + (1 : Int32))) (x10_54 + (1 : Int32))) (x12_75 + (1 : Int32))))])
    refine own_go (fun _ => XS.icmpYes X127.here hx rfl (pc0 := 284) (pc' := 289) rfl (hb hby at_284) rfl (Jvm.Free.XT.ii_eq_t (own_use (P := fun t => (own_max (own_max (own_max (own_max (own_max (0 : Int32) ((0 : Int32) + (1 : Int32))) (t.1 + (1 : Int32))) (t.2.2.1 + (1 : Int32))) (t.2.2.2.2.1 + (1 : Int32))) (t.2.2.2.2.2.2.1 + (1 : Int32))) = (t.2.2.2.2.2.2.2 + (1 : Int32))) (by decide +kernel) hall)) (by decide) (by decide)) ?_
    show own_G p e below Φ T127 (mkF m 289 #[.val (.int p0), .val (.int p1), .val (.int p2), .val (.int p3), .val (.int p4), .val (.int (5 : Int32)), .val (.int x6_15), .val (.int x7_23), .val (.int x8_34), .val (.int x9_43), .val (.int x10_54), .val (.int x11_63), .val (.int x12_75), .val (.int x13_84), .val (.ref ob5), .val (.ref ob111), .val (.int (x13_84 + (1 : Int32))), .val (.ref ob117), .val (.ref b_127)] [])
    refine own_go (fun _ => XS.aload X127.here hx rfl (hb hby at_289) rfl rfl) ?_
    show own_G p e below Φ T127 (mkF m 291 #[.val (.int p0), .val (.int p1), .val (.int p2), .val (.int p3), .val (.int p4), .val (.int (5 : Int32)), .val (.int x6_15), .val (.int x7_23), .val (.int x8_34), .val (.int x9_43), .val (.int x10_54), .val (.int x11_63), .val (.int x12_75), .val (.int x13_84), .val (.ref ob5), .val (.ref ob111), .val (.int (x13_84 + (1 : Int32))), .val (.ref ob117), .val (.ref b_127)] [(.ref b_127)])
    refine own_go (fun _ => XS.aload X127.here hx rfl (hb hby at_291) rfl rfl) ?_
    show own_G p e below Φ T127 (mkF m 293 #[.val (.int p0), .val (.int p1), .val (.int p2), .val (.int p3), .val (.int p4), .val (.int (5 : Int32)), .val (.int x6_15), .val (.int x7_23), .val (.int x8_34), .val (.int x9_43), .val (.int x10_54), .val (.int x11_63), .val (.int x12_75), .val (.int x13_84), .val (.ref ob5), .val (.ref ob111), .val (.int (x13_84 + (1 : Int32))), .val (.ref ob117), .val (.ref b_127)] [(.ref ob5), (.ref b_127)])
    refine own_go (fun _ => XS.iload X127.here hx rfl (hb hby at_293) rfl) ?_
    show own_G p e below Φ T127 (mkF m 295 #[.val (.int p0), .val (.int p1), .val (.int p2), .val (.int p3), .val (.int p4), .val (.int (5 : Int32)), .val (.int x6_15), .val (.int x7_23), .val (.int x8_34), .val (.int x9_43), .val (.int x10_54), .val (.int x11_63), .val (.int x12_75), .val (.int x13_84), .val (.ref ob5), .val (.ref ob111), .val (.int (x13_84 + (1 : Int32))), .val (.ref ob117), .val (.ref b_127)] [(.int (5 : Int32)), (.ref ob5), (.ref b_127)])
    refine own_go (fun _ => XS.iconst X127.here hx rfl (hb hby at_295)) ?_
    show own_G p e below Φ T127 (mkF m 296 #[.val (.int p0), .val (.int p1), .val (.int p2), .val (.int p3), .val (.int p4), .val (.int (5 : Int32)), .val (.int x6_15), .val (.int x7_23), .val (.int x8_34), .val (.int x9_43), .val (.int x10_54), .val (.int x11_63), .val (.int x12_75), .val (.int x13_84), .val (.ref ob5), .val (.ref ob111), .val (.int (x13_84 + (1 : Int32))), .val (.ref ob117), .val (.ref b_127)] [(.int (0 : Int32)), (.int (5 : Int32)), (.ref ob5), (.ref b_127)])
    have f131 : Arv Z T127.heap ob5 ka5 .int (5 : Int32) [(.int (0 : Int32)), (.int x6_15), (.int x8_34), (.int x10_54), (.int x12_75)] (.int (0 : Int32)) := f129.keep Kq127 nin0
    obtain ⟨_, _, ⟨T132, zL132, zk132, zn132⟩, -, X132, ⟨Lc132, hQ132, l132, y132, z132⟩, st132⟩ := Jvm.LawKit.callS X127 hx (y := (⟨"com/example/edgewarden/edgewarden/graph/LikenessGetFirstMembersPinLaw", "ok", "([I[III)Z"⟩ : MethodName)) hown (mvT hZ (wd_24 hw)) (mvT hZ (wd_25 hw)) (mvT hZ (wd_26 hw)) (mvT hZ (wd_27 hw)) (by decide) (backOf (W := 0) (rmK l Z a0 hw [] b_127 ob5 kb_127 ka5 (own_max (own_max (own_max (own_max (own_max (0 : Int32) ((0 : Int32) + (1 : Int32))) (x6_15 + (1 : Int32))) (x8_34 + (1 : Int32))) (x10_54 + (1 : Int32))) (x12_75 + (1 : Int32))) (own_put (own_put (own_put (own_put (own_put (own_zeros (own_max (own_max (own_max (own_max (own_max (0 : Int32) ((0 : Int32) + (1 : Int32))) (x6_15 + (1 : Int32))) (x8_34 + (1 : Int32))) (x10_54 + (1 : Int32))) (x12_75 + (1 : Int32)))) x12_75 (4 : Int32)) x10_54 (3 : Int32)) x8_34 (2 : Int32)) x6_15 (1 : Int32)) (0 : Int32) (0 : Int32)) (5 : Int32) (0 : Int32) (0 : Int32) x6_15 x8_34 x10_54 x12_75 T127.heap n0 Zp127 p127_0 f131 (by decide) (own_use (P := fun t => (0 : Int32) < (own_max (own_max (own_max (own_max (own_max (0 : Int32) ((0 : Int32) + (1 : Int32))) (t.1 + (1 : Int32))) (t.2.2.1 + (1 : Int32))) (t.2.2.2.2.1 + (1 : Int32))) (t.2.2.2.2.2.2.1 + (1 : Int32))) → ((own_put (own_put (own_put (own_put (own_put (own_zeros (own_max (own_max (own_max (own_max (own_max (0 : Int32) ((0 : Int32) + (1 : Int32))) (t.1 + (1 : Int32))) (t.2.2.1 + (1 : Int32))) (t.2.2.2.2.1 + (1 : Int32))) (t.2.2.2.2.2.2.1 + (1 : Int32)))) t.2.2.2.2.2.2.1 (4 : Int32)) t.2.2.2.2.1 (3 : Int32)) t.2.2.1 (2 : Int32)) t.1 (1 : Int32)) (0 : Int32) (0 : Int32))).getD ((0 : Int32)).toNatClampNeg 0 = own_first (0 : Int32) t.1 t.2.2.1 t.2.2.2.2.1 t.2.2.2.2.2.2.1 (5 : Int32) (0 : Int32)) (by decide +kernel) hall)) hZ (wd_27 hw) (wd_26 hw) (by decide) (by decide)) (g := (mkF m 296 #[.val (.int p0), .val (.int p1), .val (.int p2), .val (.int p3), .val (.int p4), .val (.int (5 : Int32)), .val (.int x6_15), .val (.int x7_23), .val (.int x8_34), .val (.int x9_43), .val (.int x10_54), .val (.int x11_63), .val (.int x12_75), .val (.int x13_84), .val (.ref ob5), .val (.ref ob111), .val (.int (x13_84 + (1 : Int32))), .val (.ref ob117), .val (.ref b_127)] [(.int (0 : Int32)), (.int (5 : Int32)), (.ref ob5), (.ref b_127)])) rfl (by rw [hml]; rfl) (argsL := [(.ref b_127), (.ref ob5), (.int (5 : Int32)), (.int (0 : Int32))]) (rest := []) (lenOf pd_4 rfl) rfl (by show 2 * 0 + _ ≤ _; exact Nat.le_of_eq rfl) (hb hby at_296) (fun _ _ => ⟨rfl, rfl, (by decide : 4 + 0 ≤ _), (by decide : 17 + 0 ≤ _)⟩)
    dsimp only [Pt.U, Pt.locs, Pt.cells, Pt.slots] at X132 l132 y132 z132 st132 hQ132
    subst l132 y132 z132
    obtain ⟨rfl, N132q, hs132⟩ := hQ132
    have N132 := Fr.app N127 N132q
    refine own_go st132 ?_
    show own_G p e below Φ T132 (mkF m 299 #[.val (.int p0), .val (.int p1), .val (.int p2), .val (.int p3), .val (.int p4), .val (.int (5 : Int32)), .val (.int x6_15), .val (.int x7_23), .val (.int x8_34), .val (.int x9_43), .val (.int x10_54), .val (.int x11_63), .val (.int x12_75), .val (.int x13_84), .val (.ref ob5), .val (.ref ob111), .val (.int (x13_84 + (1 : Int32))), .val (.ref ob117), .val (.ref b_127)] [(.int (1 : Int32))])
    refine own_go (fun _ => XS.ifNo X132.here hx rfl (hb hby at_299) rfl (Jvm.Free.XT.i0_eq_f (by decide : ¬ ((1 : Int32) = (0 : Int32))))) ?_
    show own_G p e below Φ T132 (mkF m 302 #[.val (.int p0), .val (.int p1), .val (.int p2), .val (.int p3), .val (.int p4), .val (.int (5 : Int32)), .val (.int x6_15), .val (.int x7_23), .val (.int x8_34), .val (.int x9_43), .val (.int x10_54), .val (.int x11_63), .val (.int x12_75), .val (.int x13_84), .val (.ref ob5), .val (.ref ob111), .val (.int (x13_84 + (1 : Int32))), .val (.ref ob117), .val (.ref b_127)] [])
    refine own_go (fun _ => XS.aload X132.here hx rfl (hb hby at_302) rfl rfl) ?_
    show own_G p e below Φ T132 (mkF m 304 #[.val (.int p0), .val (.int p1), .val (.int p2), .val (.int p3), .val (.int p4), .val (.int (5 : Int32)), .val (.int x6_15), .val (.int x7_23), .val (.int x8_34), .val (.int x9_43), .val (.int x10_54), .val (.int x11_63), .val (.int x12_75), .val (.int x13_84), .val (.ref ob5), .val (.ref ob111), .val (.int (x13_84 + (1 : Int32))), .val (.ref ob117), .val (.ref b_127)] [(.ref b_127)])
    refine own_go (fun _ => XS.aload X132.here hx rfl (hb hby at_304) rfl rfl) ?_
    show own_G p e below Φ T132 (mkF m 306 #[.val (.int p0), .val (.int p1), .val (.int p2), .val (.int p3), .val (.int p4), .val (.int (5 : Int32)), .val (.int x6_15), .val (.int x7_23), .val (.int x8_34), .val (.int x9_43), .val (.int x10_54), .val (.int x11_63), .val (.int x12_75), .val (.int x13_84), .val (.ref ob5), .val (.ref ob111), .val (.int (x13_84 + (1 : Int32))), .val (.ref ob117), .val (.ref b_127)] [(.ref ob5), (.ref b_127)])
    refine own_go (fun _ => XS.iload X132.here hx rfl (hb hby at_306) rfl) ?_
    show own_G p e below Φ T132 (mkF m 308 #[.val (.int p0), .val (.int p1), .val (.int p2), .val (.int p3), .val (.int p4), .val (.int (5 : Int32)), .val (.int x6_15), .val (.int x7_23), .val (.int x8_34), .val (.int x9_43), .val (.int x10_54), .val (.int x11_63), .val (.int x12_75), .val (.int x13_84), .val (.ref ob5), .val (.ref ob111), .val (.int (x13_84 + (1 : Int32))), .val (.ref ob117), .val (.ref b_127)] [(.int (5 : Int32)), (.ref ob5), (.ref b_127)])
    refine own_go (fun _ => XS.iconst X132.here hx rfl (hb hby at_308)) ?_
    show own_G p e below Φ T132 (mkF m 309 #[.val (.int p0), .val (.int p1), .val (.int p2), .val (.int p3), .val (.int p4), .val (.int (5 : Int32)), .val (.int x6_15), .val (.int x7_23), .val (.int x8_34), .val (.int x9_43), .val (.int x10_54), .val (.int x11_63), .val (.int x12_75), .val (.int x13_84), .val (.ref ob5), .val (.ref ob111), .val (.int (x13_84 + (1 : Int32))), .val (.ref ob117), .val (.ref b_127)] [(.int (1 : Int32)), (.int (5 : Int32)), (.ref ob5), (.ref b_127)])
    obtain ⟨_, _, ⟨T133, zL133, zk133, zn133⟩, -, X133, ⟨Lc133, hQ133, l133, y133, z133⟩, st133⟩ := Jvm.LawKit.callS X132 hx (y := (⟨"com/example/edgewarden/edgewarden/graph/LikenessGetFirstMembersPinLaw", "ok", "([I[III)Z"⟩ : MethodName)) hown (mvT hZ (wd_24 hw)) (mvT hZ (wd_25 hw)) (mvT hZ (wd_26 hw)) (mvT hZ (wd_27 hw)) (by decide) (backOf (W := 0) (rmK l Z a0 hw [] b_127 ob5 kb_127 ka5 (own_max (own_max (own_max (own_max (own_max (0 : Int32) ((0 : Int32) + (1 : Int32))) (x6_15 + (1 : Int32))) (x8_34 + (1 : Int32))) (x10_54 + (1 : Int32))) (x12_75 + (1 : Int32))) (own_put (own_put (own_put (own_put (own_put (own_zeros (own_max (own_max (own_max (own_max (own_max (0 : Int32) ((0 : Int32) + (1 : Int32))) (x6_15 + (1 : Int32))) (x8_34 + (1 : Int32))) (x10_54 + (1 : Int32))) (x12_75 + (1 : Int32)))) x12_75 (4 : Int32)) x10_54 (3 : Int32)) x8_34 (2 : Int32)) x6_15 (1 : Int32)) (0 : Int32) (0 : Int32)) (5 : Int32) (1 : Int32) (0 : Int32) x6_15 x8_34 x10_54 x12_75 T127.heap n0 Zp127 p127_0 f131 (by decide) (own_use (P := fun t => (1 : Int32) < (own_max (own_max (own_max (own_max (own_max (0 : Int32) ((0 : Int32) + (1 : Int32))) (t.1 + (1 : Int32))) (t.2.2.1 + (1 : Int32))) (t.2.2.2.2.1 + (1 : Int32))) (t.2.2.2.2.2.2.1 + (1 : Int32))) → ((own_put (own_put (own_put (own_put (own_put (own_zeros (own_max (own_max (own_max (own_max (own_max (0 : Int32) ((0 : Int32) + (1 : Int32))) (t.1 + (1 : Int32))) (t.2.2.1 + (1 : Int32))) (t.2.2.2.2.1 + (1 : Int32))) (t.2.2.2.2.2.2.1 + (1 : Int32)))) t.2.2.2.2.2.2.1 (4 : Int32)) t.2.2.2.2.1 (3 : Int32)) t.2.2.1 (2 : Int32)) t.1 (1 : Int32)) (0 : Int32) (0 : Int32))).getD ((1 : Int32)).toNatClampNeg 0 = own_first (0 : Int32) t.1 t.2.2.1 t.2.2.2.2.1 t.2.2.2.2.2.2.1 (5 : Int32) (1 : Int32)) (by decide +kernel) hall)) hZ (wd_27 hw) (wd_26 hw) (by decide) (by decide)) (g := (mkF m 309 #[.val (.int p0), .val (.int p1), .val (.int p2), .val (.int p3), .val (.int p4), .val (.int (5 : Int32)), .val (.int x6_15), .val (.int x7_23), .val (.int x8_34), .val (.int x9_43), .val (.int x10_54), .val (.int x11_63), .val (.int x12_75), .val (.int x13_84), .val (.ref ob5), .val (.ref ob111), .val (.int (x13_84 + (1 : Int32))), .val (.ref ob117), .val (.ref b_127)] [(.int (1 : Int32)), (.int (5 : Int32)), (.ref ob5), (.ref b_127)])) rfl (by rw [hml]; rfl) (argsL := [(.ref b_127), (.ref ob5), (.int (5 : Int32)), (.int (1 : Int32))]) (rest := []) (lenOf pd_4 rfl) rfl (by show 2 * 0 + _ ≤ _; exact Nat.le_of_eq rfl) (hb hby at_309) (fun _ _ => ⟨rfl, hs132, (by decide : 4 + 0 ≤ _), (by decide : 17 + 0 ≤ _)⟩)
    dsimp only [Pt.U, Pt.locs, Pt.cells, Pt.slots] at X133 l133 y133 z133 st133 hQ133
    subst l133 y133 z133
    obtain ⟨rfl, N133q, hs133⟩ := hQ133
    have N133 := Fr.app N132 N133q
    refine own_go st133 ?_
    show own_G p e below Φ T133 (mkF m 312 #[.val (.int p0), .val (.int p1), .val (.int p2), .val (.int p3), .val (.int p4), .val (.int (5 : Int32)), .val (.int x6_15), .val (.int x7_23), .val (.int x8_34), .val (.int x9_43), .val (.int x10_54), .val (.int x11_63), .val (.int x12_75), .val (.int x13_84), .val (.ref ob5), .val (.ref ob111), .val (.int (x13_84 + (1 : Int32))), .val (.ref ob117), .val (.ref b_127)] [(.int (1 : Int32))])
    refine own_go (fun _ => XS.ifNo X133.here hx rfl (hb hby at_312) rfl (Jvm.Free.XT.i0_eq_f (by decide : ¬ ((1 : Int32) = (0 : Int32))))) ?_
    show own_G p e below Φ T133 (mkF m 315 #[.val (.int p0), .val (.int p1), .val (.int p2), .val (.int p3), .val (.int p4), .val (.int (5 : Int32)), .val (.int x6_15), .val (.int x7_23), .val (.int x8_34), .val (.int x9_43), .val (.int x10_54), .val (.int x11_63), .val (.int x12_75), .val (.int x13_84), .val (.ref ob5), .val (.ref ob111), .val (.int (x13_84 + (1 : Int32))), .val (.ref ob117), .val (.ref b_127)] [])
    refine own_go (fun _ => XS.aload X133.here hx rfl (hb hby at_315) rfl rfl) ?_
    show own_G p e below Φ T133 (mkF m 317 #[.val (.int p0), .val (.int p1), .val (.int p2), .val (.int p3), .val (.int p4), .val (.int (5 : Int32)), .val (.int x6_15), .val (.int x7_23), .val (.int x8_34), .val (.int x9_43), .val (.int x10_54), .val (.int x11_63), .val (.int x12_75), .val (.int x13_84), .val (.ref ob5), .val (.ref ob111), .val (.int (x13_84 + (1 : Int32))), .val (.ref ob117), .val (.ref b_127)] [(.ref b_127)])
    refine own_go (fun _ => XS.aload X133.here hx rfl (hb hby at_317) rfl rfl) ?_
    show own_G p e below Φ T133 (mkF m 319 #[.val (.int p0), .val (.int p1), .val (.int p2), .val (.int p3), .val (.int p4), .val (.int (5 : Int32)), .val (.int x6_15), .val (.int x7_23), .val (.int x8_34), .val (.int x9_43), .val (.int x10_54), .val (.int x11_63), .val (.int x12_75), .val (.int x13_84), .val (.ref ob5), .val (.ref ob111), .val (.int (x13_84 + (1 : Int32))), .val (.ref ob117), .val (.ref b_127)] [(.ref ob5), (.ref b_127)])
    refine own_go (fun _ => XS.iload X133.here hx rfl (hb hby at_319) rfl) ?_
    show own_G p e below Φ T133 (mkF m 321 #[.val (.int p0), .val (.int p1), .val (.int p2), .val (.int p3), .val (.int p4), .val (.int (5 : Int32)), .val (.int x6_15), .val (.int x7_23), .val (.int x8_34), .val (.int x9_43), .val (.int x10_54), .val (.int x11_63), .val (.int x12_75), .val (.int x13_84), .val (.ref ob5), .val (.ref ob111), .val (.int (x13_84 + (1 : Int32))), .val (.ref ob117), .val (.ref b_127)] [(.int (5 : Int32)), (.ref ob5), (.ref b_127)])
    refine own_go (fun _ => XS.iconst X133.here hx rfl (hb hby at_321)) ?_
    show own_G p e below Φ T133 (mkF m 322 #[.val (.int p0), .val (.int p1), .val (.int p2), .val (.int p3), .val (.int p4), .val (.int (5 : Int32)), .val (.int x6_15), .val (.int x7_23), .val (.int x8_34), .val (.int x9_43), .val (.int x10_54), .val (.int x11_63), .val (.int x12_75), .val (.int x13_84), .val (.ref ob5), .val (.ref ob111), .val (.int (x13_84 + (1 : Int32))), .val (.ref ob117), .val (.ref b_127)] [(.int (2 : Int32)), (.int (5 : Int32)), (.ref ob5), (.ref b_127)])
    obtain ⟨_, _, ⟨T134, zL134, zk134, zn134⟩, -, X134, ⟨Lc134, hQ134, l134, y134, z134⟩, st134⟩ := Jvm.LawKit.callS X133 hx (y := (⟨"com/example/edgewarden/edgewarden/graph/LikenessGetFirstMembersPinLaw", "ok", "([I[III)Z"⟩ : MethodName)) hown (mvT hZ (wd_24 hw)) (mvT hZ (wd_25 hw)) (mvT hZ (wd_26 hw)) (mvT hZ (wd_27 hw)) (by decide) (backOf (W := 0) (rmK l Z a0 hw [] b_127 ob5 kb_127 ka5 (own_max (own_max (own_max (own_max (own_max (0 : Int32) ((0 : Int32) + (1 : Int32))) (x6_15 + (1 : Int32))) (x8_34 + (1 : Int32))) (x10_54 + (1 : Int32))) (x12_75 + (1 : Int32))) (own_put (own_put (own_put (own_put (own_put (own_zeros (own_max (own_max (own_max (own_max (own_max (0 : Int32) ((0 : Int32) + (1 : Int32))) (x6_15 + (1 : Int32))) (x8_34 + (1 : Int32))) (x10_54 + (1 : Int32))) (x12_75 + (1 : Int32)))) x12_75 (4 : Int32)) x10_54 (3 : Int32)) x8_34 (2 : Int32)) x6_15 (1 : Int32)) (0 : Int32) (0 : Int32)) (5 : Int32) (2 : Int32) (0 : Int32) x6_15 x8_34 x10_54 x12_75 T127.heap n0 Zp127 p127_0 f131 (by decide) (own_use (P := fun t => (2 : Int32) < (own_max (own_max (own_max (own_max (own_max (0 : Int32) ((0 : Int32) + (1 : Int32))) (t.1 + (1 : Int32))) (t.2.2.1 + (1 : Int32))) (t.2.2.2.2.1 + (1 : Int32))) (t.2.2.2.2.2.2.1 + (1 : Int32))) → ((own_put (own_put (own_put (own_put (own_put (own_zeros (own_max (own_max (own_max (own_max (own_max (0 : Int32) ((0 : Int32) + (1 : Int32))) (t.1 + (1 : Int32))) (t.2.2.1 + (1 : Int32))) (t.2.2.2.2.1 + (1 : Int32))) (t.2.2.2.2.2.2.1 + (1 : Int32)))) t.2.2.2.2.2.2.1 (4 : Int32)) t.2.2.2.2.1 (3 : Int32)) t.2.2.1 (2 : Int32)) t.1 (1 : Int32)) (0 : Int32) (0 : Int32))).getD ((2 : Int32)).toNatClampNeg 0 = own_first (0 : Int32) t.1 t.2.2.1 t.2.2.2.2.1 t.2.2.2.2.2.2.1 (5 : Int32) (2 : Int32)) (by decide +kernel) hall)) hZ (wd_27 hw) (wd_26 hw) (by decide) (by decide)) (g := (mkF m 322 #[.val (.int p0), .val (.int p1), .val (.int p2), .val (.int p3), .val (.int p4), .val (.int (5 : Int32)), .val (.int x6_15), .val (.int x7_23), .val (.int x8_34), .val (.int x9_43), .val (.int x10_54), .val (.int x11_63), .val (.int x12_75), .val (.int x13_84), .val (.ref ob5), .val (.ref ob111), .val (.int (x13_84 + (1 : Int32))), .val (.ref ob117), .val (.ref b_127)] [(.int (2 : Int32)), (.int (5 : Int32)), (.ref ob5), (.ref b_127)])) rfl (by rw [hml]; rfl) (argsL := [(.ref b_127), (.ref ob5), (.int (5 : Int32)), (.int (2 : Int32))]) (rest := []) (lenOf pd_4 rfl) rfl (by show 2 * 0 + _ ≤ _; exact Nat.le_of_eq rfl) (hb hby at_322) (fun _ _ => ⟨rfl, hs133, (by decide : 4 + 0 ≤ _), (by decide : 17 + 0 ≤ _)⟩)
    dsimp only [Pt.U, Pt.locs, Pt.cells, Pt.slots] at X134 l134 y134 z134 st134 hQ134
    subst l134 y134 z134
    obtain ⟨rfl, N134q, hs134⟩ := hQ134
    have N134 := Fr.app N133 N134q
    refine own_go st134 ?_
    show own_G p e below Φ T134 (mkF m 325 #[.val (.int p0), .val (.int p1), .val (.int p2), .val (.int p3), .val (.int p4), .val (.int (5 : Int32)), .val (.int x6_15), .val (.int x7_23), .val (.int x8_34), .val (.int x9_43), .val (.int x10_54), .val (.int x11_63), .val (.int x12_75), .val (.int x13_84), .val (.ref ob5), .val (.ref ob111), .val (.int (x13_84 + (1 : Int32))), .val (.ref ob117), .val (.ref b_127)] [(.int (1 : Int32))])
    refine own_go (fun _ => XS.ifNo X134.here hx rfl (hb hby at_325) rfl (Jvm.Free.XT.i0_eq_f (by decide : ¬ ((1 : Int32) = (0 : Int32))))) ?_
    show own_G p e below Φ T134 (mkF m 328 #[.val (.int p0), .val (.int p1), .val (.int p2), .val (.int p3), .val (.int p4), .val (.int (5 : Int32)), .val (.int x6_15), .val (.int x7_23), .val (.int x8_34), .val (.int x9_43), .val (.int x10_54), .val (.int x11_63), .val (.int x12_75), .val (.int x13_84), .val (.ref ob5), .val (.ref ob111), .val (.int (x13_84 + (1 : Int32))), .val (.ref ob117), .val (.ref b_127)] [])
    refine own_go (fun _ => XS.aload X134.here hx rfl (hb hby at_328) rfl rfl) ?_
    show own_G p e below Φ T134 (mkF m 330 #[.val (.int p0), .val (.int p1), .val (.int p2), .val (.int p3), .val (.int p4), .val (.int (5 : Int32)), .val (.int x6_15), .val (.int x7_23), .val (.int x8_34), .val (.int x9_43), .val (.int x10_54), .val (.int x11_63), .val (.int x12_75), .val (.int x13_84), .val (.ref ob5), .val (.ref ob111), .val (.int (x13_84 + (1 : Int32))), .val (.ref ob117), .val (.ref b_127)] [(.ref b_127)])
    refine own_go (fun _ => XS.aload X134.here hx rfl (hb hby at_330) rfl rfl) ?_
    show own_G p e below Φ T134 (mkF m 332 #[.val (.int p0), .val (.int p1), .val (.int p2), .val (.int p3), .val (.int p4), .val (.int (5 : Int32)), .val (.int x6_15), .val (.int x7_23), .val (.int x8_34), .val (.int x9_43), .val (.int x10_54), .val (.int x11_63), .val (.int x12_75), .val (.int x13_84), .val (.ref ob5), .val (.ref ob111), .val (.int (x13_84 + (1 : Int32))), .val (.ref ob117), .val (.ref b_127)] [(.ref ob5), (.ref b_127)])
    refine own_go (fun _ => XS.iload X134.here hx rfl (hb hby at_332) rfl) ?_
    show own_G p e below Φ T134 (mkF m 334 #[.val (.int p0), .val (.int p1), .val (.int p2), .val (.int p3), .val (.int p4), .val (.int (5 : Int32)), .val (.int x6_15), .val (.int x7_23), .val (.int x8_34), .val (.int x9_43), .val (.int x10_54), .val (.int x11_63), .val (.int x12_75), .val (.int x13_84), .val (.ref ob5), .val (.ref ob111), .val (.int (x13_84 + (1 : Int32))), .val (.ref ob117), .val (.ref b_127)] [(.int (5 : Int32)), (.ref ob5), (.ref b_127)])
    refine own_go (fun _ => XS.iconst X134.here hx rfl (hb hby at_334)) ?_
    show own_G p e below Φ T134 (mkF m 335 #[.val (.int p0), .val (.int p1), .val (.int p2), .val (.int p3), .val (.int p4), .val (.int (5 : Int32)), .val (.int x6_15), .val (.int x7_23), .val (.int x8_34), .val (.int x9_43), .val (.int x10_54), .val (.int x11_63), .val (.int x12_75), .val (.int x13_84), .val (.ref ob5), .val (.ref ob111), .val (.int (x13_84 + (1 : Int32))), .val (.ref ob117), .val (.ref b_127)] [(.int (3 : Int32)), (.int (5 : Int32)), (.ref ob5), (.ref b_127)])
    obtain ⟨_, _, ⟨T135, zL135, zk135, zn135⟩, -, X135, ⟨Lc135, hQ135, l135, y135, z135⟩, st135⟩ := Jvm.LawKit.callS X134 hx (y := (⟨"com/example/edgewarden/edgewarden/graph/LikenessGetFirstMembersPinLaw", "ok", "([I[III)Z"⟩ : MethodName)) hown (mvT hZ (wd_24 hw)) (mvT hZ (wd_25 hw)) (mvT hZ (wd_26 hw)) (mvT hZ (wd_27 hw)) (by decide) (backOf (W := 0) (rmK l Z a0 hw [] b_127 ob5 kb_127 ka5 (own_max (own_max (own_max (own_max (own_max (0 : Int32) ((0 : Int32) + (1 : Int32))) (x6_15 + (1 : Int32))) (x8_34 + (1 : Int32))) (x10_54 + (1 : Int32))) (x12_75 + (1 : Int32))) (own_put (own_put (own_put (own_put (own_put (own_zeros (own_max (own_max (own_max (own_max (own_max (0 : Int32) ((0 : Int32) + (1 : Int32))) (x6_15 + (1 : Int32))) (x8_34 + (1 : Int32))) (x10_54 + (1 : Int32))) (x12_75 + (1 : Int32)))) x12_75 (4 : Int32)) x10_54 (3 : Int32)) x8_34 (2 : Int32)) x6_15 (1 : Int32)) (0 : Int32) (0 : Int32)) (5 : Int32) (3 : Int32) (0 : Int32) x6_15 x8_34 x10_54 x12_75 T127.heap n0 Zp127 p127_0 f131 (by decide) (own_use (P := fun t => (3 : Int32) < (own_max (own_max (own_max (own_max (own_max (0 : Int32) ((0 : Int32) + (1 : Int32))) (t.1 + (1 : Int32))) (t.2.2.1 + (1 : Int32))) (t.2.2.2.2.1 + (1 : Int32))) (t.2.2.2.2.2.2.1 + (1 : Int32))) → ((own_put (own_put (own_put (own_put (own_put (own_zeros (own_max (own_max (own_max (own_max (own_max (0 : Int32) ((0 : Int32) + (1 : Int32))) (t.1 + (1 : Int32))) (t.2.2.1 + (1 : Int32))) (t.2.2.2.2.1 + (1 : Int32))) (t.2.2.2.2.2.2.1 + (1 : Int32)))) t.2.2.2.2.2.2.1 (4 : Int32)) t.2.2.2.2.1 (3 : Int32)) t.2.2.1 (2 : Int32)) t.1 (1 : Int32)) (0 : Int32) (0 : Int32))).getD ((3 : Int32)).toNatClampNeg 0 = own_first (0 : Int32) t.1 t.2.2.1 t.2.2.2.2.1 t.2.2.2.2.2.2.1 (5 : Int32) (3 : Int32)) (by decide +kernel) hall)) hZ (wd_27 hw) (wd_26 hw) (by decide) (by decide)) (g := (mkF m 335 #[.val (.int p0), .val (.int p1), .val (.int p2), .val (.int p3), .val (.int p4), .val (.int (5 : Int32)), .val (.int x6_15), .val (.int x7_23), .val (.int x8_34), .val (.int x9_43), .val (.int x10_54), .val (.int x11_63), .val (.int x12_75), .val (.int x13_84), .val (.ref ob5), .val (.ref ob111), .val (.int (x13_84 + (1 : Int32))), .val (.ref ob117), .val (.ref b_127)] [(.int (3 : Int32)), (.int (5 : Int32)), (.ref ob5), (.ref b_127)])) rfl (by rw [hml]; rfl) (argsL := [(.ref b_127), (.ref ob5), (.int (5 : Int32)), (.int (3 : Int32))]) (rest := []) (lenOf pd_4 rfl) rfl (by show 2 * 0 + _ ≤ _; exact Nat.le_of_eq rfl) (hb hby at_335) (fun _ _ => ⟨rfl, hs134, (by decide : 4 + 0 ≤ _), (by decide : 17 + 0 ≤ _)⟩)
    dsimp only [Pt.U, Pt.locs, Pt.cells, Pt.slots] at X135 l135 y135 z135 st135 hQ135
    subst l135 y135 z135
    obtain ⟨rfl, N135q, hs135⟩ := hQ135
    have N135 := Fr.app N134 N135q
    refine own_go st135 ?_
    show own_G p e below Φ T135 (mkF m 338 #[.val (.int p0), .val (.int p1), .val (.int p2), .val (.int p3), .val (.int p4), .val (.int (5 : Int32)), .val (.int x6_15), .val (.int x7_23), .val (.int x8_34), .val (.int x9_43), .val (.int x10_54), .val (.int x11_63), .val (.int x12_75), .val (.int x13_84), .val (.ref ob5), .val (.ref ob111), .val (.int (x13_84 + (1 : Int32))), .val (.ref ob117), .val (.ref b_127)] [(.int (1 : Int32))])
    refine own_go (fun _ => XS.ifNo X135.here hx rfl (hb hby at_338) rfl (Jvm.Free.XT.i0_eq_f (by decide : ¬ ((1 : Int32) = (0 : Int32))))) ?_
    show own_G p e below Φ T135 (mkF m 341 #[.val (.int p0), .val (.int p1), .val (.int p2), .val (.int p3), .val (.int p4), .val (.int (5 : Int32)), .val (.int x6_15), .val (.int x7_23), .val (.int x8_34), .val (.int x9_43), .val (.int x10_54), .val (.int x11_63), .val (.int x12_75), .val (.int x13_84), .val (.ref ob5), .val (.ref ob111), .val (.int (x13_84 + (1 : Int32))), .val (.ref ob117), .val (.ref b_127)] [])
    refine own_go (fun _ => XS.aload X135.here hx rfl (hb hby at_341) rfl rfl) ?_
    show own_G p e below Φ T135 (mkF m 343 #[.val (.int p0), .val (.int p1), .val (.int p2), .val (.int p3), .val (.int p4), .val (.int (5 : Int32)), .val (.int x6_15), .val (.int x7_23), .val (.int x8_34), .val (.int x9_43), .val (.int x10_54), .val (.int x11_63), .val (.int x12_75), .val (.int x13_84), .val (.ref ob5), .val (.ref ob111), .val (.int (x13_84 + (1 : Int32))), .val (.ref ob117), .val (.ref b_127)] [(.ref b_127)])
    refine own_go (fun _ => XS.aload X135.here hx rfl (hb hby at_343) rfl rfl) ?_
    show own_G p e below Φ T135 (mkF m 345 #[.val (.int p0), .val (.int p1), .val (.int p2), .val (.int p3), .val (.int p4), .val (.int (5 : Int32)), .val (.int x6_15), .val (.int x7_23), .val (.int x8_34), .val (.int x9_43), .val (.int x10_54), .val (.int x11_63), .val (.int x12_75), .val (.int x13_84), .val (.ref ob5), .val (.ref ob111), .val (.int (x13_84 + (1 : Int32))), .val (.ref ob117), .val (.ref b_127)] [(.ref ob5), (.ref b_127)])
    refine own_go (fun _ => XS.iload X135.here hx rfl (hb hby at_345) rfl) ?_
    show own_G p e below Φ T135 (mkF m 347 #[.val (.int p0), .val (.int p1), .val (.int p2), .val (.int p3), .val (.int p4), .val (.int (5 : Int32)), .val (.int x6_15), .val (.int x7_23), .val (.int x8_34), .val (.int x9_43), .val (.int x10_54), .val (.int x11_63), .val (.int x12_75), .val (.int x13_84), .val (.ref ob5), .val (.ref ob111), .val (.int (x13_84 + (1 : Int32))), .val (.ref ob117), .val (.ref b_127)] [(.int (5 : Int32)), (.ref ob5), (.ref b_127)])
    refine own_go (fun _ => XS.iconst X135.here hx rfl (hb hby at_347)) ?_
    show own_G p e below Φ T135 (mkF m 348 #[.val (.int p0), .val (.int p1), .val (.int p2), .val (.int p3), .val (.int p4), .val (.int (5 : Int32)), .val (.int x6_15), .val (.int x7_23), .val (.int x8_34), .val (.int x9_43), .val (.int x10_54), .val (.int x11_63), .val (.int x12_75), .val (.int x13_84), .val (.ref ob5), .val (.ref ob111), .val (.int (x13_84 + (1 : Int32))), .val (.ref ob117), .val (.ref b_127)] [(.int (4 : Int32)), (.int (5 : Int32)), (.ref ob5), (.ref b_127)])
    obtain ⟨_, _, ⟨T136, zL136, zk136, zn136⟩, -, X136, ⟨Lc136, hQ136, l136, y136, z136⟩, st136⟩ := Jvm.LawKit.callS X135 hx (y := (⟨"com/example/edgewarden/edgewarden/graph/LikenessGetFirstMembersPinLaw", "ok", "([I[III)Z"⟩ : MethodName)) hown (mvT hZ (wd_24 hw)) (mvT hZ (wd_25 hw)) (mvT hZ (wd_26 hw)) (mvT hZ (wd_27 hw)) (by decide) (backOf (W := 0) (rmK l Z a0 hw [] b_127 ob5 kb_127 ka5 (own_max (own_max (own_max (own_max (own_max (0 : Int32) ((0 : Int32) + (1 : Int32))) (x6_15 + (1 : Int32))) (x8_34 + (1 : Int32))) (x10_54 + (1 : Int32))) (x12_75 + (1 : Int32))) (own_put (own_put (own_put (own_put (own_put (own_zeros (own_max (own_max (own_max (own_max (own_max (0 : Int32) ((0 : Int32) + (1 : Int32))) (x6_15 + (1 : Int32))) (x8_34 + (1 : Int32))) (x10_54 + (1 : Int32))) (x12_75 + (1 : Int32)))) x12_75 (4 : Int32)) x10_54 (3 : Int32)) x8_34 (2 : Int32)) x6_15 (1 : Int32)) (0 : Int32) (0 : Int32)) (5 : Int32) (4 : Int32) (0 : Int32) x6_15 x8_34 x10_54 x12_75 T127.heap n0 Zp127 p127_0 f131 (by decide) (own_use (P := fun t => (4 : Int32) < (own_max (own_max (own_max (own_max (own_max (0 : Int32) ((0 : Int32) + (1 : Int32))) (t.1 + (1 : Int32))) (t.2.2.1 + (1 : Int32))) (t.2.2.2.2.1 + (1 : Int32))) (t.2.2.2.2.2.2.1 + (1 : Int32))) → ((own_put (own_put (own_put (own_put (own_put (own_zeros (own_max (own_max (own_max (own_max (own_max (0 : Int32) ((0 : Int32) + (1 : Int32))) (t.1 + (1 : Int32))) (t.2.2.1 + (1 : Int32))) (t.2.2.2.2.1 + (1 : Int32))) (t.2.2.2.2.2.2.1 + (1 : Int32)))) t.2.2.2.2.2.2.1 (4 : Int32)) t.2.2.2.2.1 (3 : Int32)) t.2.2.1 (2 : Int32)) t.1 (1 : Int32)) (0 : Int32) (0 : Int32))).getD ((4 : Int32)).toNatClampNeg 0 = own_first (0 : Int32) t.1 t.2.2.1 t.2.2.2.2.1 t.2.2.2.2.2.2.1 (5 : Int32) (4 : Int32)) (by decide +kernel) hall)) hZ (wd_27 hw) (wd_26 hw) (by decide) (by decide)) (g := (mkF m 348 #[.val (.int p0), .val (.int p1), .val (.int p2), .val (.int p3), .val (.int p4), .val (.int (5 : Int32)), .val (.int x6_15), .val (.int x7_23), .val (.int x8_34), .val (.int x9_43), .val (.int x10_54), .val (.int x11_63), .val (.int x12_75), .val (.int x13_84), .val (.ref ob5), .val (.ref ob111), .val (.int (x13_84 + (1 : Int32))), .val (.ref ob117), .val (.ref b_127)] [(.int (4 : Int32)), (.int (5 : Int32)), (.ref ob5), (.ref b_127)])) rfl (by rw [hml]; rfl) (argsL := [(.ref b_127), (.ref ob5), (.int (5 : Int32)), (.int (4 : Int32))]) (rest := []) (lenOf pd_4 rfl) rfl (by show 2 * 0 + _ ≤ _; exact Nat.le_of_eq rfl) (hb hby at_348) (fun _ _ => ⟨rfl, hs135, (by decide : 4 + 0 ≤ _), (by decide : 17 + 0 ≤ _)⟩)
    dsimp only [Pt.U, Pt.locs, Pt.cells, Pt.slots] at X136 l136 y136 z136 st136 hQ136
    subst l136 y136 z136
    obtain ⟨rfl, N136q, hs136⟩ := hQ136
    have N136 := Fr.app N135 N136q
    refine own_go st136 ?_
    show own_G p e below Φ T136 (mkF m 351 #[.val (.int p0), .val (.int p1), .val (.int p2), .val (.int p3), .val (.int p4), .val (.int (5 : Int32)), .val (.int x6_15), .val (.int x7_23), .val (.int x8_34), .val (.int x9_43), .val (.int x10_54), .val (.int x11_63), .val (.int x12_75), .val (.int x13_84), .val (.ref ob5), .val (.ref ob111), .val (.int (x13_84 + (1 : Int32))), .val (.ref ob117), .val (.ref b_127)] [(.int (1 : Int32))])
    refine own_go (fun _ => XS.ifNo X136.here hx rfl (hb hby at_351) rfl (Jvm.Free.XT.i0_eq_f (by decide : ¬ ((1 : Int32) = (0 : Int32))))) ?_
    show own_G p e below Φ T136 (mkF m 354 #[.val (.int p0), .val (.int p1), .val (.int p2), .val (.int p3), .val (.int p4), .val (.int (5 : Int32)), .val (.int x6_15), .val (.int x7_23), .val (.int x8_34), .val (.int x9_43), .val (.int x10_54), .val (.int x11_63), .val (.int x12_75), .val (.int x13_84), .val (.ref ob5), .val (.ref ob111), .val (.int (x13_84 + (1 : Int32))), .val (.ref ob117), .val (.ref b_127)] [])
    refine own_go (fun _ => XS.iconst X136.here hx rfl (hb hby at_354)) ?_
    show own_G p e below Φ T136 (mkF m 355 #[.val (.int p0), .val (.int p1), .val (.int p2), .val (.int p3), .val (.int p4), .val (.int (5 : Int32)), .val (.int x6_15), .val (.int x7_23), .val (.int x8_34), .val (.int x9_43), .val (.int x10_54), .val (.int x11_63), .val (.int x12_75), .val (.int x13_84), .val (.ref ob5), .val (.ref ob111), .val (.int (x13_84 + (1 : Int32))), .val (.ref ob117), .val (.ref b_127)] [(.int (1 : Int32))])
    refine own_go (fun _ => XS.goto X136.here hx rfl (pc0 := 355) (pc' := 359) rfl (hb hby at_355) (by decide) (by decide)) ?_
    show own_G p e below Φ T136 (mkF m 359 #[.val (.int p0), .val (.int p1), .val (.int p2), .val (.int p3), .val (.int p4), .val (.int (5 : Int32)), .val (.int x6_15), .val (.int x7_23), .val (.int x8_34), .val (.int x9_43), .val (.int x10_54), .val (.int x11_63), .val (.int x12_75), .val (.int x13_84), .val (.ref ob5), .val (.ref ob111), .val (.int (x13_84 + (1 : Int32))), .val (.ref ob117), .val (.ref b_127)] [(.int (1 : Int32))])
    rw [hΦ]
    refine own_ret X136 (v := some (.int (1 : Int32))) (fun h => by rw [Bd.returns] at h; cases h) (BodyLoose.notSynchronized Bd) (fun fs hr => retN X136 hx (t := .boolean) Bd.returns (by simp) (hb hby at_359) hr) ?_ (by decide) (by decide)
    rw [hs136]
    exact ⟨rfl, N136⟩
set_option maxRecDepth 65536 in
set_option maxHeartbeats 40000000 in
theorem comes_1 {Post : Tables → Env → Array Value → State → Outcome → State → Prop} (hpost : ∀ tb e args s v u, (limb_1_1.after args s (.returned v) u = true ∧ limb_1_2.after args s (.returned v) u = true ∧ True) → FrameEnd s (.returned v) u (Jvm.fieldLocs frame_1_writes args s ++ Jvm.arrayLocs frame_1_arrays args s ++ Jvm.staticLocs frame_1_statics s) 16 128 → Post tb e args s (.returned v) u) :
    ArmFor flags0 classFile x code maxLocals ret World_1 tables_1 room_1 Calls_1 rest_1 Pre_1 Post := by
  intro l hfl _ _ p e ha hc hk s m args below hf hA hF happ hP
  obtain ⟨hcalls, hrest, hpre⟩ := hP
  obtain ⟨-, -, -, hnamed, -, -, -, hat⟩ := (Spec.applies_iff hf).mp happ
  obtain ⟨hg, hn⟩ := and_e (Cond.before_iff.mp (show (Jvm.Cond.and given_1 narrow_1).before args s = true from hpre))
  obtain ⟨g1, g2⟩ := and_e hg
  obtain ⟨g3, g4⟩ := and_e g2
  obtain ⟨g5, g6⟩ := and_e g4
  obtain ⟨g7, g8⟩ := and_e g6
  obtain ⟨g9, g10⟩ := and_e g8
  obtain ⟨w0, w1, w2, w3, w4, rfl⟩ : ∃ w0 w1 w2 w3 w4 : Value, args = #[w0, w1, w2, w3, w4] := by
    have hs : args.size = 5 := by simpa [Cond.value, given_1] using g1
    obtain ⟨L⟩ := args
    match L, hs with
    | [w0, w1, w2, w3, w4], _ => exact ⟨w0, w1, w2, w3, w4, rfl⟩
  have hw := fun d (hd : d ∈ tables_1) => atoms_spec (ws := Jvm.Cond.code x code maxLocals ret :: tables_1) hat d (List.mem_cons_of_mem _ hd)
  obtain ⟨i0, ei0⟩ := is_v g3
  obtain rfl : w0 = (.int i0) := Option.some.inj ei0
  obtain ⟨i1, ei1⟩ := is_v g5
  obtain rfl : w1 = (.int i1) := Option.some.inj ei1
  obtain ⟨i2, ei2⟩ := is_v g7
  obtain rfl : w2 = (.int i2) := Option.some.inj ei2
  obtain ⟨i3, ei3⟩ := is_v g9
  obtain rfl : w3 = (.int i3) := Option.some.inj ei3
  obtain ⟨i4, ei4⟩ := is_v g10
  obtain rfl : w4 = (.int i4) := Option.some.inj ei4
  obtain ⟨n, o, h1, h2, h3, _, L, rfl, ⟨rfl, N⟩, hq⟩ := rm0 l s _ hw tables_1 i0 i1 i2 i3 i4 s.heap s.heap.size (Nat.le_refl _)  p e ha hc hk s m _ below hf ((Spec.applies_iff_loose hf).mp happ).1 ⟨rfl, State.Warmed39.refl s, rfl⟩ trivial
  refine ⟨n, _, h1, h2, h3, hpost _ _ _ _ _ _ ⟨Cond.after_iff.mpr rfl, Cond.after_iff.mpr (eq_i res_at (Term.int_eval (1)) rfl), trivial⟩ ⟨hq.1, hq.2.1, (hq.2.2.sift fun y hy => Or.inr (N y hy)).mono (by decide) (by decide)⟩⟩
theorem main_1_1 : Claimed_1_1 := comes_1 fun _ _ _ _ _ _ h hF => ⟨h.1, hF⟩
theorem main_1_2 : Claimed_1_2 := comes_1 fun _ _ _ _ _ _ h hF => ⟨h.2.1, hF⟩
end Jvm.Pilot.@@N@@
namespace Jvm.Pilot.@@N@@
open Jvm Jvm.ClassFile Sem Op Lib Jvm.Free Jvm.Stand Jvm.Pilot.@@N@@.Jvm.D
/-! MADE BY PROGRAM (witnessworld.py) out of the Statement's table words and the real class files: 10 classes; the members and pool entries that the words name. The judged class is class 1, her method 1. -/
namespace start1
open Jvm.ClassFile
def u (s : String) : CpInfo := .utf8 (stringToUtf16 s)
/-- a pool by its gaps: so many unusable entries, then the entry; so many at the end -/
def gap : Nat → List CpInfo → List CpInfo
  | 0, r => r
  | n + 1, r => .unusable :: gap n r
def poolList (es : List (Nat × CpInfo)) (last : Nat) : List CpInfo := es.foldr (fun e r => gap e.1 (e.2 :: r)) (gap last [])
def pool (es : List (Nat × CpInfo)) (last : Nat) : Array CpInfo := ⟨poolList es last⟩
def fileOf (pool : Array CpInfo) (this : Nat) (attrs : Array Attribute := #[]) (ms : Array MethodInfo := #[]) (fl : Nat := 33) (sup : Nat := 0) (ifs : Array Nat := #[]) (fds : Array FieldInfo := #[]) : ClassFile where
  minorVersion := 0
  majorVersion := 65
  constantPool := pool
  accessFlags := fl
  thisClass := this
  superClass := sup
  interfaces := ifs
  fields := fds
  methods := ms
  attributes := attrs
def plain (name : String) (sup : Option ClassId) : Class where
  name := name
  kind := .ordinary
  loader := none
  accessFlags := 33
  super := sup
  interfaces := #[]
  cf := none
  fields := #[]
  methods := #[]
  instanceTypes := #[]
  staticTypes := #[]
  resolved := #[]
  callSites := []
  init := .initialized
  statics := none
  mirror := none

def pool0 : Array CpInfo := pool [(5, u "<init>"), (0, u "()V"), (1, .class_ 10), (1, u "java/lang/Object")] 113

def k0c0 : Code := { maxStack := 0, maxLocals := 1, code := object_method_1_code, exceptionTable := #[], attributes := #[] }
def k0m0 : Method := { name := "<init>", desc := "()V", sig := { parameters := [], returnType := none }, accessFlags := 1, code := some k0c0 }
/-- java/lang/Object -/
def k0 : Class := { plain "java/lang/Object" none with
  accessFlags := 33
  interfaces := #[]
  cf := some (fileOf pool0 8 #[] #[{ accessFlags := 1, nameIndex := 5, descriptorIndex := 6, attributes := #[] }] 33 0 #[] #[])
  fields := #[]
  methods := #[k0m0]
  instanceTypes := #[]
  staticTypes := #[]
  resolved := Array.replicate 124 none
  statics := none }

def pool1 : Array CpInfo := pool [(2, .class_ 4), (1, u "java/lang/Object"), (0, u "<init>"), (0, u "()V"), (0, .integer 2147483647), (0, .methodref 9 10), (0, .class_ 11), (0, .nameAndType 12 13), (0, u "java/lang/Math"), (0, u "max"), (0, u "(II)I"), (0, .class_ 15), (0, u "com/example/edgewarden/edgewarden/graph/Likeness"), (0, .methodref 14 17), (0, .nameAndType 5 18), (0, u "([I)V"), (0, .methodref 14 20), (0, .nameAndType 21 22), (0, u "getFirstMembers"), (0, u "()[I"), (0, .methodref 24 25), (0, .class_ 26), (0, .nameAndType 27 28), (0, u "com/example/edgewarden/edgewarden/graph/LikenessGetFirstMembersPinLaw"), (0, u "ok"), (0, u "([I[III)Z"), (0, .methodref 24 30), (0, .nameAndType 31 32), (0, u "first"), (0, u "([III)I"), (2, u "law"), (0, u "(IIIII)Z")] 5

def k1m0 : Method := { name := "<init>", desc := "()V", sig := { parameters := [], returnType := none }, accessFlags := 1, code := none }
def k1c1 : Code := { maxStack := 4, maxLocals := 19, code := code, exceptionTable := #[], attributes := #[] }
def k1m1 : Method := { name := "law", desc := "(IIIII)Z", sig := { parameters := [.int, .int, .int, .int, .int], returnType := some .boolean }, accessFlags := 9, code := some k1c1 }
def k1c2 : Code := { maxStack := 4, maxLocals := 4, code := method_3_code, exceptionTable := #[], attributes := #[] }
def k1m2 : Method := { name := "ok", desc := "([I[III)Z", sig := { parameters := [(.array .int), (.array .int), .int, .int], returnType := some .boolean }, accessFlags := 10, code := some k1c2 }
def k1c3 : Code := { maxStack := 2, maxLocals := 3, code := method_4_code, exceptionTable := #[], attributes := #[] }
def k1m3 : Method := { name := "first", desc := "([III)I", sig := { parameters := [(.array .int), .int, .int], returnType := some .int }, accessFlags := 10, code := some k1c3 }
/-- com/example/edgewarden/edgewarden/graph/LikenessGetFirstMembersPinLaw -/
def k1 : Class := { plain "com/example/edgewarden/edgewarden/graph/LikenessGetFirstMembersPinLaw" (some 0) with
  accessFlags := 49
  interfaces := #[]
  cf := some (fileOf pool1 24 #[] #[{ accessFlags := 1, nameIndex := 5, descriptorIndex := 6, attributes := #[] }, { accessFlags := 9, nameIndex := 35, descriptorIndex := 36, attributes := #[] }, { accessFlags := 10, nameIndex := 27, descriptorIndex := 28, attributes := #[] }, { accessFlags := 10, nameIndex := 31, descriptorIndex := 32, attributes := #[] }] 49 2 #[] #[])
  fields := #[]
  methods := #[k1m0, k1m1, k1m2, k1m3]
  instanceTypes := #[]
  staticTypes := #[]
  resolved := Array.replicate 42 none
  statics := none }

def pool2 : Array CpInfo := pool [(1, .class_ 2), (0, u "java/lang/Math"), (1, .class_ 6), (1, u "java/lang/Object"), (0, u "<init>"), (0, u "()V"), (89, .class_ 100), (1, u "java/lang/Math$RandomNumberGeneratorHolder"), (71, u "negativeZeroFloatBits"), (0, u "J"), (2, u "negativeZeroDoubleBits"), (21, u "max"), (46, u "$assertionsDisabled"), (0, u "Z"), (88, u "(II)I"), (2, u "twoToTheDoubleScaleDown"), (0, u "D"), (4, u "twoToTheDoubleScaleUp"), (9, u "E"), (3, u "PI"), (2, u "TAU"), (2, u "DEGREES_TO_RADIANS"), (0, u "RADIANS_TO_DEGREES")] 94

def k2m0 : Method := { name := "<init>", desc := "()V", sig := { parameters := [], returnType := none }, accessFlags := 2, code := none }
def k2c1 : Code := { maxStack := 2, maxLocals := 2, code := jdk_29_method_65_code, exceptionTable := #[], attributes := #[] }
def k2m1 : Method := { name := "max", desc := "(II)I", sig := { parameters := [.int, .int], returnType := some .int }, accessFlags := 9, code := some k2c1 }
/-- java/lang/Math -/
def k2 : Class := { plain "java/lang/Math" (some 0) with
  accessFlags := 49
  interfaces := #[]
  cf := some (fileOf pool2 1 #[.nestMembers #[98]] #[{ accessFlags := 2, nameIndex := 7, descriptorIndex := 8, attributes := #[] }, { accessFlags := 9, nameIndex := 198, descriptorIndex := 335, attributes := #[] }] 49 4 #[] #[{ accessFlags := 25, nameIndex := 354, descriptorIndex := 339, attributes := #[] }, { accessFlags := 25, nameIndex := 358, descriptorIndex := 339, attributes := #[] }, { accessFlags := 25, nameIndex := 361, descriptorIndex := 339, attributes := #[] }, { accessFlags := 26, nameIndex := 364, descriptorIndex := 339, attributes := #[] }, { accessFlags := 26, nameIndex := 365, descriptorIndex := 339, attributes := #[] }, { accessFlags := 26, nameIndex := 172, descriptorIndex := 173, attributes := #[] }, { accessFlags := 26, nameIndex := 176, descriptorIndex := 173, attributes := #[] }, { accessFlags := 8, nameIndex := 344, descriptorIndex := 339, attributes := #[] }, { accessFlags := 8, nameIndex := 338, descriptorIndex := 339, attributes := #[] }, { accessFlags := 4120, nameIndex := 245, descriptorIndex := 246, attributes := #[] }])
  fields := #[{ name := "E", type := .double, accessFlags := 25, slot := 0, constantValue := 0 }, { name := "PI", type := .double, accessFlags := 25, slot := 1, constantValue := 0 }, { name := "TAU", type := .double, accessFlags := 25, slot := 2, constantValue := 0 }, { name := "DEGREES_TO_RADIANS", type := .double, accessFlags := 26, slot := 3, constantValue := 0 }, { name := "RADIANS_TO_DEGREES", type := .double, accessFlags := 26, slot := 4, constantValue := 0 }, { name := "negativeZeroFloatBits", type := .long, accessFlags := 26, slot := 5, constantValue := 0 }, { name := "negativeZeroDoubleBits", type := .long, accessFlags := 26, slot := 6, constantValue := 0 }, { name := "twoToTheDoubleScaleUp", type := .double, accessFlags := 8, slot := 7, constantValue := 0 }, { name := "twoToTheDoubleScaleDown", type := .double, accessFlags := 8, slot := 8, constantValue := 0 }, { name := "$assertionsDisabled", type := .boolean, accessFlags := 4120, slot := 9, constantValue := 0 }]
  methods := #[k2m0, k2m1]
  instanceTypes := #[]
  staticTypes := #[.double, .double, .double, .double, .double, .long, .long, .double, .double, .boolean]
  resolved := Array.replicate 460 none
  statics := none }

def pool3 : Array CpInfo := pool [(2, .class_ 4), (1, u "com/example/edgewarden/edgewarden/graph/Likeness"), (36, u "<init>"), (1, .methodref 44 45), (0, .class_ 46), (0, .nameAndType 41 47), (0, u "java/lang/Object"), (0, u "()V"), (42, .fieldref 2 91), (0, .nameAndType 92 93), (0, u "m_aClasses"), (0, u "[I"), (7, u "(II)I"), (3, .class_ 106), (0, u "com/example/edgewarden/edgewarden/graph/Likeness$Places"), (2, u "([I)V"), (13, .fieldref 2 124), (0, .nameAndType 125 126), (0, u "m_nClassCount"), (0, u "I"), (0, .methodref 128 129), (0, .class_ 130), (0, .nameAndType 131 101), (0, u "java/lang/Math"), (0, u "max"), (11, u "()[I"), (0, u "getFirstMembers")] 5

def k3c0 : Code := { maxStack := 3, maxLocals := 7, code := prog_57_method_3_code, exceptionTable := #[], attributes := #[] }
def k3m0 : Method := { name := "<init>", desc := "([I)V", sig := { parameters := [(.array .int)], returnType := none }, accessFlags := 0, code := some k3c0 }
def k3c1 : Code := { maxStack := 3, maxLocals := 3, code := prog_57_method_8_code, exceptionTable := #[], attributes := #[] }
def k3m1 : Method := { name := "getFirstMembers", desc := "()[I", sig := { parameters := [], returnType := some (.array .int) }, accessFlags := 0, code := some k3c1 }
/-- com/example/edgewarden/edgewarden/graph/Likeness -/
def k3 : Class := { plain "com/example/edgewarden/edgewarden/graph/Likeness" (some 0) with
  accessFlags := 32
  interfaces := #[]
  cf := some (fileOf pool3 2 #[.nestMembers #[105]] #[{ accessFlags := 0, nameIndex := 41, descriptorIndex := 109, attributes := #[] }, { accessFlags := 0, nameIndex := 144, descriptorIndex := 143, attributes := #[] }] 32 44 #[] #[{ accessFlags := 18, nameIndex := 92, descriptorIndex := 93, attributes := #[] }, { accessFlags := 18, nameIndex := 125, descriptorIndex := 126, attributes := #[] }])
  fields := #[{ name := "m_aClasses", type := (.array .int), accessFlags := 18, slot := 0, constantValue := 0 }, { name := "m_nClassCount", type := .int, accessFlags := 18, slot := 1, constantValue := 0 }]
  methods := #[k3m0, k3m1]
  instanceTypes := #[(.array .int), .int]
  staticTypes := #[]
  resolved := Array.replicate 150 none
  statics := none }

def pool4 : Array CpInfo := pool [(1, u "java/lang/Cloneable"), (0, .class_ 1), (0, u "java/lang/Object"), (0, .class_ 3)] 3

/-- java/lang/Cloneable -/
def k4 : Class := { plain "java/lang/Cloneable" (some 0) with
  accessFlags := 1537
  interfaces := #[]
  cf := some (fileOf pool4 2 #[] #[] 1537 4 #[] #[])
  fields := #[]
  methods := #[]
  instanceTypes := #[]
  staticTypes := #[]
  resolved := Array.replicate 8 none
  statics := none }

def pool5 : Array CpInfo := pool [(1, u "java/io/Serializable"), (0, .class_ 1), (0, u "java/lang/Object"), (0, .class_ 3)] 3

/-- java/io/Serializable -/
def k5 : Class := { plain "java/io/Serializable" (some 0) with
  accessFlags := 1537
  interfaces := #[]
  cf := some (fileOf pool5 2 #[] #[] 1537 4 #[] #[])
  fields := #[]
  methods := #[]
  instanceTypes := #[]
  staticTypes := #[]
  resolved := Array.replicate 8 none
  statics := none }

/-- the primitive byte -/
def k6 : Class := { plain "byte" none with kind := .primitive 'B', accessFlags := 0x411 }
/-- [B -/
def k7 : Class := { plain "[B" (some 0) with kind := .array 6 .byte, interfaces := #[4, 5], accessFlags := 1041 }

/-- the primitive int -/
def k8 : Class := { plain "int" none with kind := .primitive 'I', accessFlags := 0x411 }
/-- [I -/
def k9 : Class := { plain "[I" (some 0) with kind := .array 8 .int, interfaces := #[4, 5], accessFlags := 1041 }

def heap : Heap := #[]
def classes : Array Class := #[k0, k1, k2, k3, k4, k5, k6, k7, k8, k9]
def interned : List (Array UInt16 × Addr) := []
def slotsUsed : Nat := 0
def theMethod : MethodId := ⟨1, 1⟩
def args0 : Array Value := #[.int 5, .int 5, .int 5, .int 5, .int 5]
def aboutOver (below : List Frame) : State where
  vm := { classes := classes, interned := interned.toArray }
  heap := heap
  slotsUsed := slotsUsed
  threads := #[{ frames := .invoking theMethod args0 :: below }]
def below0 : List Frame := [.native { method := ⟨0, 0⟩, args := #[] }]
def about1 : State := aboutOver below0
def p0 : Program := .bare "" "" ""
def e0 : Env := launch0.env 0 0 0
theorem w_frames : about1.frames = Frame.invoking theMethod args0 :: below0 := rfl
set_option maxRecDepth 65536 in
theorem w_args : argsFit about1.vm theMethod args0 = true := by decide +kernel
set_option maxRecDepth 65536 in
theorem w_heap : heapFits about1 = true := by decide +kernel
set_option maxRecDepth 65536 in
theorem w_runnable : about1.curStatus? = some .runnable := by decide +kernel
set_option maxRecDepth 65536 in
theorem w_alone : about1.alone = true := by decide +kernel
set_option maxRecDepth 65536 in
theorem w_named : about1.methodNamed? x = some theMethod := by decide +kernel
set_option maxRecDepth 65536 in
theorem w_hears : about1.hears theMethod below0 = true := by decide +kernel
set_option maxRecDepth 65536 in
theorem w_ripe : about1.ripe theMethod args0 below0 = true := by decide +kernel
theorem w_running : about1.status = .running := rfl
set_option maxRecDepth 65536 in
theorem w_room : about1.hasRoom e0.platform room_1 = true :=
  launch0.hasRoom_least _ room_1 (by decide +kernel) (by decide +kernel) (by decide +kernel) (by decide +kernel) (by decide +kernel) (by decide +kernel)
theorem allAtoms_all (ts : List Jvm.Cond) (a : Array Jvm.Value) (st : Jvm.State) : (allAtoms ts).before a st = ts.all (fun c => c.before a st) := by
  induction ts with
  | nil => rfl
  | cons c t ih =>
    show (Jvm.Cond.and c (allAtoms t)).before a st = _
    rw [Jvm.Cond.before_and, ih, List.all_cons]
def words1 : List Jvm.Cond := Jvm.Cond.code x code maxLocals ret :: tables_1
/-- a 'code' word, met by the world's own term for the bytes: nothing is compared byte by byte -/
theorem code_word {y : MethodName} {bytes : ByteArray} {mx : Nat} {rt : Option FieldType} {a : Array Value} {s : State} {m : MethodId} {meth : Method} {c : Code} (h1 : s.methodNamed? y = some m) (h2 : s.vm.method? m = some meth) (h3 : meth.code = some c) (h4 : c.code = bytes)
    (h5 : (c.maxLocals == mx && c.exceptionTable.isEmpty && decide (c.maxStack ≤ mostOperands) && decide (meth.sig.returnType = rt) && !meth.locks && decide (parseMethodDescriptor y.desc = some meth.sig)) = true) : (Jvm.Cond.code y bytes mx rt).before a s = true := by
  simp only [Bool.and_eq_true, beq_iff_eq, Bool.not_eq_true', decide_eq_true_eq] at h5
  obtain ⟨⟨⟨⟨⟨g1, g2⟩, g3⟩, g4⟩, g5⟩, g6⟩ := h5
  simp [Cond.before, Cond.holds, Cond.value, h1, h2, h3, h4, g1, g2, g3, g4, g5, g6]
def isCode : Jvm.Cond → Bool
  | .code _ _ _ _ => true
  | _ => false
theorem all_split {L : List Jvm.Cond} {P : Jvm.Cond → Bool} (h1 : L.all (fun c => isCode c || P c) = true) (h2 : ∀ c ∈ L.filter isCode, P c = true) : L.all P = true := by
  refine List.all_eq_true.mpr fun c hc => ?_
  have h := List.all_eq_true.mp h1 c hc
  rcases Bool.eq_false_or_eq_true (isCode c) with hi | hi
  · exact h2 c (List.mem_filter.mpr ⟨hc, hi⟩)
  · simpa [hi] using h
set_option maxRecDepth 65536 in
theorem w_c0 : (Jvm.Cond.code x code maxLocals ret).before args0 about1 = true := code_word (m := ⟨1, 1⟩) (meth := k1m1) (c := k1c1) (by decide +kernel) rfl rfl rfl (by decide +kernel)
set_option maxRecDepth 65536 in
theorem w_c1 : (Jvm.Cond.code ({ cls := "java/lang/Math", name := "max", desc := "(II)I" } : Jvm.MethodName) jdk_29_method_65_code (2 : Nat) (Option.some Jvm.ClassFile.FieldType.int)).before args0 about1 = true := code_word (m := ⟨2, 1⟩) (meth := k2m1) (c := k2c1) (by decide +kernel) rfl rfl rfl (by decide +kernel)
set_option maxRecDepth 65536 in
theorem w_c2 : (Jvm.Cond.code ({ cls := "com/example/edgewarden/edgewarden/graph/Likeness", name := "<init>", desc := "([I)V" } : Jvm.MethodName) prog_57_method_3_code (7 : Nat) (Option.none : Option Jvm.ClassFile.FieldType)).before args0 about1 = true := code_word (m := ⟨3, 0⟩) (meth := k3m0) (c := k3c0) (by decide +kernel) rfl rfl rfl (by decide +kernel)
set_option maxRecDepth 65536 in
theorem w_c3 : (Jvm.Cond.code ({ cls := "java/lang/Object", name := "<init>", desc := "()V" } : Jvm.MethodName) object_method_1_code (1 : Nat) (Option.none : Option Jvm.ClassFile.FieldType)).before args0 about1 = true := code_word (m := ⟨0, 0⟩) (meth := k0m0) (c := k0c0) (by decide +kernel) rfl rfl rfl (by decide +kernel)
set_option maxRecDepth 65536 in
theorem w_c4 : (Jvm.Cond.code ({ cls := "com/example/edgewarden/edgewarden/graph/Likeness", name := "getFirstMembers", desc := "()[I" } : Jvm.MethodName) prog_57_method_8_code (3 : Nat) (Option.some (Jvm.ClassFile.FieldType.array Jvm.ClassFile.FieldType.int))).before args0 about1 = true := code_word (m := ⟨3, 1⟩) (meth := k3m1) (c := k3c1) (by decide +kernel) rfl rfl rfl (by decide +kernel)
set_option maxRecDepth 65536 in
theorem w_c5 : (Jvm.Cond.code ({ cls := "com/example/edgewarden/edgewarden/graph/LikenessGetFirstMembersPinLaw", name := "ok", desc := "([I[III)Z" } : Jvm.MethodName) method_3_code (4 : Nat) (Option.some Jvm.ClassFile.FieldType.boolean)).before args0 about1 = true := code_word (m := ⟨1, 2⟩) (meth := k1m2) (c := k1c2) (by decide +kernel) rfl rfl rfl (by decide +kernel)
set_option maxRecDepth 65536 in
theorem w_c6 : (Jvm.Cond.code ({ cls := "com/example/edgewarden/edgewarden/graph/LikenessGetFirstMembersPinLaw", name := "first", desc := "([III)I" } : Jvm.MethodName) method_4_code (3 : Nat) (Option.some Jvm.ClassFile.FieldType.int)).before args0 about1 = true := code_word (m := ⟨1, 3⟩) (meth := k1m3) (c := k1c3) (by decide +kernel) rfl rfl rfl (by decide +kernel)
def codes1 : List Jvm.Cond := [Jvm.Cond.code x code maxLocals ret, Jvm.Cond.code ({ cls := "java/lang/Math", name := "max", desc := "(II)I" } : Jvm.MethodName) jdk_29_method_65_code (2 : Nat) (Option.some Jvm.ClassFile.FieldType.int), Jvm.Cond.code ({ cls := "com/example/edgewarden/edgewarden/graph/Likeness", name := "<init>", desc := "([I)V" } : Jvm.MethodName) prog_57_method_3_code (7 : Nat) (Option.none : Option Jvm.ClassFile.FieldType), Jvm.Cond.code ({ cls := "java/lang/Object", name := "<init>", desc := "()V" } : Jvm.MethodName) object_method_1_code (1 : Nat) (Option.none : Option Jvm.ClassFile.FieldType), Jvm.Cond.code ({ cls := "com/example/edgewarden/edgewarden/graph/Likeness", name := "getFirstMembers", desc := "()[I" } : Jvm.MethodName) prog_57_method_8_code (3 : Nat) (Option.some (Jvm.ClassFile.FieldType.array Jvm.ClassFile.FieldType.int)), Jvm.Cond.code ({ cls := "com/example/edgewarden/edgewarden/graph/LikenessGetFirstMembersPinLaw", name := "ok", desc := "([I[III)Z" } : Jvm.MethodName) method_3_code (4 : Nat) (Option.some Jvm.ClassFile.FieldType.boolean), Jvm.Cond.code ({ cls := "com/example/edgewarden/edgewarden/graph/LikenessGetFirstMembersPinLaw", name := "first", desc := "([III)I" } : Jvm.MethodName) method_4_code (3 : Nat) (Option.some Jvm.ClassFile.FieldType.int)]
set_option maxRecDepth 65536 in
theorem codes_eq : words1.filter isCode = codes1 := rfl
theorem w_codes : ∀ c ∈ words1.filter isCode, c.before args0 about1 = true := by
  rw [codes_eq]
  intro c hc
  simp only [codes1, List.mem_cons, List.not_mem_nil, or_false] at hc
  rcases hc with rfl | rfl | rfl | rfl | rfl | rfl | rfl
  · exact w_c0
  · exact w_c1
  · exact w_c2
  · exact w_c3
  · exact w_c4
  · exact w_c5
  · exact w_c6
set_option maxRecDepth 65536 in
theorem w_t1 : (words1.take 24).all (fun c => isCode c || c.before args0 about1) = true := by decide +kernel
set_option maxRecDepth 65536 in
theorem w_t2 : (words1.drop 24).all (fun c => isCode c || c.before args0 about1) = true := by decide +kernel
theorem w_tables : (allAtoms (Jvm.Cond.code x code maxLocals ret :: tables_1)).before args0 about1 = true := by
  rw [allAtoms_all]
  show words1.all (fun c => c.before args0 about1) = true
  refine all_split ?_ w_codes
  rw [← List.take_append_drop 24 words1, List.all_append, w_t1, w_t2]
  rfl
set_option maxRecDepth 65536 in
theorem w_case : (Jvm.Cond.and given_1 narrow_1).before args0 about1 = true := by decide +kernel
theorem w_applies : (headSpec (Jvm.Cond.code x code maxLocals ret :: tables_1) room_1).applies x e0.platform about1 = true :=
  (Spec.applies_iff w_frames).mpr ⟨w_running, w_runnable, w_alone, w_named, w_hears, w_ripe, w_room, w_tables⟩
theorem atStart : AtStart classFile x code maxLocals ret World_1 tables_1 room_1 Calls_1 rest_1 Pre_1 launch0 p0 e0 about1 theMethod args0 below0 :=
  ⟨lists_1, trivial, launch0.admits_env _ _ _, launch0.least_env, fairChoices_fair.cas, fairChoices_fair.clock, w_frames, w_args, w_heap, w_applies, trivial, trivial, w_case⟩
end start1
theorem witness_1 : WitnessClaimed_1 := ⟨start1.p0, start1.e0, start1.about1, start1.theMethod, start1.args0, start1.below0, start1.atStart⟩
end Jvm.Pilot.@@N@@
