import JvmDerived
import JvmDerived.Pilot.@@N@@Statement
import JvmDerived.Pilot.@@N@@Code
set_option linter.unusedVariables false
set_option linter.unusedSimpArgs false
namespace Jvm.RoadKit
open Sem ClassFile Op Lib Jvm.Stand Jvm.Free Jvm.LawKit
section Own
variable {p : Program} {l : Launch} {e : Env} {R : Room} {s : State} {m : MethodId} {args : Array Value} {below : List Frame} {meth : Method} {c : Code} {T T' : State} {locs : List Loc} {cells slots : Nat} {g g' : JFrame} {Φ : State → Prop}
/-- from this frame the run comes to a state with Φ -/
def own_G (p : Program) (e : Env) (below : List Frame) (Φ : State → Prop) (T : State) (g : JFrame) : Prop := ∃ t, Steps p.tables e below (T.setTop g) t ∧ Φ t
/-- what the end of a method with the answer Q is -/
def own_E (s : State) (below : List Frame) (Q : Option Value → Heap → List Loc → Prop) (k n : Nat) (t : State) : Prop := ∃ o, t.status = .running ∧ Ended t below o ∧ ∃ v L, o = .returned v ∧ Q v t.heap L ∧ FrameEnd s o t L k n
def own_Al (_ : Stand p l e R s m args below meth c T locs cells slots) (T' : State) : Prop := Stand p l e R s m args below meth c T' locs cells slots
theorem own_go (h : ∀ t, Steps p.tables e below (T'.setTop g') t → Steps p.tables e below (T.setTop g) t) (k : own_G p e below Φ T' g') : own_G p e below Φ T g := by
  obtain ⟨t, a, b⟩ := k
  exact ⟨t, h t a, b⟩
theorem own_on (h : Steps p.tables e below (T.setTop g) (T'.setTop g')) (k : own_G p e below Φ T' g') : own_G p e below Φ T g := by
  obtain ⟨t, a, b⟩ := k
  exact ⟨t, h.trans a, b⟩
theorem own_ret (X : Stand p l e R s m args below meth c T locs cells slots) {Q : Option Value → Heap → List Loc → Prop} {k n : Nat} {v : Option Value} (hv : meth.sig.returnType = none → v = none) (hlocks : meth.locks = false)
    (hst : ∀ fs, (∀ (f : JFrame) (acts : List Action), f.method = m → f.locked = none → f.entered = [] → (doReturn e (T.setTop f) acts v).1 = T.setFrames fs) → Steps p.tables e below (T.setTop g) (T.setFrames fs))
    (hq : Q v T.heap locs) (hc : cells ≤ k) (hn : slots ≤ n) : own_G p e below (own_E s below Q k n) T g := by
  obtain ⟨fs, hr, hrun, hended, hW, hsame⟩ := X.leave hv hlocks
  exact ⟨_, hst fs hr, _, hrun, hended, _, _, rfl, hq, ⟨_, rfl⟩, hW, hsame.mono hc hn⟩
def own_EW (s : State) (below : List Frame) (Q : Option Value → Heap → List Loc → Prop) (k n : Nat) (t : State) : Prop := ∃ o, t.status = .running ∧ Ended t below o ∧ ∃ v L, o = .returned v ∧ Q v t.heap L ∧ ReturnedEndW s o t L k n
theorem own_retW {vm₁ : Vm} (X : Stand p l e R (s.setVm vm₁) m args below meth c T locs cells slots) {q : Nat} (hS : s.Since vm₁ q) (hq' : q ≤ T.heap.size) {Q : Option Value → Heap → List Loc → Prop} {k n : Nat} {v : Option Value} (hv : meth.sig.returnType = none → v = none) (hlocks : meth.locks = false)
    (hst : ∀ fs, (∀ (f : JFrame) (acts : List Action), f.method = m → f.locked = none → f.entered = [] → (doReturn e (T.setTop f) acts v).1 = T.setFrames fs) → Steps p.tables e below (T.setTop g) (T.setFrames fs))
    (hq : Q v T.heap locs) (hc : cells ≤ k) (hn : slots ≤ n) : own_G p e below (own_EW s below Q k n) T g := by
  obtain ⟨fs, hr, hrun, hended, h1, h2, h3, h4⟩ := X.leaveW hS hq' hv hlocks
  exact ⟨_, hst fs hr, _, hrun, hended, _, _, rfl, hq, h1, h2, h3, h4.mono hc hn⟩
theorem own_lrem_eq (x y : Int64) : x - (x / y) * y = x % y := by
  apply Int64.toInt_inj.mp
  have r := rng64 (x % y)
  have hm : (x % y).toInt = x.toInt - y.toInt * x.toInt.tdiv y.toInt := by rw [Int64.toInt_mod, Int.tmod_def]
  have hs : (x - x / y * y).toInt = (x.toInt - y.toInt * x.toInt.tdiv y.toInt).bmod (2 ^ 64) := by
    rw [Int64.toInt_sub, Int64.toInt_mul, Int64.toInt_div, Int.bmod_mul_bmod, Int.sub_bmod_bmod, Int.mul_comm]
  rw [hs, ← hm]
  exact Int.bmod_eq_of_le (by omega) (by omega)
theorem own_lremM {target : State} (X : Stand p l e R s m args below meth c T locs cells slots) (hx : p.tables.exec = Jvm.exec) (hg : g.method = m) {x y : Int64} {rest : List Value} (hd : decode c.code g.pc = .ok (.lrem, 1)) (hs : g.stack = .long y :: .long x :: rest) (hy : y ≠ 0)
    (hr : Steps p.tables e below (T.setTop { g with pc := g.pc + 1, stack := .long (x % y) :: rest }) target) : Steps p.tables e below (T.setTop g) target :=
  XS.lrem X.here hx hg hd hs hy (by rw [own_lrem_eq]; exact hr)
theorem own_nar {v : Value} {t : FieldType} (h : v.isRef = true) : narrow t v = v := by
  rcases ref_cases h with rfl | ⟨a, rfl⟩ <;> cases t <;> rfl
end Own
end Jvm.RoadKit
namespace Jvm.Pilot.@@N@@
open Jvm Jvm.ClassFile Sem Op Lib Jvm.Free Jvm.Stand Jvm.LawKit Jvm.RoadKit Bundle Jvm.Pilot.@@N@@.Jvm.D

def own_max (a b : Int32) : Int32 := if a < b then b else a
/-- the ints of a list as an array's values -/
def own_vs (L : List Int32) : List Value := L.map Value.int
theorem own_vs_at (L : List Int32) (k : Nat) : (own_vs L).getD k (.int (0 : Int32)) = .int (L.getD k 0) := by
  simp only [own_vs, List.getD_eq_getElem?_getD, List.getElem?_map]
  cases L[k]? <;> rfl
theorem own_vs_set (L : List Int32) (k : Nat) (x : Int32) : (own_vs L).set k (.int x) = own_vs (L.set k x) := by
  simp [own_vs, List.map_set]
theorem own_vs_len (L : List Int32) : (own_vs L).length = L.length := by simp [own_vs]
def own_zeros (z : Int32) : List Int32 := List.replicate z.toNatClampNeg 0
theorem own_pad (z : Int32) : ∀ i, (own_vs (own_zeros z)).getD i (.int (0 : Int32)) = ([] : List Value).getD i (.int (0 : Int32)) := fun i => by
  rw [own_vs_at, own_zeros]
  simp only [List.getD_eq_getElem?_getD, List.getElem?_replicate, List.getElem?_nil, Option.getD_none]
  split <;> rfl
theorem own_clamp {j z : Int32} (h : ¬ j < 0 ∧ j < z) : j.toNatClampNeg < z.toNatClampNeg := by
  have h1 := h.1
  have h2 := h.2
  rw [Int32.lt_iff_toInt_lt] at h1 h2
  rw [show (0 : Int32).toInt = 0 from rfl] at h1
  rw [Int32.toNatClampNeg, Int32.toNatClampNeg]
  omega
theorem own_mask (p : Int32) : 0 ≤ (p &&& (2147483647 : Int32)).toInt := by
  have h := mt (Jvm.Free.XT.and_neg32 p (2147483647 : Int32)).mp (fun q => absurd q.2 (by decide))
  rw [Jvm.Free.XT.negI32] at h
  omega
theorem own_mod (p q : Int32) (hq : 0 < q.toInt) : 0 ≤ ((p &&& (2147483647 : Int32)) % q).toInt ∧ ((p &&& (2147483647 : Int32)) % q).toInt < q.toInt := by
  rw [Int32.toInt_mod]
  exact ⟨Int.tmod_nonneg _ (own_mask p), Int.tmod_lt_of_pos _ hq⟩
theorem own_i {x : Int32} (y : Int32) (h : x.toInt = y.toInt) : x = y := Int32.toInt_inj.mp h
theorem own_r2 {p c : Int32} (h : (p &&& (2147483647 : Int32)) % (2 : Int32) = c) : c = 0 ∨ c = 1 := by
  have hm := own_mod p 2 (by decide)
  rw [h, show (2 : Int32).toInt = 2 by decide] at hm
  have q : c.toInt = 0 ∨ c.toInt = 1 := by omega
  exact q.imp (own_i 0) (own_i 1)
theorem own_r3 {p c : Int32} (h : (p &&& (2147483647 : Int32)) % (3 : Int32) = c) : c = 0 ∨ c = 1 ∨ c = 2 := by
  have hm := own_mod p 3 (by decide)
  rw [h, show (3 : Int32).toInt = 3 by decide] at hm
  have q : c.toInt = 0 ∨ c.toInt = 1 ∨ c.toInt = 2 := by omega
  exact q.imp (own_i 0) (Or.imp (own_i 1) (own_i 2))
theorem own_r4 {p c : Int32} (h : (p &&& (2147483647 : Int32)) % (4 : Int32) = c) : c = 0 ∨ c = 1 ∨ c = 2 ∨ c = 3 := by
  have hm := own_mod p 4 (by decide)
  rw [h, show (4 : Int32).toInt = 4 by decide] at hm
  have q : c.toInt = 0 ∨ c.toInt = 1 ∨ c.toInt = 2 ∨ c.toInt = 3 := by omega
  exact q.imp (own_i 0) (Or.imp (own_i 1) (Or.imp (own_i 2) (own_i 3)))
theorem own_r5 {p c : Int32} (h : (p &&& (2147483647 : Int32)) % (5 : Int32) = c) : c = 0 ∨ c = 1 ∨ c = 2 ∨ c = 3 ∨ c = 4 := by
  have hm := own_mod p 5 (by decide)
  rw [h, show (5 : Int32).toInt = 5 by decide] at hm
  have q : c.toInt = 0 ∨ c.toInt = 1 ∨ c.toInt = 2 ∨ c.toInt = 3 ∨ c.toInt = 4 := by omega
  exact q.imp (own_i 0) (Or.imp (own_i 1) (Or.imp (own_i 2) (Or.imp (own_i 3) (own_i 4))))
theorem own_r6 {p c : Int32} (h : (p &&& (2147483647 : Int32)) % (6 : Int32) = c) : c = 0 ∨ c = 1 ∨ c = 2 ∨ c = 3 ∨ c = 4 ∨ c = 5 := by
  have hm := own_mod p 6 (by decide)
  rw [h, show (6 : Int32).toInt = 6 by decide] at hm
  have q : c.toInt = 0 ∨ c.toInt = 1 ∨ c.toInt = 2 ∨ c.toInt = 3 ∨ c.toInt = 4 ∨ c.toInt = 5 := by omega
  exact q.imp (own_i 0) (Or.imp (own_i 1) (Or.imp (own_i 2) (Or.imp (own_i 3) (Or.imp (own_i 4) (own_i 5)))))

def own_inc (L : List Int32) (j : Int32) : List Int32 := L.set j.toNatClampNeg (L.getD j.toNatClampNeg 0 + (1 : Int32))
theorem own_inc_len (L : List Int32) (j : Int32) : (own_inc L j).length = L.length := by simp [own_inc]
theorem own_zeros_len (z : Int32) : (own_zeros z).length = z.toNatClampNeg := by simp [own_zeros]
def own_stp (s n i c k : Int32) : Int32 := if i < n ∧ c = k then s + 1 else s
def own_cnt (k n c0 c1 c2 c3 : Int32) : Int32 := own_stp (own_stp (own_stp (own_stp 0 n 0 c0 k) n 1 c1 k) n 2 c2 k) n 3 c3 k
/-- what the law's numbers c1, m1, c2, m2, c3, m3 can be -/
def own_list : List (Int32 × Int32 × Int32 × Int32 × Int32 × Int32) :=
  [0, 1].flatMap fun c1 => (List.range ((own_max 0 c1).toNatClampNeg + 2)).flatMap fun c2 => (List.range ((own_max (own_max 0 c1) (Int32.ofNat c2)).toNatClampNeg + 2)).map fun c3 =>
    (c1, own_max 0 c1, Int32.ofNat c2, own_max (own_max 0 c1) (Int32.ofNat c2), Int32.ofNat c3, own_max (own_max (own_max 0 c1) (Int32.ofNat c2)) (Int32.ofNat c3))
theorem own_use {P : Int32 × Int32 × Int32 × Int32 × Int32 × Int32 → Prop} (h : ∀ t ∈ own_list, P t) {c1 m1 c2 m2 c3 m3 : Int32} (hm : (c1, m1, c2, m2, c3, m3) ∈ own_list) : P (c1, m1, c2, m2, c3, m3) := h _ hm
theorem own_nz1 {p1 c1 m1 : Int32} (h1 : (p1 &&& (2147483647 : Int32)) % (2 : Int32) = c1) (hm1 : own_max (0 : Int32) c1 = m1) : m1 + (2 : Int32) ≠ 0 := by
  rcases own_r2 h1 with rfl | rfl <;> subst hm1 <;> decide
theorem own_nz2 {p1 p2 c1 m1 c2 m2 : Int32} (h1 : (p1 &&& (2147483647 : Int32)) % (2 : Int32) = c1) (hm1 : own_max (0 : Int32) c1 = m1) (h2 : (p2 &&& (2147483647 : Int32)) % (m1 + (2 : Int32)) = c2) (hm2 : own_max m1 c2 = m2) : m2 + (2 : Int32) ≠ 0 := by
  rcases own_r2 h1 with rfl | rfl <;> subst hm1
  · rcases own_r2 h2 with rfl | rfl <;> subst hm2 <;> decide
  · rcases own_r3 h2 with rfl | rfl | rfl <;> subst hm2 <;> decide
theorem own_all {p1 p2 p3 c1 m1 c2 m2 c3 m3 : Int32} (h1 : (p1 &&& (2147483647 : Int32)) % (2 : Int32) = c1) (hm1 : own_max (0 : Int32) c1 = m1) (h2 : (p2 &&& (2147483647 : Int32)) % (m1 + (2 : Int32)) = c2) (hm2 : own_max m1 c2 = m2)
    (h3 : (p3 &&& (2147483647 : Int32)) % (m2 + (2 : Int32)) = c3) (hm3 : own_max m2 c3 = m3) : (c1, m1, c2, m2, c3, m3) ∈ own_list := by
  rcases own_r2 h1 with rfl | rfl <;> subst hm1
  · rcases own_r2 h2 with rfl | rfl <;> subst hm2
    · rcases own_r2 h3 with rfl | rfl <;> subst hm3 <;> decide +kernel
    · rcases own_r3 h3 with rfl | rfl | rfl <;> subst hm3 <;> decide +kernel
  · rcases own_r3 h2 with rfl | rfl | rfl <;> subst hm2
    · rcases own_r3 h3 with rfl | rfl | rfl <;> subst hm3 <;> decide +kernel
    · rcases own_r3 h3 with rfl | rfl | rfl <;> subst hm3 <;> decide +kernel
    · rcases own_r4 h3 with rfl | rfl | rfl | rfl <;> subst hm3 <;> decide +kernel

theorem d1_0 : decode jdk_29_method_65_code 0 = .ok (.iload_n 0, 1) := by decide +kernel
theorem d1_1 : decode jdk_29_method_65_code 1 = .ok (.iload_n 1, 1) := by decide +kernel
theorem d1_2 : decode jdk_29_method_65_code 2 = .ok (.if_icmp .lt 7, 3) := by decide +kernel
theorem d1_9 : decode jdk_29_method_65_code 9 = .ok (.iload_n 1, 1) := by decide +kernel
theorem d1_10 : decode jdk_29_method_65_code 10 = .ok (.ireturn, 1) := by decide +kernel
theorem d1_5 : decode jdk_29_method_65_code 5 = .ok (.iload_n 0, 1) := by decide +kernel
theorem d1_6 : decode jdk_29_method_65_code 6 = .ok (.goto 4, 3) := by decide +kernel
theorem ef_rmM (m : MethodId) (p1 : Int32) (p2 : Int32) : entryFrame m #[(.int p1), (.int p2)] 2 = mkF m 0 #[.val (.int p1), .val (.int p2)] [] := by first | (simp [entryFrame, mkF, argsToLocals, Value.category]; done) | rfl
def Q_rmM (Z : State) (p1 : Int32) (p2 : Int32) (h0 : Heap) (n0 : Nat) (v : Option Value) (h : Heap) (L : List Loc) : Prop := v = some (.int (own_max p1 p2)) ∧ Fr n0 L ∧ h = h0
set_option maxRecDepth 65536 in
set_option maxHeartbeats 40000000 in
theorem rmM (l : Launch) (Z : State) (a0 : Array Value) (hw : ∀ d ∈ tables_1, d.before a0 Z = true) (ws : List Jvm.Cond) (p1 : Int32) (p2 : Int32) (h0 : Heap) (n0 : Nat) (Z0 : n0 ≤ h0.size)  :
    MetFree l (⟨"java/lang/Math", "max", "(II)I"⟩ : MethodName) (head1 (Jvm.Cond.code (⟨"java/lang/Math", "max", "(II)I"⟩ : MethodName) jdk_29_method_65_code 2 (some .int) :: ws) ({ frames := 0, cells := 0, slots := 0, locals := 0 } : Room)) (fun a U => a = #[(.int p1), (.int p2)] ∧ Z.Warmed39 U.vm ∧ U.heap = h0) (fun _ _ _ _ _ => True) (fun _ U o U' => ∃ v L, o = .returned v ∧ Q_rmM Z p1 p2 h0 n0 v U'.heap L ∧ FrameEnd U o U' L ({ frames := 0, cells := 0, slots := 0, locals := 0 } : Room).cells ({ frames := 0, cells := 0, slots := 0, locals := 0 } : Room).slots) := by
  refine MetFree.of_bodySF (Jvm.Free.JP.mathPlain rfl (by decide +kernel)) hisR ?_
  intro p e s m args below meth c s₁ Bd hml0 hP hK
  obtain ⟨rfl, hZ, hh⟩ := hP
  have hx := Bd.exec
  have hby := Bd.bytes
  have hml : c.maxLocals = 2 := hml0
  have hown : s.vm.findClass "java/lang/Math" = some m.cls := findClass_of_methodNamed Bd.named
  have hnm := (name_of_methodNamed Bd.named Bd.method).1
  have X0 : Stand p l e ({ frames := 0, cells := 0, slots := 0, locals := 0 } : Room) s m #[(.int p1), (.int p2)] below meth c s₁ [] 0 0 := Stand.of_body Bd
  have e0 : s₁.heap = h0 := by rw [← hh, Bd.state]; rfl
  have N0 := Fr.nil n0
  suffices G0 : own_G p e below (own_E s below (Q_rmM Z p1 p2 h0 n0) ({ frames := 0, cells := 0, slots := 0, locals := 0 } : Room).cells ({ frames := 0, cells := 0, slots := 0, locals := 0 } : Room).slots) s₁ (mkF m 0 #[.val (.int p1), .val (.int p2)] []) by
    obtain ⟨zt, zst, zo, zq1, zq2, zq3⟩ := G0
    exact ⟨zt, zo, castTop (ef_rmM m p1 p2) zst, zq1, zq2, zq3⟩
  obtain ⟨Φ, hΦ⟩ : ∃ Φ, Φ = own_E s below (Q_rmM Z p1 p2 h0 n0) ({ frames := 0, cells := 0, slots := 0, locals := 0 } : Room).cells ({ frames := 0, cells := 0, slots := 0, locals := 0 } : Room).slots := ⟨_, rfl⟩
  rw [← hΦ]
  show own_G p e below Φ s₁ (mkF m 0 #[.val (.int p1), .val (.int p2)] [])
  refine own_go (fun _ => XS.iloadN X0.here hx rfl (hb hby d1_0) rfl) ?_
  show own_G p e below Φ s₁ (mkF m 1 #[.val (.int p1), .val (.int p2)] [(.int p1)])
  refine own_go (fun _ => XS.iloadN X0.here hx rfl (hb hby d1_1) rfl) ?_
  show own_G p e below Φ s₁ (mkF m 2 #[.val (.int p1), .val (.int p2)] [(.int p2), (.int p1)])
  by_cases hc2 : p1 < p2
  · refine own_go (fun _ => XS.icmpYes X0.here hx rfl (pc0 := 2) (pc' := 9) rfl (hb hby d1_2) rfl (Jvm.Free.XT.ii_lt_t hc2) (by decide) (by decide)) ?_
    show own_G p e below Φ s₁ (mkF m 9 #[.val (.int p1), .val (.int p2)] [])
    refine own_go (fun _ => XS.iloadN X0.here hx rfl (hb hby d1_9) rfl) ?_
    show own_G p e below Φ s₁ (mkF m 10 #[.val (.int p1), .val (.int p2)] [(.int p2)])
    rw [hΦ]
    refine own_ret X0 (v := some (.int p2)) (fun h => by rw [Bd.returns] at h; cases h) (BodyLoose.notSynchronized Bd) (fun fs hr => retOut X0 hx Bd.returns rfl (Or.inl ⟨rfl, Or.inl rfl, _, rfl⟩) (hb hby d1_10) hr) ?_ (by decide) (by decide)
    rw [e0]
    exact ⟨(by simp [own_max, hc2]), N0, rfl⟩
  · refine own_go (fun _ => XS.icmpNo X0.here hx rfl (hb hby d1_2) rfl (Jvm.Free.XT.ii_lt_f hc2)) ?_
    show own_G p e below Φ s₁ (mkF m 5 #[.val (.int p1), .val (.int p2)] [])
    refine own_go (fun _ => XS.iloadN X0.here hx rfl (hb hby d1_5) rfl) ?_
    show own_G p e below Φ s₁ (mkF m 6 #[.val (.int p1), .val (.int p2)] [(.int p1)])
    refine own_go (fun _ => XS.goto X0.here hx rfl (pc0 := 6) (pc' := 10) rfl (hb hby d1_6) (by decide) (by decide)) ?_
    show own_G p e below Φ s₁ (mkF m 10 #[.val (.int p1), .val (.int p2)] [(.int p1)])
    rw [hΦ]
    refine own_ret X0 (v := some (.int p1)) (fun h => by rw [Bd.returns] at h; cases h) (BodyLoose.notSynchronized Bd) (fun fs hr => retOut X0 hx Bd.returns rfl (Or.inl ⟨rfl, Or.inl rfl, _, rfl⟩) (hb hby d1_10) hr) ?_ (by decide) (by decide)
    rw [e0]
    exact ⟨(by simp [own_max, hc2]), N0, rfl⟩
theorem d2_0 : decode prog_57_method_3_code 0 = .ok (.aload_n 0, 1) := by decide +kernel
theorem d2_1 : decode prog_57_method_3_code 1 = .ok (.invokespecial 43, 3) := by decide +kernel
theorem wd_12 {Z : State} {a0 : Array Value} (hw : ∀ d ∈ tables_1, d.before a0 Z = true) : ((Jvm.Cond.methodLink "com/example/edgewarden/edgewarden/graph/Likeness" (43 : Nat) ({ cls := "java/lang/Object", name := "<init>", desc := "()V" } : Jvm.MethodName)) : Jvm.Cond).before a0 Z = true := hw _ (List.mem_of_getElem? (i := 12) rfl)
theorem wd_13 {Z : State} {a0 : Array Value} (hw : ∀ d ∈ tables_1, d.before a0 Z = true) : ((Jvm.Cond.instanceMethod ({ cls := "java/lang/Object", name := "<init>", desc := "()V" } : Jvm.MethodName)) : Jvm.Cond).before a0 Z = true := hw _ (List.mem_of_getElem? (i := 13) rfl)
theorem wd_14 {Z : State} {a0 : Array Value} (hw : ∀ d ∈ tables_1, d.before a0 Z = true) : ((Jvm.Cond.code ({ cls := "java/lang/Object", name := "<init>", desc := "()V" } : Jvm.MethodName) object_method_1_code (1 : Nat) (Option.none : Option Jvm.ClassFile.FieldType)) : Jvm.Cond).before a0 Z = true := hw _ (List.mem_of_getElem? (i := 14) rfl)
theorem d2_4 : decode prog_57_method_3_code 4 = .ok (.aload_n 0, 1) := by decide +kernel
theorem d2_5 : decode prog_57_method_3_code 5 = .ok (.aload_n 1, 1) := by decide +kernel
theorem d2_6 : decode prog_57_method_3_code 6 = .ok (.putfield 90, 3) := by decide +kernel
theorem wd_15 {Z : State} {a0 : Array Value} (hw : ∀ d ∈ tables_1, d.before a0 Z = true) : ((Jvm.Cond.fieldLink "com/example/edgewarden/edgewarden/graph/Likeness" (90 : Nat) "com/example/edgewarden/edgewarden/graph/Likeness" "m_aClasses" "[I") : Jvm.Cond).before a0 Z = true := hw _ (List.mem_of_getElem? (i := 15) rfl)
theorem wd_16 {Z : State} {a0 : Array Value} (hw : ∀ d ∈ tables_1, d.before a0 Z = true) : ((Jvm.Cond.laysFinal "com/example/edgewarden/edgewarden/graph/Likeness" "com/example/edgewarden/edgewarden/graph/Likeness" "m_aClasses" "[I") : Jvm.Cond).before a0 Z = true := hw _ (List.mem_of_getElem? (i := 16) rfl)
theorem wd_7 {Z : State} {a0 : Array Value} (hw : ∀ d ∈ tables_1, d.before a0 Z = true) : ((Jvm.Cond.instantiable "com/example/edgewarden/edgewarden/graph/Likeness" (2 : Nat)) : Jvm.Cond).before a0 Z = true := hw _ (List.mem_of_getElem? (i := 7) rfl)
theorem d2_9 : decode prog_57_method_3_code 9 = .ok (.iconst 0, 1) := by decide +kernel
theorem d2_10 : decode prog_57_method_3_code 10 = .ok (.istore_n 2, 1) := by decide +kernel
theorem d2_11 : decode prog_57_method_3_code 11 = .ok (.aload_n 1, 1) := by decide +kernel
theorem d2_12 : decode prog_57_method_3_code 12 = .ok (.astore_n 3, 1) := by decide +kernel
theorem d2_13 : decode prog_57_method_3_code 13 = .ok (.aload_n 3, 1) := by decide +kernel
theorem d2_14 : decode prog_57_method_3_code 14 = .ok (.arraylength, 1) := by decide +kernel
theorem d2_15 : decode prog_57_method_3_code 15 = .ok (.istore 4, 2) := by decide +kernel
theorem d2_17 : decode prog_57_method_3_code 17 = .ok (.iconst 0, 1) := by decide +kernel
theorem d2_18 : decode prog_57_method_3_code 18 = .ok (.istore 5, 2) := by decide +kernel
theorem d2_20 : decode prog_57_method_3_code 20 = .ok (.iload 5, 2) := by decide +kernel
theorem d2_22 : decode prog_57_method_3_code 22 = .ok (.iload 4, 2) := by decide +kernel
theorem d2_24 : decode prog_57_method_3_code 24 = .ok (.if_icmp .ge 24, 3) := by decide +kernel
theorem d2_48 : decode prog_57_method_3_code 48 = .ok (.aload_n 0, 1) := by decide +kernel
theorem d2_49 : decode prog_57_method_3_code 49 = .ok (.iload_n 2, 1) := by decide +kernel
theorem d2_50 : decode prog_57_method_3_code 50 = .ok (.putfield 123, 3) := by decide +kernel
theorem wd_17 {Z : State} {a0 : Array Value} (hw : ∀ d ∈ tables_1, d.before a0 Z = true) : ((Jvm.Cond.fieldLink "com/example/edgewarden/edgewarden/graph/Likeness" (123 : Nat) "com/example/edgewarden/edgewarden/graph/Likeness" "m_nClassCount" "I") : Jvm.Cond).before a0 Z = true := hw _ (List.mem_of_getElem? (i := 17) rfl)
theorem wd_18 {Z : State} {a0 : Array Value} (hw : ∀ d ∈ tables_1, d.before a0 Z = true) : ((Jvm.Cond.laysFinal "com/example/edgewarden/edgewarden/graph/Likeness" "com/example/edgewarden/edgewarden/graph/Likeness" "m_nClassCount" "I") : Jvm.Cond).before a0 Z = true := hw _ (List.mem_of_getElem? (i := 18) rfl)
theorem sl_0 {Z : State} {a0 : Array Value} (hw : ∀ d ∈ tables_1, d.before a0 Z = true) : Jvm.RoadKit.slotOf Z "com/example/edgewarden/edgewarden/graph/Likeness" "m_nClassCount" "I" ≠ Jvm.RoadKit.slotOf Z "com/example/edgewarden/edgewarden/graph/Likeness" "m_aClasses" "[I" := slot_ne (C := "com/example/edgewarden/edgewarden/graph/Likeness") (Or.inr (wd_18 hw)) (Or.inr (wd_16 hw)) (by decide) (t := .int) (t' := (.array .int)) (by decide) (by decide)
theorem d2_53 : decode prog_57_method_3_code 53 = .ok (.return_, 1) := by decide +kernel
theorem sl_1 {Z : State} {a0 : Array Value} (hw : ∀ d ∈ tables_1, d.before a0 Z = true) : Jvm.RoadKit.slotOf Z "com/example/edgewarden/edgewarden/graph/Likeness" "m_aClasses" "[I" ≠ Jvm.RoadKit.slotOf Z "com/example/edgewarden/edgewarden/graph/Likeness" "m_nClassCount" "I" := slot_ne (C := "com/example/edgewarden/edgewarden/graph/Likeness") (Or.inr (wd_16 hw)) (Or.inr (wd_18 hw)) (by decide) (t := (.array .int)) (t' := .int) (by decide) (by decide)
theorem pn_0 : plainName "com/example/edgewarden/edgewarden/graph/Likeness" = true := by first | (simp [plainName, overriddenIn]; done) | decide +kernel
theorem ef_rmI0 (m : MethodId) (a1 : Addr) (ar : Addr) : entryFrame m #[(.ref a1), (.ref ar)] 7 = mkF m 0 #[.val (.ref a1), .val (.ref ar), .unset, .unset, .unset, .unset, .unset] [] := by first | (simp [entryFrame, mkF, argsToLocals, Value.category]; done) | rfl
def Q_rmI0 (Z : State) (a1 : Addr) (ar : Addr) (ka : ClassId) (u0 : Value) (u1 : Value) (h0 : Heap) (n0 : Nat) (v : Option Value) (h : Heap) (L : List Loc) : Prop := v = none ∧ Fr n0 L ∧ Keep h0 h [a1] ∧ Exa Z h a1 "com/example/edgewarden/edgewarden/graph/Likeness" ∧ Fld Z h a1 "com/example/edgewarden/edgewarden/graph/Likeness" "m_aClasses" "[I" (.ref ar) ∧ Fld Z h a1 "com/example/edgewarden/edgewarden/graph/Likeness" "m_nClassCount" "I" (.int (0 : Int32))
set_option maxRecDepth 65536 in
set_option maxHeartbeats 40000000 in
theorem rmI0 (l : Launch) (Z : State) (a0 : Array Value) (hw : ∀ d ∈ tables_1, d.before a0 Z = true) (ws : List Jvm.Cond) (a1 : Addr) (ar : Addr) (ka : ClassId) (u0 : Value) (u1 : Value) (h0 : Heap) (n0 : Nat) (Z0 : n0 ≤ h0.size) (E_a1 : Exa Z h0 a1 "com/example/edgewarden/edgewarden/graph/Likeness") (F_m_aClasses_a1 : Fld Z h0 a1 "com/example/edgewarden/edgewarden/graph/Likeness" "m_aClasses" "[I" u0) (F_m_nClassCount_a1 : Fld Z h0 a1 "com/example/edgewarden/edgewarden/graph/Likeness" "m_nClassCount" "I" u1) (g_a1 : n0 ≤ a1) (V_ar : Arv Z h0 ar ka .int (0 : Int32) [] (.int (0 : Int32))) (ne_ar_a1 : ar ≠ a1) :
    MetFree l (⟨"com/example/edgewarden/edgewarden/graph/Likeness", "<init>", "([I)V"⟩ : MethodName) (head1 (Jvm.Cond.code (⟨"com/example/edgewarden/edgewarden/graph/Likeness", "<init>", "([I)V"⟩ : MethodName) prog_57_method_3_code 7 none :: ws) ({ frames := 1, cells := 0, slots := 0, locals := 12 } : Room)) (fun a U => a = #[(.ref a1), (.ref ar)] ∧ Z.Warmed39 U.vm ∧ U.heap = h0) (fun _ _ _ _ _ => True) (fun _ U o U' => ∃ v L, o = .returned v ∧ Q_rmI0 Z a1 ar ka u0 u1 h0 n0 v U'.heap L ∧ FrameEnd U o U' L ({ frames := 1, cells := 0, slots := 0, locals := 12 } : Room).cells ({ frames := 1, cells := 0, slots := 0, locals := 12 } : Room).slots) := by
  refine MetFree.of_bodySF (plainFor_of_name pn_0) hisR ?_
  intro p e s m args below meth c s₁ Bd hml0 hP hK
  obtain ⟨rfl, hZ, hh⟩ := hP
  have hx := Bd.exec
  have hby := Bd.bytes
  have hml : c.maxLocals = 7 := hml0
  have hown : s.vm.findClass "com/example/edgewarden/edgewarden/graph/Likeness" = some m.cls := findClass_of_methodNamed Bd.named
  have hnm := (name_of_methodNamed Bd.named Bd.method).1
  have X0 : Stand p l e ({ frames := 1, cells := 0, slots := 0, locals := 12 } : Room) s m #[(.ref a1), (.ref ar)] below meth c s₁ [] 0 0 := Stand.of_body Bd
  have e0 : s₁.heap = h0 := by rw [← hh, Bd.state]; rfl
  have N0 := Fr.nil n0
  have K0 : Keep h0 h0 [a1] := Keep.refl _ _
  suffices G0 : own_G p e below (own_E s below (Q_rmI0 Z a1 ar ka u0 u1 h0 n0) ({ frames := 1, cells := 0, slots := 0, locals := 12 } : Room).cells ({ frames := 1, cells := 0, slots := 0, locals := 12 } : Room).slots) s₁ (mkF m 0 #[.val (.ref a1), .val (.ref ar), .unset, .unset, .unset, .unset, .unset] []) by
    obtain ⟨zt, zst, zo, zq1, zq2, zq3⟩ := G0
    exact ⟨zt, zo, castTop (ef_rmI0 m a1 ar) zst, zq1, zq2, zq3⟩
  obtain ⟨Φ, hΦ⟩ : ∃ Φ, Φ = own_E s below (Q_rmI0 Z a1 ar ka u0 u1 h0 n0) ({ frames := 1, cells := 0, slots := 0, locals := 12 } : Room).cells ({ frames := 1, cells := 0, slots := 0, locals := 12 } : Room).slots := ⟨_, rfl⟩
  rw [← hΦ]
  show own_G p e below Φ s₁ (mkF m 0 #[.val (.ref a1), .val (.ref ar), .unset, .unset, .unset, .unset, .unset] [])
  refine own_go (fun _ => XS.aloadN X0.here hx rfl (hb hby d2_0) rfl rfl) ?_
  show own_G p e below Φ s₁ (mkF m 1 #[.val (.ref a1), .val (.ref ar), .unset, .unset, .unset, .unset, .unset] [(.ref a1)])
  obtain ⟨T1, X1, e1, st1⟩ := initO X0 hx hZ hown (wd_12 hw) (wd_13 hw) (wd_14 hw) e0 (g := (mkF m 1 #[.val (.ref a1), .val (.ref ar), .unset, .unset, .unset, .unset, .unset] [(.ref a1)])) rfl (by rw [hml]; rfl) rfl (hb hby d2_1) (by decide) (W := 0) (by show 2 * 0 + _ ≤ _; exact Nat.le_of_eq rfl) (by decide)
  refine own_go st1 ?_
  show own_G p e below Φ T1 (mkF m 4 #[.val (.ref a1), .val (.ref ar), .unset, .unset, .unset, .unset, .unset] [])
  refine own_go (fun _ => XS.aloadN X1.here hx rfl (hb hby d2_4) rfl rfl) ?_
  show own_G p e below Φ T1 (mkF m 5 #[.val (.ref a1), .val (.ref ar), .unset, .unset, .unset, .unset, .unset] [(.ref a1)])
  refine own_go (fun _ => XS.aloadN X1.here hx rfl (hb hby d2_5) rfl rfl) ?_
  show own_G p e below Φ T1 (mkF m 6 #[.val (.ref a1), .val (.ref ar), .unset, .unset, .unset, .unset, .unset] [(.ref ar), (.ref a1)])
  obtain ⟨T2, h2, X2, e2, W2, st2⟩ := putF X1 hx hZ hown (host := "") (Or.inl (wd_15 hw)) Via.refl e1 F_m_aClasses_a1 E_a1 (Or.inr ⟨(wd_16 hw), rfl, hnm⟩) (wd_7 hw) (ty := (.array .int)) (by decide) rfl rfl (g := (mkF m 6 #[.val (.ref a1), .val (.ref ar), .unset, .unset, .unset, .unset, .unset] [(.ref ar), (.ref a1)])) rfl rfl (hb hby d2_6)
  refine own_go st2 ?_
  have N2 := Fr.snoc X2 N0 g_a1
  have K2 := K0.wr W2 (Or.inl (List.mem_of_getElem? (i := 0) rfl))
  have Zp2 : n0 ≤ h2.size := Nat.le_trans Z0 (Keep.of_wr W2).1
  have f2w := F_m_aClasses_a1.same W2
  show own_G p e below Φ T2 (mkF m 9 #[.val (.ref a1), .val (.ref ar), .unset, .unset, .unset, .unset, .unset] [])
  refine own_go (fun _ => XS.iconst X2.here hx rfl (hb hby d2_9)) ?_
  show own_G p e below Φ T2 (mkF m 10 #[.val (.ref a1), .val (.ref ar), .unset, .unset, .unset, .unset, .unset] [(.int (0 : Int32))])
  refine own_go (fun _ => XS.istoreN X2.here hx rfl (hb hby d2_10) rfl (l' := #[.val (.ref a1), .val (.ref ar), .val (.int (0 : Int32)), .unset, .unset, .unset, .unset]) rfl) ?_
  show own_G p e below Φ T2 (mkF m 11 #[.val (.ref a1), .val (.ref ar), .val (.int (0 : Int32)), .unset, .unset, .unset, .unset] [])
  refine own_go (fun _ => XS.aloadN X2.here hx rfl (hb hby d2_11) rfl rfl) ?_
  show own_G p e below Φ T2 (mkF m 12 #[.val (.ref a1), .val (.ref ar), .val (.int (0 : Int32)), .unset, .unset, .unset, .unset] [(.ref ar)])
  refine own_go (fun _ => XS.astoreN X2.here hx rfl (hb hby d2_12) rfl rfl (l' := #[.val (.ref a1), .val (.ref ar), .val (.int (0 : Int32)), .val (.ref ar), .unset, .unset, .unset]) rfl) ?_
  show own_G p e below Φ T2 (mkF m 13 #[.val (.ref a1), .val (.ref ar), .val (.int (0 : Int32)), .val (.ref ar), .unset, .unset, .unset] [])
  refine own_go (fun _ => XS.aloadN X2.here hx rfl (hb hby d2_13) rfl rfl) ?_
  show own_G p e below Φ T2 (mkF m 14 #[.val (.ref a1), .val (.ref ar), .val (.int (0 : Int32)), .val (.ref ar), .unset, .unset, .unset] [(.ref ar)])
  have f3 : Arv Z h2 ar ka .int (0 : Int32) [] (.int (0 : Int32)) := V_ar.other W2 ne_ar_a1
  obtain ⟨cl4, Ar4, q4, S4, M4, H4, G4⟩ := id f3
  refine own_go (fun _ => X2.arraylength hx (by rw [e2]; exact Ar4.1) (State.isArrayOf_alike hZ.alike Ar4.2.1) (g := (mkF m 14 #[.val (.ref a1), .val (.ref ar), .val (.int (0 : Int32)), .val (.ref ar), .unset, .unset, .unset] [(.ref ar)])) rfl rfl (hb hby d2_14) _) ?_
  rw [len_of S4 M4]
  show own_G p e below Φ T2 (mkF m 15 #[.val (.ref a1), .val (.ref ar), .val (.int (0 : Int32)), .val (.ref ar), .unset, .unset, .unset] [(.int (0 : Int32))])
  refine own_go (fun _ => XS.istore X2.here hx rfl (hb hby d2_15) rfl (l' := #[.val (.ref a1), .val (.ref ar), .val (.int (0 : Int32)), .val (.ref ar), .val (.int (0 : Int32)), .unset, .unset]) rfl) ?_
  show own_G p e below Φ T2 (mkF m 17 #[.val (.ref a1), .val (.ref ar), .val (.int (0 : Int32)), .val (.ref ar), .val (.int (0 : Int32)), .unset, .unset] [])
  refine own_go (fun _ => XS.iconst X2.here hx rfl (hb hby d2_17)) ?_
  show own_G p e below Φ T2 (mkF m 18 #[.val (.ref a1), .val (.ref ar), .val (.int (0 : Int32)), .val (.ref ar), .val (.int (0 : Int32)), .unset, .unset] [(.int (0 : Int32))])
  refine own_go (fun _ => XS.istore X2.here hx rfl (hb hby d2_18) rfl (l' := #[.val (.ref a1), .val (.ref ar), .val (.int (0 : Int32)), .val (.ref ar), .val (.int (0 : Int32)), .val (.int (0 : Int32)), .unset]) rfl) ?_
  show own_G p e below Φ T2 (mkF m 20 #[.val (.ref a1), .val (.ref ar), .val (.int (0 : Int32)), .val (.ref ar), .val (.int (0 : Int32)), .val (.int (0 : Int32)), .unset] [])
  refine own_go (fun _ => XS.iload X2.here hx rfl (hb hby d2_20) rfl) ?_
  show own_G p e below Φ T2 (mkF m 22 #[.val (.ref a1), .val (.ref ar), .val (.int (0 : Int32)), .val (.ref ar), .val (.int (0 : Int32)), .val (.int (0 : Int32)), .unset] [(.int (0 : Int32))])
  refine own_go (fun _ => XS.iload X2.here hx rfl (hb hby d2_22) rfl) ?_
  show own_G p e below Φ T2 (mkF m 24 #[.val (.ref a1), .val (.ref ar), .val (.int (0 : Int32)), .val (.ref ar), .val (.int (0 : Int32)), .val (.int (0 : Int32)), .unset] [(.int (0 : Int32)), (.int (0 : Int32))])
  refine own_go (fun _ => XS.icmpYes X2.here hx rfl (pc0 := 24) (pc' := 48) rfl (hb hby d2_24) rfl (Jvm.Free.XT.ii_ge_t (by decide : ¬ ((0 : Int32) < (0 : Int32)))) (by decide) (by decide)) ?_
  show own_G p e below Φ T2 (mkF m 48 #[.val (.ref a1), .val (.ref ar), .val (.int (0 : Int32)), .val (.ref ar), .val (.int (0 : Int32)), .val (.int (0 : Int32)), .unset] [])
  refine own_go (fun _ => XS.aloadN X2.here hx rfl (hb hby d2_48) rfl rfl) ?_
  show own_G p e below Φ T2 (mkF m 49 #[.val (.ref a1), .val (.ref ar), .val (.int (0 : Int32)), .val (.ref ar), .val (.int (0 : Int32)), .val (.int (0 : Int32)), .unset] [(.ref a1)])
  refine own_go (fun _ => XS.iloadN X2.here hx rfl (hb hby d2_49) rfl) ?_
  show own_G p e below Φ T2 (mkF m 50 #[.val (.ref a1), .val (.ref ar), .val (.int (0 : Int32)), .val (.ref ar), .val (.int (0 : Int32)), .val (.int (0 : Int32)), .unset] [(.int (0 : Int32)), (.ref a1)])
  have f5 : Exa Z h2 a1 "com/example/edgewarden/edgewarden/graph/Likeness" := E_a1.wr W2
  have f6 : Fld Z h2 a1 "com/example/edgewarden/edgewarden/graph/Likeness" "m_nClassCount" "I" u1 := F_m_nClassCount_a1.other W2 (Or.inr (sl_0 hw))
  obtain ⟨T7, h7, X7, e7, W7, st7⟩ := putF X2 hx hZ hown (host := "") (Or.inl (wd_17 hw)) Via.refl e2 f6 f5 (Or.inr ⟨(wd_18 hw), rfl, hnm⟩) (wd_7 hw) (ty := .int) (by decide) rfl rfl (g := (mkF m 50 #[.val (.ref a1), .val (.ref ar), .val (.int (0 : Int32)), .val (.ref ar), .val (.int (0 : Int32)), .val (.int (0 : Int32)), .unset] [(.int (0 : Int32)), (.ref a1)])) rfl rfl (hb hby d2_50)
  refine own_go st7 ?_
  have N7 := Fr.snoc X7 N2 g_a1
  have K7 := K2.wr W7 (Or.inl (List.mem_of_getElem? (i := 0) rfl))
  have Zp7 : n0 ≤ h7.size := Nat.le_trans Zp2 (Keep.of_wr W7).1
  have f7w := f6.same W7
  show own_G p e below Φ T7 (mkF m 53 #[.val (.ref a1), .val (.ref ar), .val (.int (0 : Int32)), .val (.ref ar), .val (.int (0 : Int32)), .val (.int (0 : Int32)), .unset] [])
  have f8 : Exa Z h7 a1 "com/example/edgewarden/edgewarden/graph/Likeness" := f5.wr W7
  have f9 : Fld Z h7 a1 "com/example/edgewarden/edgewarden/graph/Likeness" "m_aClasses" "[I" (.ref ar) := f2w.other W7 (Or.inr (sl_1 hw))
  rw [hΦ]
  refine own_ret X7 (v := none) (fun _ => rfl) (BodyLoose.notSynchronized Bd) (fun fs hr => X7.returnOut hx Bd.returns (hb hby d2_53) hr) ?_ (by decide) (by decide)
  rw [e7]
  exact ⟨rfl, N7, K7, f8, f9, f7w⟩
theorem d2_27 : decode prog_57_method_3_code 27 = .ok (.aload_n 3, 1) := by decide +kernel
theorem d2_28 : decode prog_57_method_3_code 28 = .ok (.iload 5, 2) := by decide +kernel
theorem d2_30 : decode prog_57_method_3_code 30 = .ok (.iaload, 1) := by decide +kernel
theorem d2_31 : decode prog_57_method_3_code 31 = .ok (.istore 6, 2) := by decide +kernel
theorem d2_33 : decode prog_57_method_3_code 33 = .ok (.iload_n 2, 1) := by decide +kernel
theorem d2_34 : decode prog_57_method_3_code 34 = .ok (.iload 6, 2) := by decide +kernel
theorem d2_36 : decode prog_57_method_3_code 36 = .ok (.iconst 1, 1) := by decide +kernel
theorem d2_37 : decode prog_57_method_3_code 37 = .ok (.iadd, 1) := by decide +kernel
theorem d2_38 : decode prog_57_method_3_code 38 = .ok (.invokestatic 127, 3) := by decide +kernel
theorem wd_28 {Z : State} {a0 : Array Value} (hw : ∀ d ∈ tables_1, d.before a0 Z = true) : ((Jvm.Cond.methodLink "com/example/edgewarden/edgewarden/graph/Likeness" (127 : Nat) ({ cls := "java/lang/Math", name := "max", desc := "(II)I" } : Jvm.MethodName)) : Jvm.Cond).before a0 Z = true := hw _ (List.mem_of_getElem? (i := 28) rfl)
theorem wd_4 {Z : State} {a0 : Array Value} (hw : ∀ d ∈ tables_1, d.before a0 Z = true) : ((Jvm.Cond.code ({ cls := "java/lang/Math", name := "max", desc := "(II)I" } : Jvm.MethodName) jdk_29_method_65_code (2 : Nat) (Option.some Jvm.ClassFile.FieldType.int)) : Jvm.Cond).before a0 Z = true := hw _ (List.mem_of_getElem? (i := 4) rfl)
theorem wd_3 {Z : State} {a0 : Array Value} (hw : ∀ d ∈ tables_1, d.before a0 Z = true) : ((Jvm.Cond.initialized "java/lang/Math") : Jvm.Cond).before a0 Z = true := hw _ (List.mem_of_getElem? (i := 3) rfl)
theorem pd_0 : parseMethodDescriptor "(II)I" = some ⟨[.int, .int], some .int⟩ := by decide +kernel
theorem wd_2 {Z : State} {a0 : Array Value} (hw : ∀ d ∈ tables_1, d.before a0 Z = true) : ((Jvm.Cond.static ({ cls := "java/lang/Math", name := "max", desc := "(II)I" } : Jvm.MethodName)) : Jvm.Cond).before a0 Z = true := hw _ (List.mem_of_getElem? (i := 2) rfl)
theorem d2_41 : decode prog_57_method_3_code 41 = .ok (.istore_n 2, 1) := by decide +kernel
theorem d2_42 : decode prog_57_method_3_code 42 = .ok (.iinc 5 1, 3) := by decide +kernel
theorem d2_45 : decode prog_57_method_3_code 45 = .ok (.goto (-25), 3) := by decide +kernel
theorem ef_rmI1 (m : MethodId) (a1 : Addr) (ar : Addr) : entryFrame m #[(.ref a1), (.ref ar)] 7 = mkF m 0 #[.val (.ref a1), .val (.ref ar), .unset, .unset, .unset, .unset, .unset] [] := by first | (simp [entryFrame, mkF, argsToLocals, Value.category]; done) | rfl
def Q_rmI1 (Z : State) (a1 : Addr) (ar : Addr) (ka : ClassId) (v0 : Int32) (u0 : Value) (u1 : Value) (h0 : Heap) (n0 : Nat) (v : Option Value) (h : Heap) (L : List Loc) : Prop := v = none ∧ Fr n0 L ∧ Keep h0 h [a1] ∧ Exa Z h a1 "com/example/edgewarden/edgewarden/graph/Likeness" ∧ Fld Z h a1 "com/example/edgewarden/edgewarden/graph/Likeness" "m_aClasses" "[I" (.ref ar) ∧ Fld Z h a1 "com/example/edgewarden/edgewarden/graph/Likeness" "m_nClassCount" "I" (.int (own_max (0 : Int32) (v0 + (1 : Int32))))
set_option maxRecDepth 65536 in
set_option maxHeartbeats 40000000 in
theorem rmI1 (l : Launch) (Z : State) (a0 : Array Value) (hw : ∀ d ∈ tables_1, d.before a0 Z = true) (ws : List Jvm.Cond) (a1 : Addr) (ar : Addr) (ka : ClassId) (v0 : Int32) (u0 : Value) (u1 : Value) (h0 : Heap) (n0 : Nat) (Z0 : n0 ≤ h0.size) (E_a1 : Exa Z h0 a1 "com/example/edgewarden/edgewarden/graph/Likeness") (F_m_aClasses_a1 : Fld Z h0 a1 "com/example/edgewarden/edgewarden/graph/Likeness" "m_aClasses" "[I" u0) (F_m_nClassCount_a1 : Fld Z h0 a1 "com/example/edgewarden/edgewarden/graph/Likeness" "m_nClassCount" "I" u1) (g_a1 : n0 ≤ a1) (V_ar : Arv Z h0 ar ka .int (1 : Int32) [(.int v0)] (.int (0 : Int32))) (ne_ar_a1 : ar ≠ a1) :
    MetFree l (⟨"com/example/edgewarden/edgewarden/graph/Likeness", "<init>", "([I)V"⟩ : MethodName) (head1 (Jvm.Cond.code (⟨"com/example/edgewarden/edgewarden/graph/Likeness", "<init>", "([I)V"⟩ : MethodName) prog_57_method_3_code 7 none :: ws) ({ frames := 1, cells := 0, slots := 0, locals := 13 } : Room)) (fun a U => a = #[(.ref a1), (.ref ar)] ∧ Z.Warmed39 U.vm ∧ U.heap = h0) (fun _ _ _ _ _ => True) (fun _ U o U' => ∃ v L, o = .returned v ∧ Q_rmI1 Z a1 ar ka v0 u0 u1 h0 n0 v U'.heap L ∧ FrameEnd U o U' L ({ frames := 1, cells := 0, slots := 0, locals := 13 } : Room).cells ({ frames := 1, cells := 0, slots := 0, locals := 13 } : Room).slots) := by
  refine MetFree.of_bodySF (plainFor_of_name pn_0) hisR ?_
  intro p e s m args below meth c s₁ Bd hml0 hP hK
  obtain ⟨rfl, hZ, hh⟩ := hP
  have hx := Bd.exec
  have hby := Bd.bytes
  have hml : c.maxLocals = 7 := hml0
  have hown : s.vm.findClass "com/example/edgewarden/edgewarden/graph/Likeness" = some m.cls := findClass_of_methodNamed Bd.named
  have hnm := (name_of_methodNamed Bd.named Bd.method).1
  have X0 : Stand p l e ({ frames := 1, cells := 0, slots := 0, locals := 13 } : Room) s m #[(.ref a1), (.ref ar)] below meth c s₁ [] 0 0 := Stand.of_body Bd
  have e0 : s₁.heap = h0 := by rw [← hh, Bd.state]; rfl
  have N0 := Fr.nil n0
  have K0 : Keep h0 h0 [a1] := Keep.refl _ _
  suffices G0 : own_G p e below (own_E s below (Q_rmI1 Z a1 ar ka v0 u0 u1 h0 n0) ({ frames := 1, cells := 0, slots := 0, locals := 13 } : Room).cells ({ frames := 1, cells := 0, slots := 0, locals := 13 } : Room).slots) s₁ (mkF m 0 #[.val (.ref a1), .val (.ref ar), .unset, .unset, .unset, .unset, .unset] []) by
    obtain ⟨zt, zst, zo, zq1, zq2, zq3⟩ := G0
    exact ⟨zt, zo, castTop (ef_rmI1 m a1 ar) zst, zq1, zq2, zq3⟩
  obtain ⟨Φ, hΦ⟩ : ∃ Φ, Φ = own_E s below (Q_rmI1 Z a1 ar ka v0 u0 u1 h0 n0) ({ frames := 1, cells := 0, slots := 0, locals := 13 } : Room).cells ({ frames := 1, cells := 0, slots := 0, locals := 13 } : Room).slots := ⟨_, rfl⟩
  rw [← hΦ]
  show own_G p e below Φ s₁ (mkF m 0 #[.val (.ref a1), .val (.ref ar), .unset, .unset, .unset, .unset, .unset] [])
  refine own_go (fun _ => XS.aloadN X0.here hx rfl (hb hby d2_0) rfl rfl) ?_
  show own_G p e below Φ s₁ (mkF m 1 #[.val (.ref a1), .val (.ref ar), .unset, .unset, .unset, .unset, .unset] [(.ref a1)])
  obtain ⟨T1, X1, e1, st1⟩ := initO X0 hx hZ hown (wd_12 hw) (wd_13 hw) (wd_14 hw) e0 (g := (mkF m 1 #[.val (.ref a1), .val (.ref ar), .unset, .unset, .unset, .unset, .unset] [(.ref a1)])) rfl (by rw [hml]; rfl) rfl (hb hby d2_1) (by decide) (W := 0) (by show 2 * 0 + _ ≤ _; exact Nat.le_of_eq rfl) (by decide)
  refine own_go st1 ?_
  show own_G p e below Φ T1 (mkF m 4 #[.val (.ref a1), .val (.ref ar), .unset, .unset, .unset, .unset, .unset] [])
  refine own_go (fun _ => XS.aloadN X1.here hx rfl (hb hby d2_4) rfl rfl) ?_
  show own_G p e below Φ T1 (mkF m 5 #[.val (.ref a1), .val (.ref ar), .unset, .unset, .unset, .unset, .unset] [(.ref a1)])
  refine own_go (fun _ => XS.aloadN X1.here hx rfl (hb hby d2_5) rfl rfl) ?_
  show own_G p e below Φ T1 (mkF m 6 #[.val (.ref a1), .val (.ref ar), .unset, .unset, .unset, .unset, .unset] [(.ref ar), (.ref a1)])
  obtain ⟨T2, h2, X2, e2, W2, st2⟩ := putF X1 hx hZ hown (host := "") (Or.inl (wd_15 hw)) Via.refl e1 F_m_aClasses_a1 E_a1 (Or.inr ⟨(wd_16 hw), rfl, hnm⟩) (wd_7 hw) (ty := (.array .int)) (by decide) rfl rfl (g := (mkF m 6 #[.val (.ref a1), .val (.ref ar), .unset, .unset, .unset, .unset, .unset] [(.ref ar), (.ref a1)])) rfl rfl (hb hby d2_6)
  refine own_go st2 ?_
  have N2 := Fr.snoc X2 N0 g_a1
  have K2 := K0.wr W2 (Or.inl (List.mem_of_getElem? (i := 0) rfl))
  have Zp2 : n0 ≤ h2.size := Nat.le_trans Z0 (Keep.of_wr W2).1
  have f2w := F_m_aClasses_a1.same W2
  show own_G p e below Φ T2 (mkF m 9 #[.val (.ref a1), .val (.ref ar), .unset, .unset, .unset, .unset, .unset] [])
  refine own_go (fun _ => XS.iconst X2.here hx rfl (hb hby d2_9)) ?_
  show own_G p e below Φ T2 (mkF m 10 #[.val (.ref a1), .val (.ref ar), .unset, .unset, .unset, .unset, .unset] [(.int (0 : Int32))])
  refine own_go (fun _ => XS.istoreN X2.here hx rfl (hb hby d2_10) rfl (l' := #[.val (.ref a1), .val (.ref ar), .val (.int (0 : Int32)), .unset, .unset, .unset, .unset]) rfl) ?_
  show own_G p e below Φ T2 (mkF m 11 #[.val (.ref a1), .val (.ref ar), .val (.int (0 : Int32)), .unset, .unset, .unset, .unset] [])
  refine own_go (fun _ => XS.aloadN X2.here hx rfl (hb hby d2_11) rfl rfl) ?_
  show own_G p e below Φ T2 (mkF m 12 #[.val (.ref a1), .val (.ref ar), .val (.int (0 : Int32)), .unset, .unset, .unset, .unset] [(.ref ar)])
  refine own_go (fun _ => XS.astoreN X2.here hx rfl (hb hby d2_12) rfl rfl (l' := #[.val (.ref a1), .val (.ref ar), .val (.int (0 : Int32)), .val (.ref ar), .unset, .unset, .unset]) rfl) ?_
  show own_G p e below Φ T2 (mkF m 13 #[.val (.ref a1), .val (.ref ar), .val (.int (0 : Int32)), .val (.ref ar), .unset, .unset, .unset] [])
  refine own_go (fun _ => XS.aloadN X2.here hx rfl (hb hby d2_13) rfl rfl) ?_
  show own_G p e below Φ T2 (mkF m 14 #[.val (.ref a1), .val (.ref ar), .val (.int (0 : Int32)), .val (.ref ar), .unset, .unset, .unset] [(.ref ar)])
  have f3 : Arv Z h2 ar ka .int (1 : Int32) [(.int v0)] (.int (0 : Int32)) := V_ar.other W2 ne_ar_a1
  obtain ⟨cl4, Ar4, q4, S4, M4, H4, G4⟩ := id f3
  refine own_go (fun _ => X2.arraylength hx (by rw [e2]; exact Ar4.1) (State.isArrayOf_alike hZ.alike Ar4.2.1) (g := (mkF m 14 #[.val (.ref a1), .val (.ref ar), .val (.int (0 : Int32)), .val (.ref ar), .unset, .unset, .unset] [(.ref ar)])) rfl rfl (hb hby d2_14) _) ?_
  rw [len_of S4 M4]
  show own_G p e below Φ T2 (mkF m 15 #[.val (.ref a1), .val (.ref ar), .val (.int (0 : Int32)), .val (.ref ar), .unset, .unset, .unset] [(.int (1 : Int32))])
  refine own_go (fun _ => XS.istore X2.here hx rfl (hb hby d2_15) rfl (l' := #[.val (.ref a1), .val (.ref ar), .val (.int (0 : Int32)), .val (.ref ar), .val (.int (1 : Int32)), .unset, .unset]) rfl) ?_
  show own_G p e below Φ T2 (mkF m 17 #[.val (.ref a1), .val (.ref ar), .val (.int (0 : Int32)), .val (.ref ar), .val (.int (1 : Int32)), .unset, .unset] [])
  refine own_go (fun _ => XS.iconst X2.here hx rfl (hb hby d2_17)) ?_
  show own_G p e below Φ T2 (mkF m 18 #[.val (.ref a1), .val (.ref ar), .val (.int (0 : Int32)), .val (.ref ar), .val (.int (1 : Int32)), .unset, .unset] [(.int (0 : Int32))])
  refine own_go (fun _ => XS.istore X2.here hx rfl (hb hby d2_18) rfl (l' := #[.val (.ref a1), .val (.ref ar), .val (.int (0 : Int32)), .val (.ref ar), .val (.int (1 : Int32)), .val (.int (0 : Int32)), .unset]) rfl) ?_
  show own_G p e below Φ T2 (mkF m 20 #[.val (.ref a1), .val (.ref ar), .val (.int (0 : Int32)), .val (.ref ar), .val (.int (1 : Int32)), .val (.int (0 : Int32)), .unset] [])
  refine own_go (fun _ => XS.iload X2.here hx rfl (hb hby d2_20) rfl) ?_
  show own_G p e below Φ T2 (mkF m 22 #[.val (.ref a1), .val (.ref ar), .val (.int (0 : Int32)), .val (.ref ar), .val (.int (1 : Int32)), .val (.int (0 : Int32)), .unset] [(.int (0 : Int32))])
  refine own_go (fun _ => XS.iload X2.here hx rfl (hb hby d2_22) rfl) ?_
  show own_G p e below Φ T2 (mkF m 24 #[.val (.ref a1), .val (.ref ar), .val (.int (0 : Int32)), .val (.ref ar), .val (.int (1 : Int32)), .val (.int (0 : Int32)), .unset] [(.int (1 : Int32)), (.int (0 : Int32))])
  refine own_go (fun _ => XS.icmpNo X2.here hx rfl (hb hby d2_24) rfl (Jvm.Free.XT.ii_ge_f (by decide : ((0 : Int32) < (1 : Int32))))) ?_
  show own_G p e below Φ T2 (mkF m 27 #[.val (.ref a1), .val (.ref ar), .val (.int (0 : Int32)), .val (.ref ar), .val (.int (1 : Int32)), .val (.int (0 : Int32)), .unset] [])
  refine own_go (fun _ => XS.aloadN X2.here hx rfl (hb hby d2_27) rfl rfl) ?_
  show own_G p e below Φ T2 (mkF m 28 #[.val (.ref a1), .val (.ref ar), .val (.int (0 : Int32)), .val (.ref ar), .val (.int (1 : Int32)), .val (.int (0 : Int32)), .unset] [(.ref ar)])
  refine own_go (fun _ => XS.iload X2.here hx rfl (hb hby d2_28) rfl) ?_
  show own_G p e below Φ T2 (mkF m 30 #[.val (.ref a1), .val (.ref ar), .val (.int (0 : Int32)), .val (.ref ar), .val (.int (1 : Int32)), .val (.int (0 : Int32)), .unset] [(.int (0 : Int32)), (.ref ar)])
  obtain ⟨cl5, Ar5, q5, S5, M5, H5, G5⟩ := id f3
  have hin5 : ¬ ((0 : Int32) < 0 ∨ cl5.slots.size ≤ ((0 : Int32)).toNatClampNeg) := inb_of S5 ⟨by decide, by decide⟩
  refine own_go (fun _ => X2.iaload hx (j := (0 : Int32)) (v := (.int v0)) (by rw [e2]; exact Ar5.1) (State.isArrayOf_alike hZ.alike Ar5.2.1) Ar5.2.2 hin5 (H5.at hin5 rfl) (g := (mkF m 30 #[.val (.ref a1), .val (.ref ar), .val (.int (0 : Int32)), .val (.ref ar), .val (.int (1 : Int32)), .val (.int (0 : Int32)), .unset] [(.int (0 : Int32)), (.ref ar)])) rfl rfl (hb hby d2_30) _) ?_
  show own_G p e below Φ T2 (mkF m 31 #[.val (.ref a1), .val (.ref ar), .val (.int (0 : Int32)), .val (.ref ar), .val (.int (1 : Int32)), .val (.int (0 : Int32)), .unset] [(.int v0)])
  refine own_go (fun _ => XS.istore X2.here hx rfl (hb hby d2_31) rfl (l' := #[.val (.ref a1), .val (.ref ar), .val (.int (0 : Int32)), .val (.ref ar), .val (.int (1 : Int32)), .val (.int (0 : Int32)), .val (.int v0)]) rfl) ?_
  show own_G p e below Φ T2 (mkF m 33 #[.val (.ref a1), .val (.ref ar), .val (.int (0 : Int32)), .val (.ref ar), .val (.int (1 : Int32)), .val (.int (0 : Int32)), .val (.int v0)] [])
  refine own_go (fun _ => XS.iloadN X2.here hx rfl (hb hby d2_33) rfl) ?_
  show own_G p e below Φ T2 (mkF m 34 #[.val (.ref a1), .val (.ref ar), .val (.int (0 : Int32)), .val (.ref ar), .val (.int (1 : Int32)), .val (.int (0 : Int32)), .val (.int v0)] [(.int (0 : Int32))])
  refine own_go (fun _ => XS.iload X2.here hx rfl (hb hby d2_34) rfl) ?_
  show own_G p e below Φ T2 (mkF m 36 #[.val (.ref a1), .val (.ref ar), .val (.int (0 : Int32)), .val (.ref ar), .val (.int (1 : Int32)), .val (.int (0 : Int32)), .val (.int v0)] [(.int v0), (.int (0 : Int32))])
  refine own_go (fun _ => XS.iconst X2.here hx rfl (hb hby d2_36)) ?_
  show own_G p e below Φ T2 (mkF m 37 #[.val (.ref a1), .val (.ref ar), .val (.int (0 : Int32)), .val (.ref ar), .val (.int (1 : Int32)), .val (.int (0 : Int32)), .val (.int v0)] [(.int (1 : Int32)), (.int v0), (.int (0 : Int32))])
  refine own_go (fun _ => XS.iadd X2.here hx rfl (hb hby d2_37) rfl) ?_
  show own_G p e below Φ T2 (mkF m 38 #[.val (.ref a1), .val (.ref ar), .val (.int (0 : Int32)), .val (.ref ar), .val (.int (1 : Int32)), .val (.int (0 : Int32)), .val (.int v0)] [(.int (v0 + (1 : Int32))), (.int (0 : Int32))])
  obtain ⟨_, _, ⟨T6, zL6, zk6, zn6⟩, -, X6, ⟨Lc6, hQ6, l6, y6, z6⟩, st6⟩ := Jvm.LawKit.callS X2 hx (y := (⟨"java/lang/Math", "max", "(II)I"⟩ : MethodName)) hown (mvT hZ (wd_28 hw)) (mvT hZ (wd_2 hw)) (mvT hZ (wd_3 hw)) (mvT hZ (wd_4 hw)) (by decide) (backOf (W := 0) (rmM l Z a0 hw [] (0 : Int32) (v0 + (1 : Int32)) h2 n0 Zp2 ) hZ (wd_4 hw) (wd_3 hw) (by decide) (by decide)) (g := (mkF m 38 #[.val (.ref a1), .val (.ref ar), .val (.int (0 : Int32)), .val (.ref ar), .val (.int (1 : Int32)), .val (.int (0 : Int32)), .val (.int v0)] [(.int (v0 + (1 : Int32))), (.int (0 : Int32))])) rfl (by rw [hml]; rfl) (argsL := [(.int (0 : Int32)), (.int (v0 + (1 : Int32)))]) (rest := []) (lenOf pd_0 rfl) rfl (by show 2 * 0 + _ ≤ _; exact Nat.le_of_eq rfl) (hb hby d2_38) (fun _ _ => ⟨rfl, e2, (by decide : 0 + 0 ≤ _), (by decide : 0 + 0 ≤ _)⟩)
  dsimp only [Pt.U, Pt.locs, Pt.cells, Pt.slots] at X6 l6 y6 z6 st6 hQ6
  subst l6 y6 z6
  obtain ⟨rfl, N6q, hs6⟩ := hQ6
  have N6 := Fr.app N2 N6q
  refine own_go st6 ?_
  show own_G p e below Φ T6 (mkF m 41 #[.val (.ref a1), .val (.ref ar), .val (.int (0 : Int32)), .val (.ref ar), .val (.int (1 : Int32)), .val (.int (0 : Int32)), .val (.int v0)] [(.int (own_max (0 : Int32) (v0 + (1 : Int32))))])
  refine own_go (fun _ => XS.istoreN X6.here hx rfl (hb hby d2_41) rfl (l' := #[.val (.ref a1), .val (.ref ar), .val (.int (own_max (0 : Int32) (v0 + (1 : Int32)))), .val (.ref ar), .val (.int (1 : Int32)), .val (.int (0 : Int32)), .val (.int v0)]) rfl) ?_
  show own_G p e below Φ T6 (mkF m 42 #[.val (.ref a1), .val (.ref ar), .val (.int (own_max (0 : Int32) (v0 + (1 : Int32)))), .val (.ref ar), .val (.int (1 : Int32)), .val (.int (0 : Int32)), .val (.int v0)] [])
  refine own_go (fun _ => XS.iinc X6.here hx rfl (hb hby d2_42) rfl (l' := #[.val (.ref a1), .val (.ref ar), .val (.int (own_max (0 : Int32) (v0 + (1 : Int32)))), .val (.ref ar), .val (.int (1 : Int32)), .val (.int (1 : Int32)), .val (.int v0)]) rfl) ?_
  show own_G p e below Φ T6 (mkF m 45 #[.val (.ref a1), .val (.ref ar), .val (.int (own_max (0 : Int32) (v0 + (1 : Int32)))), .val (.ref ar), .val (.int (1 : Int32)), .val (.int (1 : Int32)), .val (.int v0)] [])
  refine own_go (fun _ => XS.goto X6.here hx rfl (pc0 := 45) (pc' := 20) rfl (hb hby d2_45) (by decide) (by decide)) ?_
  show own_G p e below Φ T6 (mkF m 20 #[.val (.ref a1), .val (.ref ar), .val (.int (own_max (0 : Int32) (v0 + (1 : Int32)))), .val (.ref ar), .val (.int (1 : Int32)), .val (.int (1 : Int32)), .val (.int v0)] [])
  refine own_go (fun _ => XS.iload X6.here hx rfl (hb hby d2_20) rfl) ?_
  show own_G p e below Φ T6 (mkF m 22 #[.val (.ref a1), .val (.ref ar), .val (.int (own_max (0 : Int32) (v0 + (1 : Int32)))), .val (.ref ar), .val (.int (1 : Int32)), .val (.int (1 : Int32)), .val (.int v0)] [(.int (1 : Int32))])
  refine own_go (fun _ => XS.iload X6.here hx rfl (hb hby d2_22) rfl) ?_
  show own_G p e below Φ T6 (mkF m 24 #[.val (.ref a1), .val (.ref ar), .val (.int (own_max (0 : Int32) (v0 + (1 : Int32)))), .val (.ref ar), .val (.int (1 : Int32)), .val (.int (1 : Int32)), .val (.int v0)] [(.int (1 : Int32)), (.int (1 : Int32))])
  refine own_go (fun _ => XS.icmpYes X6.here hx rfl (pc0 := 24) (pc' := 48) rfl (hb hby d2_24) rfl (Jvm.Free.XT.ii_ge_t (by decide : ¬ ((1 : Int32) < (1 : Int32)))) (by decide) (by decide)) ?_
  show own_G p e below Φ T6 (mkF m 48 #[.val (.ref a1), .val (.ref ar), .val (.int (own_max (0 : Int32) (v0 + (1 : Int32)))), .val (.ref ar), .val (.int (1 : Int32)), .val (.int (1 : Int32)), .val (.int v0)] [])
  refine own_go (fun _ => XS.aloadN X6.here hx rfl (hb hby d2_48) rfl rfl) ?_
  show own_G p e below Φ T6 (mkF m 49 #[.val (.ref a1), .val (.ref ar), .val (.int (own_max (0 : Int32) (v0 + (1 : Int32)))), .val (.ref ar), .val (.int (1 : Int32)), .val (.int (1 : Int32)), .val (.int v0)] [(.ref a1)])
  refine own_go (fun _ => XS.iloadN X6.here hx rfl (hb hby d2_49) rfl) ?_
  show own_G p e below Φ T6 (mkF m 50 #[.val (.ref a1), .val (.ref ar), .val (.int (own_max (0 : Int32) (v0 + (1 : Int32)))), .val (.ref ar), .val (.int (1 : Int32)), .val (.int (1 : Int32)), .val (.int v0)] [(.int (own_max (0 : Int32) (v0 + (1 : Int32)))), (.ref a1)])
  have f7 : Exa Z h2 a1 "com/example/edgewarden/edgewarden/graph/Likeness" := E_a1.wr W2
  have f8 : Fld Z h2 a1 "com/example/edgewarden/edgewarden/graph/Likeness" "m_nClassCount" "I" u1 := F_m_nClassCount_a1.other W2 (Or.inr (sl_0 hw))
  obtain ⟨T9, h9, X9, e9, W9, st9⟩ := putF X6 hx hZ hown (host := "") (Or.inl (wd_17 hw)) Via.refl hs6 f8 f7 (Or.inr ⟨(wd_18 hw), rfl, hnm⟩) (wd_7 hw) (ty := .int) (by decide) rfl rfl (g := (mkF m 50 #[.val (.ref a1), .val (.ref ar), .val (.int (own_max (0 : Int32) (v0 + (1 : Int32)))), .val (.ref ar), .val (.int (1 : Int32)), .val (.int (1 : Int32)), .val (.int v0)] [(.int (own_max (0 : Int32) (v0 + (1 : Int32)))), (.ref a1)])) rfl rfl (hb hby d2_50)
  refine own_go st9 ?_
  have N9 := Fr.snoc X9 N6 g_a1
  have K9 := K2.wr W9 (Or.inl (List.mem_of_getElem? (i := 0) rfl))
  have Zp9 : n0 ≤ h9.size := Nat.le_trans Zp2 (Keep.of_wr W9).1
  have f9w := f8.same W9
  show own_G p e below Φ T9 (mkF m 53 #[.val (.ref a1), .val (.ref ar), .val (.int (own_max (0 : Int32) (v0 + (1 : Int32)))), .val (.ref ar), .val (.int (1 : Int32)), .val (.int (1 : Int32)), .val (.int v0)] [])
  have f10 : Exa Z h9 a1 "com/example/edgewarden/edgewarden/graph/Likeness" := f7.wr W9
  have f11 : Fld Z h9 a1 "com/example/edgewarden/edgewarden/graph/Likeness" "m_aClasses" "[I" (.ref ar) := f2w.other W9 (Or.inr (sl_1 hw))
  rw [hΦ]
  refine own_ret X9 (v := none) (fun _ => rfl) (BodyLoose.notSynchronized Bd) (fun fs hr => X9.returnOut hx Bd.returns (hb hby d2_53) hr) ?_ (by decide) (by decide)
  rw [e9]
  exact ⟨rfl, N9, K9, f10, f11, f9w⟩
theorem ef_rmI2 (m : MethodId) (a1 : Addr) (ar : Addr) : entryFrame m #[(.ref a1), (.ref ar)] 7 = mkF m 0 #[.val (.ref a1), .val (.ref ar), .unset, .unset, .unset, .unset, .unset] [] := by first | (simp [entryFrame, mkF, argsToLocals, Value.category]; done) | rfl
def Q_rmI2 (Z : State) (a1 : Addr) (ar : Addr) (ka : ClassId) (v0 : Int32) (v1 : Int32) (u0 : Value) (u1 : Value) (h0 : Heap) (n0 : Nat) (v : Option Value) (h : Heap) (L : List Loc) : Prop := v = none ∧ Fr n0 L ∧ Keep h0 h [a1] ∧ Exa Z h a1 "com/example/edgewarden/edgewarden/graph/Likeness" ∧ Fld Z h a1 "com/example/edgewarden/edgewarden/graph/Likeness" "m_aClasses" "[I" (.ref ar) ∧ Fld Z h a1 "com/example/edgewarden/edgewarden/graph/Likeness" "m_nClassCount" "I" (.int (own_max (own_max (0 : Int32) (v0 + (1 : Int32))) (v1 + (1 : Int32))))
set_option maxRecDepth 65536 in
set_option maxHeartbeats 40000000 in
theorem rmI2 (l : Launch) (Z : State) (a0 : Array Value) (hw : ∀ d ∈ tables_1, d.before a0 Z = true) (ws : List Jvm.Cond) (a1 : Addr) (ar : Addr) (ka : ClassId) (v0 : Int32) (v1 : Int32) (u0 : Value) (u1 : Value) (h0 : Heap) (n0 : Nat) (Z0 : n0 ≤ h0.size) (E_a1 : Exa Z h0 a1 "com/example/edgewarden/edgewarden/graph/Likeness") (F_m_aClasses_a1 : Fld Z h0 a1 "com/example/edgewarden/edgewarden/graph/Likeness" "m_aClasses" "[I" u0) (F_m_nClassCount_a1 : Fld Z h0 a1 "com/example/edgewarden/edgewarden/graph/Likeness" "m_nClassCount" "I" u1) (g_a1 : n0 ≤ a1) (V_ar : Arv Z h0 ar ka .int (2 : Int32) [(.int v0), (.int v1)] (.int (0 : Int32))) (ne_ar_a1 : ar ≠ a1) :
    MetFree l (⟨"com/example/edgewarden/edgewarden/graph/Likeness", "<init>", "([I)V"⟩ : MethodName) (head1 (Jvm.Cond.code (⟨"com/example/edgewarden/edgewarden/graph/Likeness", "<init>", "([I)V"⟩ : MethodName) prog_57_method_3_code 7 none :: ws) ({ frames := 1, cells := 0, slots := 0, locals := 13 } : Room)) (fun a U => a = #[(.ref a1), (.ref ar)] ∧ Z.Warmed39 U.vm ∧ U.heap = h0) (fun _ _ _ _ _ => True) (fun _ U o U' => ∃ v L, o = .returned v ∧ Q_rmI2 Z a1 ar ka v0 v1 u0 u1 h0 n0 v U'.heap L ∧ FrameEnd U o U' L ({ frames := 1, cells := 0, slots := 0, locals := 13 } : Room).cells ({ frames := 1, cells := 0, slots := 0, locals := 13 } : Room).slots) := by
  refine MetFree.of_bodySF (plainFor_of_name pn_0) hisR ?_
  intro p e s m args below meth c s₁ Bd hml0 hP hK
  obtain ⟨rfl, hZ, hh⟩ := hP
  have hx := Bd.exec
  have hby := Bd.bytes
  have hml : c.maxLocals = 7 := hml0
  have hown : s.vm.findClass "com/example/edgewarden/edgewarden/graph/Likeness" = some m.cls := findClass_of_methodNamed Bd.named
  have hnm := (name_of_methodNamed Bd.named Bd.method).1
  have X0 : Stand p l e ({ frames := 1, cells := 0, slots := 0, locals := 13 } : Room) s m #[(.ref a1), (.ref ar)] below meth c s₁ [] 0 0 := Stand.of_body Bd
  have e0 : s₁.heap = h0 := by rw [← hh, Bd.state]; rfl
  have N0 := Fr.nil n0
  have K0 : Keep h0 h0 [a1] := Keep.refl _ _
  suffices G0 : own_G p e below (own_E s below (Q_rmI2 Z a1 ar ka v0 v1 u0 u1 h0 n0) ({ frames := 1, cells := 0, slots := 0, locals := 13 } : Room).cells ({ frames := 1, cells := 0, slots := 0, locals := 13 } : Room).slots) s₁ (mkF m 0 #[.val (.ref a1), .val (.ref ar), .unset, .unset, .unset, .unset, .unset] []) by
    obtain ⟨zt, zst, zo, zq1, zq2, zq3⟩ := G0
    exact ⟨zt, zo, castTop (ef_rmI2 m a1 ar) zst, zq1, zq2, zq3⟩
  obtain ⟨Φ, hΦ⟩ : ∃ Φ, Φ = own_E s below (Q_rmI2 Z a1 ar ka v0 v1 u0 u1 h0 n0) ({ frames := 1, cells := 0, slots := 0, locals := 13 } : Room).cells ({ frames := 1, cells := 0, slots := 0, locals := 13 } : Room).slots := ⟨_, rfl⟩
  rw [← hΦ]
  show own_G p e below Φ s₁ (mkF m 0 #[.val (.ref a1), .val (.ref ar), .unset, .unset, .unset, .unset, .unset] [])
  refine own_go (fun _ => XS.aloadN X0.here hx rfl (hb hby d2_0) rfl rfl) ?_
  show own_G p e below Φ s₁ (mkF m 1 #[.val (.ref a1), .val (.ref ar), .unset, .unset, .unset, .unset, .unset] [(.ref a1)])
  obtain ⟨T1, X1, e1, st1⟩ := initO X0 hx hZ hown (wd_12 hw) (wd_13 hw) (wd_14 hw) e0 (g := (mkF m 1 #[.val (.ref a1), .val (.ref ar), .unset, .unset, .unset, .unset, .unset] [(.ref a1)])) rfl (by rw [hml]; rfl) rfl (hb hby d2_1) (by decide) (W := 0) (by show 2 * 0 + _ ≤ _; exact Nat.le_of_eq rfl) (by decide)
  refine own_go st1 ?_
  show own_G p e below Φ T1 (mkF m 4 #[.val (.ref a1), .val (.ref ar), .unset, .unset, .unset, .unset, .unset] [])
  refine own_go (fun _ => XS.aloadN X1.here hx rfl (hb hby d2_4) rfl rfl) ?_
  show own_G p e below Φ T1 (mkF m 5 #[.val (.ref a1), .val (.ref ar), .unset, .unset, .unset, .unset, .unset] [(.ref a1)])
  refine own_go (fun _ => XS.aloadN X1.here hx rfl (hb hby d2_5) rfl rfl) ?_
  show own_G p e below Φ T1 (mkF m 6 #[.val (.ref a1), .val (.ref ar), .unset, .unset, .unset, .unset, .unset] [(.ref ar), (.ref a1)])
  obtain ⟨T2, h2, X2, e2, W2, st2⟩ := putF X1 hx hZ hown (host := "") (Or.inl (wd_15 hw)) Via.refl e1 F_m_aClasses_a1 E_a1 (Or.inr ⟨(wd_16 hw), rfl, hnm⟩) (wd_7 hw) (ty := (.array .int)) (by decide) rfl rfl (g := (mkF m 6 #[.val (.ref a1), .val (.ref ar), .unset, .unset, .unset, .unset, .unset] [(.ref ar), (.ref a1)])) rfl rfl (hb hby d2_6)
  refine own_go st2 ?_
  have N2 := Fr.snoc X2 N0 g_a1
  have K2 := K0.wr W2 (Or.inl (List.mem_of_getElem? (i := 0) rfl))
  have Zp2 : n0 ≤ h2.size := Nat.le_trans Z0 (Keep.of_wr W2).1
  have f2w := F_m_aClasses_a1.same W2
  show own_G p e below Φ T2 (mkF m 9 #[.val (.ref a1), .val (.ref ar), .unset, .unset, .unset, .unset, .unset] [])
  refine own_go (fun _ => XS.iconst X2.here hx rfl (hb hby d2_9)) ?_
  show own_G p e below Φ T2 (mkF m 10 #[.val (.ref a1), .val (.ref ar), .unset, .unset, .unset, .unset, .unset] [(.int (0 : Int32))])
  refine own_go (fun _ => XS.istoreN X2.here hx rfl (hb hby d2_10) rfl (l' := #[.val (.ref a1), .val (.ref ar), .val (.int (0 : Int32)), .unset, .unset, .unset, .unset]) rfl) ?_
  show own_G p e below Φ T2 (mkF m 11 #[.val (.ref a1), .val (.ref ar), .val (.int (0 : Int32)), .unset, .unset, .unset, .unset] [])
  refine own_go (fun _ => XS.aloadN X2.here hx rfl (hb hby d2_11) rfl rfl) ?_
  show own_G p e below Φ T2 (mkF m 12 #[.val (.ref a1), .val (.ref ar), .val (.int (0 : Int32)), .unset, .unset, .unset, .unset] [(.ref ar)])
  refine own_go (fun _ => XS.astoreN X2.here hx rfl (hb hby d2_12) rfl rfl (l' := #[.val (.ref a1), .val (.ref ar), .val (.int (0 : Int32)), .val (.ref ar), .unset, .unset, .unset]) rfl) ?_
  show own_G p e below Φ T2 (mkF m 13 #[.val (.ref a1), .val (.ref ar), .val (.int (0 : Int32)), .val (.ref ar), .unset, .unset, .unset] [])
  refine own_go (fun _ => XS.aloadN X2.here hx rfl (hb hby d2_13) rfl rfl) ?_
  show own_G p e below Φ T2 (mkF m 14 #[.val (.ref a1), .val (.ref ar), .val (.int (0 : Int32)), .val (.ref ar), .unset, .unset, .unset] [(.ref ar)])
  have f3 : Arv Z h2 ar ka .int (2 : Int32) [(.int v0), (.int v1)] (.int (0 : Int32)) := V_ar.other W2 ne_ar_a1
  obtain ⟨cl4, Ar4, q4, S4, M4, H4, G4⟩ := id f3
  refine own_go (fun _ => X2.arraylength hx (by rw [e2]; exact Ar4.1) (State.isArrayOf_alike hZ.alike Ar4.2.1) (g := (mkF m 14 #[.val (.ref a1), .val (.ref ar), .val (.int (0 : Int32)), .val (.ref ar), .unset, .unset, .unset] [(.ref ar)])) rfl rfl (hb hby d2_14) _) ?_
  rw [len_of S4 M4]
  show own_G p e below Φ T2 (mkF m 15 #[.val (.ref a1), .val (.ref ar), .val (.int (0 : Int32)), .val (.ref ar), .unset, .unset, .unset] [(.int (2 : Int32))])
  refine own_go (fun _ => XS.istore X2.here hx rfl (hb hby d2_15) rfl (l' := #[.val (.ref a1), .val (.ref ar), .val (.int (0 : Int32)), .val (.ref ar), .val (.int (2 : Int32)), .unset, .unset]) rfl) ?_
  show own_G p e below Φ T2 (mkF m 17 #[.val (.ref a1), .val (.ref ar), .val (.int (0 : Int32)), .val (.ref ar), .val (.int (2 : Int32)), .unset, .unset] [])
  refine own_go (fun _ => XS.iconst X2.here hx rfl (hb hby d2_17)) ?_
  show own_G p e below Φ T2 (mkF m 18 #[.val (.ref a1), .val (.ref ar), .val (.int (0 : Int32)), .val (.ref ar), .val (.int (2 : Int32)), .unset, .unset] [(.int (0 : Int32))])
  refine own_go (fun _ => XS.istore X2.here hx rfl (hb hby d2_18) rfl (l' := #[.val (.ref a1), .val (.ref ar), .val (.int (0 : Int32)), .val (.ref ar), .val (.int (2 : Int32)), .val (.int (0 : Int32)), .unset]) rfl) ?_
  show own_G p e below Φ T2 (mkF m 20 #[.val (.ref a1), .val (.ref ar), .val (.int (0 : Int32)), .val (.ref ar), .val (.int (2 : Int32)), .val (.int (0 : Int32)), .unset] [])
  refine own_go (fun _ => XS.iload X2.here hx rfl (hb hby d2_20) rfl) ?_
  show own_G p e below Φ T2 (mkF m 22 #[.val (.ref a1), .val (.ref ar), .val (.int (0 : Int32)), .val (.ref ar), .val (.int (2 : Int32)), .val (.int (0 : Int32)), .unset] [(.int (0 : Int32))])
  refine own_go (fun _ => XS.iload X2.here hx rfl (hb hby d2_22) rfl) ?_
  show own_G p e below Φ T2 (mkF m 24 #[.val (.ref a1), .val (.ref ar), .val (.int (0 : Int32)), .val (.ref ar), .val (.int (2 : Int32)), .val (.int (0 : Int32)), .unset] [(.int (2 : Int32)), (.int (0 : Int32))])
  refine own_go (fun _ => XS.icmpNo X2.here hx rfl (hb hby d2_24) rfl (Jvm.Free.XT.ii_ge_f (by decide : ((0 : Int32) < (2 : Int32))))) ?_
  show own_G p e below Φ T2 (mkF m 27 #[.val (.ref a1), .val (.ref ar), .val (.int (0 : Int32)), .val (.ref ar), .val (.int (2 : Int32)), .val (.int (0 : Int32)), .unset] [])
  refine own_go (fun _ => XS.aloadN X2.here hx rfl (hb hby d2_27) rfl rfl) ?_
  show own_G p e below Φ T2 (mkF m 28 #[.val (.ref a1), .val (.ref ar), .val (.int (0 : Int32)), .val (.ref ar), .val (.int (2 : Int32)), .val (.int (0 : Int32)), .unset] [(.ref ar)])
  refine own_go (fun _ => XS.iload X2.here hx rfl (hb hby d2_28) rfl) ?_
  show own_G p e below Φ T2 (mkF m 30 #[.val (.ref a1), .val (.ref ar), .val (.int (0 : Int32)), .val (.ref ar), .val (.int (2 : Int32)), .val (.int (0 : Int32)), .unset] [(.int (0 : Int32)), (.ref ar)])
  obtain ⟨cl5, Ar5, q5, S5, M5, H5, G5⟩ := id f3
  have hin5 : ¬ ((0 : Int32) < 0 ∨ cl5.slots.size ≤ ((0 : Int32)).toNatClampNeg) := inb_of S5 ⟨by decide, by decide⟩
  refine own_go (fun _ => X2.iaload hx (j := (0 : Int32)) (v := (.int v0)) (by rw [e2]; exact Ar5.1) (State.isArrayOf_alike hZ.alike Ar5.2.1) Ar5.2.2 hin5 (H5.at hin5 rfl) (g := (mkF m 30 #[.val (.ref a1), .val (.ref ar), .val (.int (0 : Int32)), .val (.ref ar), .val (.int (2 : Int32)), .val (.int (0 : Int32)), .unset] [(.int (0 : Int32)), (.ref ar)])) rfl rfl (hb hby d2_30) _) ?_
  show own_G p e below Φ T2 (mkF m 31 #[.val (.ref a1), .val (.ref ar), .val (.int (0 : Int32)), .val (.ref ar), .val (.int (2 : Int32)), .val (.int (0 : Int32)), .unset] [(.int v0)])
  refine own_go (fun _ => XS.istore X2.here hx rfl (hb hby d2_31) rfl (l' := #[.val (.ref a1), .val (.ref ar), .val (.int (0 : Int32)), .val (.ref ar), .val (.int (2 : Int32)), .val (.int (0 : Int32)), .val (.int v0)]) rfl) ?_
  show own_G p e below Φ T2 (mkF m 33 #[.val (.ref a1), .val (.ref ar), .val (.int (0 : Int32)), .val (.ref ar), .val (.int (2 : Int32)), .val (.int (0 : Int32)), .val (.int v0)] [])
  refine own_go (fun _ => XS.iloadN X2.here hx rfl (hb hby d2_33) rfl) ?_
  show own_G p e below Φ T2 (mkF m 34 #[.val (.ref a1), .val (.ref ar), .val (.int (0 : Int32)), .val (.ref ar), .val (.int (2 : Int32)), .val (.int (0 : Int32)), .val (.int v0)] [(.int (0 : Int32))])
  refine own_go (fun _ => XS.iload X2.here hx rfl (hb hby d2_34) rfl) ?_
  show own_G p e below Φ T2 (mkF m 36 #[.val (.ref a1), .val (.ref ar), .val (.int (0 : Int32)), .val (.ref ar), .val (.int (2 : Int32)), .val (.int (0 : Int32)), .val (.int v0)] [(.int v0), (.int (0 : Int32))])
  refine own_go (fun _ => XS.iconst X2.here hx rfl (hb hby d2_36)) ?_
  show own_G p e below Φ T2 (mkF m 37 #[.val (.ref a1), .val (.ref ar), .val (.int (0 : Int32)), .val (.ref ar), .val (.int (2 : Int32)), .val (.int (0 : Int32)), .val (.int v0)] [(.int (1 : Int32)), (.int v0), (.int (0 : Int32))])
  refine own_go (fun _ => XS.iadd X2.here hx rfl (hb hby d2_37) rfl) ?_
  show own_G p e below Φ T2 (mkF m 38 #[.val (.ref a1), .val (.ref ar), .val (.int (0 : Int32)), .val (.ref ar), .val (.int (2 : Int32)), .val (.int (0 : Int32)), .val (.int v0)] [(.int (v0 + (1 : Int32))), (.int (0 : Int32))])
  obtain ⟨_, _, ⟨T6, zL6, zk6, zn6⟩, -, X6, ⟨Lc6, hQ6, l6, y6, z6⟩, st6⟩ := Jvm.LawKit.callS X2 hx (y := (⟨"java/lang/Math", "max", "(II)I"⟩ : MethodName)) hown (mvT hZ (wd_28 hw)) (mvT hZ (wd_2 hw)) (mvT hZ (wd_3 hw)) (mvT hZ (wd_4 hw)) (by decide) (backOf (W := 0) (rmM l Z a0 hw [] (0 : Int32) (v0 + (1 : Int32)) h2 n0 Zp2 ) hZ (wd_4 hw) (wd_3 hw) (by decide) (by decide)) (g := (mkF m 38 #[.val (.ref a1), .val (.ref ar), .val (.int (0 : Int32)), .val (.ref ar), .val (.int (2 : Int32)), .val (.int (0 : Int32)), .val (.int v0)] [(.int (v0 + (1 : Int32))), (.int (0 : Int32))])) rfl (by rw [hml]; rfl) (argsL := [(.int (0 : Int32)), (.int (v0 + (1 : Int32)))]) (rest := []) (lenOf pd_0 rfl) rfl (by show 2 * 0 + _ ≤ _; exact Nat.le_of_eq rfl) (hb hby d2_38) (fun _ _ => ⟨rfl, e2, (by decide : 0 + 0 ≤ _), (by decide : 0 + 0 ≤ _)⟩)
  dsimp only [Pt.U, Pt.locs, Pt.cells, Pt.slots] at X6 l6 y6 z6 st6 hQ6
  subst l6 y6 z6
  obtain ⟨rfl, N6q, hs6⟩ := hQ6
  have N6 := Fr.app N2 N6q
  refine own_go st6 ?_
  show own_G p e below Φ T6 (mkF m 41 #[.val (.ref a1), .val (.ref ar), .val (.int (0 : Int32)), .val (.ref ar), .val (.int (2 : Int32)), .val (.int (0 : Int32)), .val (.int v0)] [(.int (own_max (0 : Int32) (v0 + (1 : Int32))))])
  refine own_go (fun _ => XS.istoreN X6.here hx rfl (hb hby d2_41) rfl (l' := #[.val (.ref a1), .val (.ref ar), .val (.int (own_max (0 : Int32) (v0 + (1 : Int32)))), .val (.ref ar), .val (.int (2 : Int32)), .val (.int (0 : Int32)), .val (.int v0)]) rfl) ?_
  show own_G p e below Φ T6 (mkF m 42 #[.val (.ref a1), .val (.ref ar), .val (.int (own_max (0 : Int32) (v0 + (1 : Int32)))), .val (.ref ar), .val (.int (2 : Int32)), .val (.int (0 : Int32)), .val (.int v0)] [])
  refine own_go (fun _ => XS.iinc X6.here hx rfl (hb hby d2_42) rfl (l' := #[.val (.ref a1), .val (.ref ar), .val (.int (own_max (0 : Int32) (v0 + (1 : Int32)))), .val (.ref ar), .val (.int (2 : Int32)), .val (.int (1 : Int32)), .val (.int v0)]) rfl) ?_
  show own_G p e below Φ T6 (mkF m 45 #[.val (.ref a1), .val (.ref ar), .val (.int (own_max (0 : Int32) (v0 + (1 : Int32)))), .val (.ref ar), .val (.int (2 : Int32)), .val (.int (1 : Int32)), .val (.int v0)] [])
  refine own_go (fun _ => XS.goto X6.here hx rfl (pc0 := 45) (pc' := 20) rfl (hb hby d2_45) (by decide) (by decide)) ?_
  show own_G p e below Φ T6 (mkF m 20 #[.val (.ref a1), .val (.ref ar), .val (.int (own_max (0 : Int32) (v0 + (1 : Int32)))), .val (.ref ar), .val (.int (2 : Int32)), .val (.int (1 : Int32)), .val (.int v0)] [])
  refine own_go (fun _ => XS.iload X6.here hx rfl (hb hby d2_20) rfl) ?_
  show own_G p e below Φ T6 (mkF m 22 #[.val (.ref a1), .val (.ref ar), .val (.int (own_max (0 : Int32) (v0 + (1 : Int32)))), .val (.ref ar), .val (.int (2 : Int32)), .val (.int (1 : Int32)), .val (.int v0)] [(.int (1 : Int32))])
  refine own_go (fun _ => XS.iload X6.here hx rfl (hb hby d2_22) rfl) ?_
  show own_G p e below Φ T6 (mkF m 24 #[.val (.ref a1), .val (.ref ar), .val (.int (own_max (0 : Int32) (v0 + (1 : Int32)))), .val (.ref ar), .val (.int (2 : Int32)), .val (.int (1 : Int32)), .val (.int v0)] [(.int (2 : Int32)), (.int (1 : Int32))])
  refine own_go (fun _ => XS.icmpNo X6.here hx rfl (hb hby d2_24) rfl (Jvm.Free.XT.ii_ge_f (by decide : ((1 : Int32) < (2 : Int32))))) ?_
  show own_G p e below Φ T6 (mkF m 27 #[.val (.ref a1), .val (.ref ar), .val (.int (own_max (0 : Int32) (v0 + (1 : Int32)))), .val (.ref ar), .val (.int (2 : Int32)), .val (.int (1 : Int32)), .val (.int v0)] [])
  refine own_go (fun _ => XS.aloadN X6.here hx rfl (hb hby d2_27) rfl rfl) ?_
  show own_G p e below Φ T6 (mkF m 28 #[.val (.ref a1), .val (.ref ar), .val (.int (own_max (0 : Int32) (v0 + (1 : Int32)))), .val (.ref ar), .val (.int (2 : Int32)), .val (.int (1 : Int32)), .val (.int v0)] [(.ref ar)])
  refine own_go (fun _ => XS.iload X6.here hx rfl (hb hby d2_28) rfl) ?_
  show own_G p e below Φ T6 (mkF m 30 #[.val (.ref a1), .val (.ref ar), .val (.int (own_max (0 : Int32) (v0 + (1 : Int32)))), .val (.ref ar), .val (.int (2 : Int32)), .val (.int (1 : Int32)), .val (.int v0)] [(.int (1 : Int32)), (.ref ar)])
  obtain ⟨cl7, Ar7, q7, S7, M7, H7, G7⟩ := id f3
  have hin7 : ¬ ((1 : Int32) < 0 ∨ cl7.slots.size ≤ ((1 : Int32)).toNatClampNeg) := inb_of S7 ⟨by decide, by decide⟩
  refine own_go (fun _ => X6.iaload hx (j := (1 : Int32)) (v := (.int v1)) (by rw [hs6]; exact Ar7.1) (State.isArrayOf_alike hZ.alike Ar7.2.1) Ar7.2.2 hin7 (H7.at hin7 rfl) (g := (mkF m 30 #[.val (.ref a1), .val (.ref ar), .val (.int (own_max (0 : Int32) (v0 + (1 : Int32)))), .val (.ref ar), .val (.int (2 : Int32)), .val (.int (1 : Int32)), .val (.int v0)] [(.int (1 : Int32)), (.ref ar)])) rfl rfl (hb hby d2_30) _) ?_
  show own_G p e below Φ T6 (mkF m 31 #[.val (.ref a1), .val (.ref ar), .val (.int (own_max (0 : Int32) (v0 + (1 : Int32)))), .val (.ref ar), .val (.int (2 : Int32)), .val (.int (1 : Int32)), .val (.int v0)] [(.int v1)])
  refine own_go (fun _ => XS.istore X6.here hx rfl (hb hby d2_31) rfl (l' := #[.val (.ref a1), .val (.ref ar), .val (.int (own_max (0 : Int32) (v0 + (1 : Int32)))), .val (.ref ar), .val (.int (2 : Int32)), .val (.int (1 : Int32)), .val (.int v1)]) rfl) ?_
  show own_G p e below Φ T6 (mkF m 33 #[.val (.ref a1), .val (.ref ar), .val (.int (own_max (0 : Int32) (v0 + (1 : Int32)))), .val (.ref ar), .val (.int (2 : Int32)), .val (.int (1 : Int32)), .val (.int v1)] [])
  refine own_go (fun _ => XS.iloadN X6.here hx rfl (hb hby d2_33) rfl) ?_
  show own_G p e below Φ T6 (mkF m 34 #[.val (.ref a1), .val (.ref ar), .val (.int (own_max (0 : Int32) (v0 + (1 : Int32)))), .val (.ref ar), .val (.int (2 : Int32)), .val (.int (1 : Int32)), .val (.int v1)] [(.int (own_max (0 : Int32) (v0 + (1 : Int32))))])
  refine own_go (fun _ => XS.iload X6.here hx rfl (hb hby d2_34) rfl) ?_
  show own_G p e below Φ T6 (mkF m 36 #[.val (.ref a1), .val (.ref ar), .val (.int (own_max (0 : Int32) (v0 + (1 : Int32)))), .val (.ref ar), .val (.int (2 : Int32)), .val (.int (1 : Int32)), .val (.int v1)] [(.int v1), (.int (own_max (0 : Int32) (v0 + (1 : Int32))))])
  refine own_go (fun _ => XS.iconst X6.here hx rfl (hb hby d2_36)) ?_
  show own_G p e below Φ T6 (mkF m 37 #[.val (.ref a1), .val (.ref ar), .val (.int (own_max (0 : Int32) (v0 + (1 : Int32)))), .val (.ref ar), .val (.int (2 : Int32)), .val (.int (1 : Int32)), .val (.int v1)] [(.int (1 : Int32)), (.int v1), (.int (own_max (0 : Int32) (v0 + (1 : Int32))))])
  refine own_go (fun _ => XS.iadd X6.here hx rfl (hb hby d2_37) rfl) ?_
  show own_G p e below Φ T6 (mkF m 38 #[.val (.ref a1), .val (.ref ar), .val (.int (own_max (0 : Int32) (v0 + (1 : Int32)))), .val (.ref ar), .val (.int (2 : Int32)), .val (.int (1 : Int32)), .val (.int v1)] [(.int (v1 + (1 : Int32))), (.int (own_max (0 : Int32) (v0 + (1 : Int32))))])
  obtain ⟨_, _, ⟨T8, zL8, zk8, zn8⟩, -, X8, ⟨Lc8, hQ8, l8, y8, z8⟩, st8⟩ := Jvm.LawKit.callS X6 hx (y := (⟨"java/lang/Math", "max", "(II)I"⟩ : MethodName)) hown (mvT hZ (wd_28 hw)) (mvT hZ (wd_2 hw)) (mvT hZ (wd_3 hw)) (mvT hZ (wd_4 hw)) (by decide) (backOf (W := 0) (rmM l Z a0 hw [] (own_max (0 : Int32) (v0 + (1 : Int32))) (v1 + (1 : Int32)) h2 n0 Zp2 ) hZ (wd_4 hw) (wd_3 hw) (by decide) (by decide)) (g := (mkF m 38 #[.val (.ref a1), .val (.ref ar), .val (.int (own_max (0 : Int32) (v0 + (1 : Int32)))), .val (.ref ar), .val (.int (2 : Int32)), .val (.int (1 : Int32)), .val (.int v1)] [(.int (v1 + (1 : Int32))), (.int (own_max (0 : Int32) (v0 + (1 : Int32))))])) rfl (by rw [hml]; rfl) (argsL := [(.int (own_max (0 : Int32) (v0 + (1 : Int32)))), (.int (v1 + (1 : Int32)))]) (rest := []) (lenOf pd_0 rfl) rfl (by show 2 * 0 + _ ≤ _; exact Nat.le_of_eq rfl) (hb hby d2_38) (fun _ _ => ⟨rfl, hs6, (by decide : 0 + 0 ≤ _), (by decide : 0 + 0 ≤ _)⟩)
  dsimp only [Pt.U, Pt.locs, Pt.cells, Pt.slots] at X8 l8 y8 z8 st8 hQ8
  subst l8 y8 z8
  obtain ⟨rfl, N8q, hs8⟩ := hQ8
  have N8 := Fr.app N6 N8q
  refine own_go st8 ?_
  show own_G p e below Φ T8 (mkF m 41 #[.val (.ref a1), .val (.ref ar), .val (.int (own_max (0 : Int32) (v0 + (1 : Int32)))), .val (.ref ar), .val (.int (2 : Int32)), .val (.int (1 : Int32)), .val (.int v1)] [(.int (own_max (own_max (0 : Int32) (v0 + (1 : Int32))) (v1 + (1 : Int32))))])
  refine own_go (fun _ => XS.istoreN X8.here hx rfl (hb hby d2_41) rfl (l' := #[.val (.ref a1), .val (.ref ar), .val (.int (own_max (own_max (0 : Int32) (v0 + (1 : Int32))) (v1 + (1 : Int32)))), .val (.ref ar), .val (.int (2 : Int32)), .val (.int (1 : Int32)), .val (.int v1)]) rfl) ?_
  show own_G p e below Φ T8 (mkF m 42 #[.val (.ref a1), .val (.ref ar), .val (.int (own_max (own_max (0 : Int32) (v0 + (1 : Int32))) (v1 + (1 : Int32)))), .val (.ref ar), .val (.int (2 : Int32)), .val (.int (1 : Int32)), .val (.int v1)] [])
  refine own_go (fun _ => XS.iinc X8.here hx rfl (hb hby d2_42) rfl (l' := #[.val (.ref a1), .val (.ref ar), .val (.int (own_max (own_max (0 : Int32) (v0 + (1 : Int32))) (v1 + (1 : Int32)))), .val (.ref ar), .val (.int (2 : Int32)), .val (.int (2 : Int32)), .val (.int v1)]) rfl) ?_
  show own_G p e below Φ T8 (mkF m 45 #[.val (.ref a1), .val (.ref ar), .val (.int (own_max (own_max (0 : Int32) (v0 + (1 : Int32))) (v1 + (1 : Int32)))), .val (.ref ar), .val (.int (2 : Int32)), .val (.int (2 : Int32)), .val (.int v1)] [])
  refine own_go (fun _ => XS.goto X8.here hx rfl (pc0 := 45) (pc' := 20) rfl (hb hby d2_45) (by decide) (by decide)) ?_
  show own_G p e below Φ T8 (mkF m 20 #[.val (.ref a1), .val (.ref ar), .val (.int (own_max (own_max (0 : Int32) (v0 + (1 : Int32))) (v1 + (1 : Int32)))), .val (.ref ar), .val (.int (2 : Int32)), .val (.int (2 : Int32)), .val (.int v1)] [])
  refine own_go (fun _ => XS.iload X8.here hx rfl (hb hby d2_20) rfl) ?_
  show own_G p e below Φ T8 (mkF m 22 #[.val (.ref a1), .val (.ref ar), .val (.int (own_max (own_max (0 : Int32) (v0 + (1 : Int32))) (v1 + (1 : Int32)))), .val (.ref ar), .val (.int (2 : Int32)), .val (.int (2 : Int32)), .val (.int v1)] [(.int (2 : Int32))])
  refine own_go (fun _ => XS.iload X8.here hx rfl (hb hby d2_22) rfl) ?_
  show own_G p e below Φ T8 (mkF m 24 #[.val (.ref a1), .val (.ref ar), .val (.int (own_max (own_max (0 : Int32) (v0 + (1 : Int32))) (v1 + (1 : Int32)))), .val (.ref ar), .val (.int (2 : Int32)), .val (.int (2 : Int32)), .val (.int v1)] [(.int (2 : Int32)), (.int (2 : Int32))])
  refine own_go (fun _ => XS.icmpYes X8.here hx rfl (pc0 := 24) (pc' := 48) rfl (hb hby d2_24) rfl (Jvm.Free.XT.ii_ge_t (by decide : ¬ ((2 : Int32) < (2 : Int32)))) (by decide) (by decide)) ?_
  show own_G p e below Φ T8 (mkF m 48 #[.val (.ref a1), .val (.ref ar), .val (.int (own_max (own_max (0 : Int32) (v0 + (1 : Int32))) (v1 + (1 : Int32)))), .val (.ref ar), .val (.int (2 : Int32)), .val (.int (2 : Int32)), .val (.int v1)] [])
  refine own_go (fun _ => XS.aloadN X8.here hx rfl (hb hby d2_48) rfl rfl) ?_
  show own_G p e below Φ T8 (mkF m 49 #[.val (.ref a1), .val (.ref ar), .val (.int (own_max (own_max (0 : Int32) (v0 + (1 : Int32))) (v1 + (1 : Int32)))), .val (.ref ar), .val (.int (2 : Int32)), .val (.int (2 : Int32)), .val (.int v1)] [(.ref a1)])
  refine own_go (fun _ => XS.iloadN X8.here hx rfl (hb hby d2_49) rfl) ?_
  show own_G p e below Φ T8 (mkF m 50 #[.val (.ref a1), .val (.ref ar), .val (.int (own_max (own_max (0 : Int32) (v0 + (1 : Int32))) (v1 + (1 : Int32)))), .val (.ref ar), .val (.int (2 : Int32)), .val (.int (2 : Int32)), .val (.int v1)] [(.int (own_max (own_max (0 : Int32) (v0 + (1 : Int32))) (v1 + (1 : Int32)))), (.ref a1)])
  have f9 : Exa Z h2 a1 "com/example/edgewarden/edgewarden/graph/Likeness" := E_a1.wr W2
  have f10 : Fld Z h2 a1 "com/example/edgewarden/edgewarden/graph/Likeness" "m_nClassCount" "I" u1 := F_m_nClassCount_a1.other W2 (Or.inr (sl_0 hw))
  obtain ⟨T11, h11, X11, e11, W11, st11⟩ := putF X8 hx hZ hown (host := "") (Or.inl (wd_17 hw)) Via.refl hs8 f10 f9 (Or.inr ⟨(wd_18 hw), rfl, hnm⟩) (wd_7 hw) (ty := .int) (by decide) rfl rfl (g := (mkF m 50 #[.val (.ref a1), .val (.ref ar), .val (.int (own_max (own_max (0 : Int32) (v0 + (1 : Int32))) (v1 + (1 : Int32)))), .val (.ref ar), .val (.int (2 : Int32)), .val (.int (2 : Int32)), .val (.int v1)] [(.int (own_max (own_max (0 : Int32) (v0 + (1 : Int32))) (v1 + (1 : Int32)))), (.ref a1)])) rfl rfl (hb hby d2_50)
  refine own_go st11 ?_
  have N11 := Fr.snoc X11 N8 g_a1
  have K11 := K2.wr W11 (Or.inl (List.mem_of_getElem? (i := 0) rfl))
  have Zp11 : n0 ≤ h11.size := Nat.le_trans Zp2 (Keep.of_wr W11).1
  have f11w := f10.same W11
  show own_G p e below Φ T11 (mkF m 53 #[.val (.ref a1), .val (.ref ar), .val (.int (own_max (own_max (0 : Int32) (v0 + (1 : Int32))) (v1 + (1 : Int32)))), .val (.ref ar), .val (.int (2 : Int32)), .val (.int (2 : Int32)), .val (.int v1)] [])
  have f12 : Exa Z h11 a1 "com/example/edgewarden/edgewarden/graph/Likeness" := f9.wr W11
  have f13 : Fld Z h11 a1 "com/example/edgewarden/edgewarden/graph/Likeness" "m_aClasses" "[I" (.ref ar) := f2w.other W11 (Or.inr (sl_1 hw))
  rw [hΦ]
  refine own_ret X11 (v := none) (fun _ => rfl) (BodyLoose.notSynchronized Bd) (fun fs hr => X11.returnOut hx Bd.returns (hb hby d2_53) hr) ?_ (by decide) (by decide)
  rw [e11]
  exact ⟨rfl, N11, K11, f12, f13, f11w⟩
theorem ef_rmI3 (m : MethodId) (a1 : Addr) (ar : Addr) : entryFrame m #[(.ref a1), (.ref ar)] 7 = mkF m 0 #[.val (.ref a1), .val (.ref ar), .unset, .unset, .unset, .unset, .unset] [] := by first | (simp [entryFrame, mkF, argsToLocals, Value.category]; done) | rfl
def Q_rmI3 (Z : State) (a1 : Addr) (ar : Addr) (ka : ClassId) (v0 : Int32) (v1 : Int32) (v2 : Int32) (u0 : Value) (u1 : Value) (h0 : Heap) (n0 : Nat) (v : Option Value) (h : Heap) (L : List Loc) : Prop := v = none ∧ Fr n0 L ∧ Keep h0 h [a1] ∧ Exa Z h a1 "com/example/edgewarden/edgewarden/graph/Likeness" ∧ Fld Z h a1 "com/example/edgewarden/edgewarden/graph/Likeness" "m_aClasses" "[I" (.ref ar) ∧ Fld Z h a1 "com/example/edgewarden/edgewarden/graph/Likeness" "m_nClassCount" "I" (.int (own_max (own_max (own_max (0 : Int32) (v0 + (1 : Int32))) (v1 + (1 : Int32))) (v2 + (1 : Int32))))
set_option maxRecDepth 65536 in
set_option maxHeartbeats 40000000 in
theorem rmI3 (l : Launch) (Z : State) (a0 : Array Value) (hw : ∀ d ∈ tables_1, d.before a0 Z = true) (ws : List Jvm.Cond) (a1 : Addr) (ar : Addr) (ka : ClassId) (v0 : Int32) (v1 : Int32) (v2 : Int32) (u0 : Value) (u1 : Value) (h0 : Heap) (n0 : Nat) (Z0 : n0 ≤ h0.size) (E_a1 : Exa Z h0 a1 "com/example/edgewarden/edgewarden/graph/Likeness") (F_m_aClasses_a1 : Fld Z h0 a1 "com/example/edgewarden/edgewarden/graph/Likeness" "m_aClasses" "[I" u0) (F_m_nClassCount_a1 : Fld Z h0 a1 "com/example/edgewarden/edgewarden/graph/Likeness" "m_nClassCount" "I" u1) (g_a1 : n0 ≤ a1) (V_ar : Arv Z h0 ar ka .int (3 : Int32) [(.int v0), (.int v1), (.int v2)] (.int (0 : Int32))) (ne_ar_a1 : ar ≠ a1) :
    MetFree l (⟨"com/example/edgewarden/edgewarden/graph/Likeness", "<init>", "([I)V"⟩ : MethodName) (head1 (Jvm.Cond.code (⟨"com/example/edgewarden/edgewarden/graph/Likeness", "<init>", "([I)V"⟩ : MethodName) prog_57_method_3_code 7 none :: ws) ({ frames := 1, cells := 0, slots := 0, locals := 13 } : Room)) (fun a U => a = #[(.ref a1), (.ref ar)] ∧ Z.Warmed39 U.vm ∧ U.heap = h0) (fun _ _ _ _ _ => True) (fun _ U o U' => ∃ v L, o = .returned v ∧ Q_rmI3 Z a1 ar ka v0 v1 v2 u0 u1 h0 n0 v U'.heap L ∧ FrameEnd U o U' L ({ frames := 1, cells := 0, slots := 0, locals := 13 } : Room).cells ({ frames := 1, cells := 0, slots := 0, locals := 13 } : Room).slots) := by
  refine MetFree.of_bodySF (plainFor_of_name pn_0) hisR ?_
  intro p e s m args below meth c s₁ Bd hml0 hP hK
  obtain ⟨rfl, hZ, hh⟩ := hP
  have hx := Bd.exec
  have hby := Bd.bytes
  have hml : c.maxLocals = 7 := hml0
  have hown : s.vm.findClass "com/example/edgewarden/edgewarden/graph/Likeness" = some m.cls := findClass_of_methodNamed Bd.named
  have hnm := (name_of_methodNamed Bd.named Bd.method).1
  have X0 : Stand p l e ({ frames := 1, cells := 0, slots := 0, locals := 13 } : Room) s m #[(.ref a1), (.ref ar)] below meth c s₁ [] 0 0 := Stand.of_body Bd
  have e0 : s₁.heap = h0 := by rw [← hh, Bd.state]; rfl
  have N0 := Fr.nil n0
  have K0 : Keep h0 h0 [a1] := Keep.refl _ _
  suffices G0 : own_G p e below (own_E s below (Q_rmI3 Z a1 ar ka v0 v1 v2 u0 u1 h0 n0) ({ frames := 1, cells := 0, slots := 0, locals := 13 } : Room).cells ({ frames := 1, cells := 0, slots := 0, locals := 13 } : Room).slots) s₁ (mkF m 0 #[.val (.ref a1), .val (.ref ar), .unset, .unset, .unset, .unset, .unset] []) by
    obtain ⟨zt, zst, zo, zq1, zq2, zq3⟩ := G0
    exact ⟨zt, zo, castTop (ef_rmI3 m a1 ar) zst, zq1, zq2, zq3⟩
  obtain ⟨Φ, hΦ⟩ : ∃ Φ, Φ = own_E s below (Q_rmI3 Z a1 ar ka v0 v1 v2 u0 u1 h0 n0) ({ frames := 1, cells := 0, slots := 0, locals := 13 } : Room).cells ({ frames := 1, cells := 0, slots := 0, locals := 13 } : Room).slots := ⟨_, rfl⟩
  rw [← hΦ]
  show own_G p e below Φ s₁ (mkF m 0 #[.val (.ref a1), .val (.ref ar), .unset, .unset, .unset, .unset, .unset] [])
  refine own_go (fun _ => XS.aloadN X0.here hx rfl (hb hby d2_0) rfl rfl) ?_
  show own_G p e below Φ s₁ (mkF m 1 #[.val (.ref a1), .val (.ref ar), .unset, .unset, .unset, .unset, .unset] [(.ref a1)])
  obtain ⟨T1, X1, e1, st1⟩ := initO X0 hx hZ hown (wd_12 hw) (wd_13 hw) (wd_14 hw) e0 (g := (mkF m 1 #[.val (.ref a1), .val (.ref ar), .unset, .unset, .unset, .unset, .unset] [(.ref a1)])) rfl (by rw [hml]; rfl) rfl (hb hby d2_1) (by decide) (W := 0) (by show 2 * 0 + _ ≤ _; exact Nat.le_of_eq rfl) (by decide)
  refine own_go st1 ?_
  show own_G p e below Φ T1 (mkF m 4 #[.val (.ref a1), .val (.ref ar), .unset, .unset, .unset, .unset, .unset] [])
  refine own_go (fun _ => XS.aloadN X1.here hx rfl (hb hby d2_4) rfl rfl) ?_
  show own_G p e below Φ T1 (mkF m 5 #[.val (.ref a1), .val (.ref ar), .unset, .unset, .unset, .unset, .unset] [(.ref a1)])
  refine own_go (fun _ => XS.aloadN X1.here hx rfl (hb hby d2_5) rfl rfl) ?_
  show own_G p e below Φ T1 (mkF m 6 #[.val (.ref a1), .val (.ref ar), .unset, .unset, .unset, .unset, .unset] [(.ref ar), (.ref a1)])
  obtain ⟨T2, h2, X2, e2, W2, st2⟩ := putF X1 hx hZ hown (host := "") (Or.inl (wd_15 hw)) Via.refl e1 F_m_aClasses_a1 E_a1 (Or.inr ⟨(wd_16 hw), rfl, hnm⟩) (wd_7 hw) (ty := (.array .int)) (by decide) rfl rfl (g := (mkF m 6 #[.val (.ref a1), .val (.ref ar), .unset, .unset, .unset, .unset, .unset] [(.ref ar), (.ref a1)])) rfl rfl (hb hby d2_6)
  refine own_go st2 ?_
  have N2 := Fr.snoc X2 N0 g_a1
  have K2 := K0.wr W2 (Or.inl (List.mem_of_getElem? (i := 0) rfl))
  have Zp2 : n0 ≤ h2.size := Nat.le_trans Z0 (Keep.of_wr W2).1
  have f2w := F_m_aClasses_a1.same W2
  show own_G p e below Φ T2 (mkF m 9 #[.val (.ref a1), .val (.ref ar), .unset, .unset, .unset, .unset, .unset] [])
  refine own_go (fun _ => XS.iconst X2.here hx rfl (hb hby d2_9)) ?_
  show own_G p e below Φ T2 (mkF m 10 #[.val (.ref a1), .val (.ref ar), .unset, .unset, .unset, .unset, .unset] [(.int (0 : Int32))])
  refine own_go (fun _ => XS.istoreN X2.here hx rfl (hb hby d2_10) rfl (l' := #[.val (.ref a1), .val (.ref ar), .val (.int (0 : Int32)), .unset, .unset, .unset, .unset]) rfl) ?_
  show own_G p e below Φ T2 (mkF m 11 #[.val (.ref a1), .val (.ref ar), .val (.int (0 : Int32)), .unset, .unset, .unset, .unset] [])
  refine own_go (fun _ => XS.aloadN X2.here hx rfl (hb hby d2_11) rfl rfl) ?_
  show own_G p e below Φ T2 (mkF m 12 #[.val (.ref a1), .val (.ref ar), .val (.int (0 : Int32)), .unset, .unset, .unset, .unset] [(.ref ar)])
  refine own_go (fun _ => XS.astoreN X2.here hx rfl (hb hby d2_12) rfl rfl (l' := #[.val (.ref a1), .val (.ref ar), .val (.int (0 : Int32)), .val (.ref ar), .unset, .unset, .unset]) rfl) ?_
  show own_G p e below Φ T2 (mkF m 13 #[.val (.ref a1), .val (.ref ar), .val (.int (0 : Int32)), .val (.ref ar), .unset, .unset, .unset] [])
  refine own_go (fun _ => XS.aloadN X2.here hx rfl (hb hby d2_13) rfl rfl) ?_
  show own_G p e below Φ T2 (mkF m 14 #[.val (.ref a1), .val (.ref ar), .val (.int (0 : Int32)), .val (.ref ar), .unset, .unset, .unset] [(.ref ar)])
  have f3 : Arv Z h2 ar ka .int (3 : Int32) [(.int v0), (.int v1), (.int v2)] (.int (0 : Int32)) := V_ar.other W2 ne_ar_a1
  obtain ⟨cl4, Ar4, q4, S4, M4, H4, G4⟩ := id f3
  refine own_go (fun _ => X2.arraylength hx (by rw [e2]; exact Ar4.1) (State.isArrayOf_alike hZ.alike Ar4.2.1) (g := (mkF m 14 #[.val (.ref a1), .val (.ref ar), .val (.int (0 : Int32)), .val (.ref ar), .unset, .unset, .unset] [(.ref ar)])) rfl rfl (hb hby d2_14) _) ?_
  rw [len_of S4 M4]
  show own_G p e below Φ T2 (mkF m 15 #[.val (.ref a1), .val (.ref ar), .val (.int (0 : Int32)), .val (.ref ar), .unset, .unset, .unset] [(.int (3 : Int32))])
  refine own_go (fun _ => XS.istore X2.here hx rfl (hb hby d2_15) rfl (l' := #[.val (.ref a1), .val (.ref ar), .val (.int (0 : Int32)), .val (.ref ar), .val (.int (3 : Int32)), .unset, .unset]) rfl) ?_
  show own_G p e below Φ T2 (mkF m 17 #[.val (.ref a1), .val (.ref ar), .val (.int (0 : Int32)), .val (.ref ar), .val (.int (3 : Int32)), .unset, .unset] [])
  refine own_go (fun _ => XS.iconst X2.here hx rfl (hb hby d2_17)) ?_
  show own_G p e below Φ T2 (mkF m 18 #[.val (.ref a1), .val (.ref ar), .val (.int (0 : Int32)), .val (.ref ar), .val (.int (3 : Int32)), .unset, .unset] [(.int (0 : Int32))])
  refine own_go (fun _ => XS.istore X2.here hx rfl (hb hby d2_18) rfl (l' := #[.val (.ref a1), .val (.ref ar), .val (.int (0 : Int32)), .val (.ref ar), .val (.int (3 : Int32)), .val (.int (0 : Int32)), .unset]) rfl) ?_
  show own_G p e below Φ T2 (mkF m 20 #[.val (.ref a1), .val (.ref ar), .val (.int (0 : Int32)), .val (.ref ar), .val (.int (3 : Int32)), .val (.int (0 : Int32)), .unset] [])
  refine own_go (fun _ => XS.iload X2.here hx rfl (hb hby d2_20) rfl) ?_
  show own_G p e below Φ T2 (mkF m 22 #[.val (.ref a1), .val (.ref ar), .val (.int (0 : Int32)), .val (.ref ar), .val (.int (3 : Int32)), .val (.int (0 : Int32)), .unset] [(.int (0 : Int32))])
  refine own_go (fun _ => XS.iload X2.here hx rfl (hb hby d2_22) rfl) ?_
  show own_G p e below Φ T2 (mkF m 24 #[.val (.ref a1), .val (.ref ar), .val (.int (0 : Int32)), .val (.ref ar), .val (.int (3 : Int32)), .val (.int (0 : Int32)), .unset] [(.int (3 : Int32)), (.int (0 : Int32))])
  refine own_go (fun _ => XS.icmpNo X2.here hx rfl (hb hby d2_24) rfl (Jvm.Free.XT.ii_ge_f (by decide : ((0 : Int32) < (3 : Int32))))) ?_
  show own_G p e below Φ T2 (mkF m 27 #[.val (.ref a1), .val (.ref ar), .val (.int (0 : Int32)), .val (.ref ar), .val (.int (3 : Int32)), .val (.int (0 : Int32)), .unset] [])
  refine own_go (fun _ => XS.aloadN X2.here hx rfl (hb hby d2_27) rfl rfl) ?_
  show own_G p e below Φ T2 (mkF m 28 #[.val (.ref a1), .val (.ref ar), .val (.int (0 : Int32)), .val (.ref ar), .val (.int (3 : Int32)), .val (.int (0 : Int32)), .unset] [(.ref ar)])
  refine own_go (fun _ => XS.iload X2.here hx rfl (hb hby d2_28) rfl) ?_
  show own_G p e below Φ T2 (mkF m 30 #[.val (.ref a1), .val (.ref ar), .val (.int (0 : Int32)), .val (.ref ar), .val (.int (3 : Int32)), .val (.int (0 : Int32)), .unset] [(.int (0 : Int32)), (.ref ar)])
  obtain ⟨cl5, Ar5, q5, S5, M5, H5, G5⟩ := id f3
  have hin5 : ¬ ((0 : Int32) < 0 ∨ cl5.slots.size ≤ ((0 : Int32)).toNatClampNeg) := inb_of S5 ⟨by decide, by decide⟩
  refine own_go (fun _ => X2.iaload hx (j := (0 : Int32)) (v := (.int v0)) (by rw [e2]; exact Ar5.1) (State.isArrayOf_alike hZ.alike Ar5.2.1) Ar5.2.2 hin5 (H5.at hin5 rfl) (g := (mkF m 30 #[.val (.ref a1), .val (.ref ar), .val (.int (0 : Int32)), .val (.ref ar), .val (.int (3 : Int32)), .val (.int (0 : Int32)), .unset] [(.int (0 : Int32)), (.ref ar)])) rfl rfl (hb hby d2_30) _) ?_
  show own_G p e below Φ T2 (mkF m 31 #[.val (.ref a1), .val (.ref ar), .val (.int (0 : Int32)), .val (.ref ar), .val (.int (3 : Int32)), .val (.int (0 : Int32)), .unset] [(.int v0)])
  refine own_go (fun _ => XS.istore X2.here hx rfl (hb hby d2_31) rfl (l' := #[.val (.ref a1), .val (.ref ar), .val (.int (0 : Int32)), .val (.ref ar), .val (.int (3 : Int32)), .val (.int (0 : Int32)), .val (.int v0)]) rfl) ?_
  show own_G p e below Φ T2 (mkF m 33 #[.val (.ref a1), .val (.ref ar), .val (.int (0 : Int32)), .val (.ref ar), .val (.int (3 : Int32)), .val (.int (0 : Int32)), .val (.int v0)] [])
  refine own_go (fun _ => XS.iloadN X2.here hx rfl (hb hby d2_33) rfl) ?_
  show own_G p e below Φ T2 (mkF m 34 #[.val (.ref a1), .val (.ref ar), .val (.int (0 : Int32)), .val (.ref ar), .val (.int (3 : Int32)), .val (.int (0 : Int32)), .val (.int v0)] [(.int (0 : Int32))])
  refine own_go (fun _ => XS.iload X2.here hx rfl (hb hby d2_34) rfl) ?_
  show own_G p e below Φ T2 (mkF m 36 #[.val (.ref a1), .val (.ref ar), .val (.int (0 : Int32)), .val (.ref ar), .val (.int (3 : Int32)), .val (.int (0 : Int32)), .val (.int v0)] [(.int v0), (.int (0 : Int32))])
  refine own_go (fun _ => XS.iconst X2.here hx rfl (hb hby d2_36)) ?_
  show own_G p e below Φ T2 (mkF m 37 #[.val (.ref a1), .val (.ref ar), .val (.int (0 : Int32)), .val (.ref ar), .val (.int (3 : Int32)), .val (.int (0 : Int32)), .val (.int v0)] [(.int (1 : Int32)), (.int v0), (.int (0 : Int32))])
  refine own_go (fun _ => XS.iadd X2.here hx rfl (hb hby d2_37) rfl) ?_
  show own_G p e below Φ T2 (mkF m 38 #[.val (.ref a1), .val (.ref ar), .val (.int (0 : Int32)), .val (.ref ar), .val (.int (3 : Int32)), .val (.int (0 : Int32)), .val (.int v0)] [(.int (v0 + (1 : Int32))), (.int (0 : Int32))])
  obtain ⟨_, _, ⟨T6, zL6, zk6, zn6⟩, -, X6, ⟨Lc6, hQ6, l6, y6, z6⟩, st6⟩ := Jvm.LawKit.callS X2 hx (y := (⟨"java/lang/Math", "max", "(II)I"⟩ : MethodName)) hown (mvT hZ (wd_28 hw)) (mvT hZ (wd_2 hw)) (mvT hZ (wd_3 hw)) (mvT hZ (wd_4 hw)) (by decide) (backOf (W := 0) (rmM l Z a0 hw [] (0 : Int32) (v0 + (1 : Int32)) h2 n0 Zp2 ) hZ (wd_4 hw) (wd_3 hw) (by decide) (by decide)) (g := (mkF m 38 #[.val (.ref a1), .val (.ref ar), .val (.int (0 : Int32)), .val (.ref ar), .val (.int (3 : Int32)), .val (.int (0 : Int32)), .val (.int v0)] [(.int (v0 + (1 : Int32))), (.int (0 : Int32))])) rfl (by rw [hml]; rfl) (argsL := [(.int (0 : Int32)), (.int (v0 + (1 : Int32)))]) (rest := []) (lenOf pd_0 rfl) rfl (by show 2 * 0 + _ ≤ _; exact Nat.le_of_eq rfl) (hb hby d2_38) (fun _ _ => ⟨rfl, e2, (by decide : 0 + 0 ≤ _), (by decide : 0 + 0 ≤ _)⟩)
  dsimp only [Pt.U, Pt.locs, Pt.cells, Pt.slots] at X6 l6 y6 z6 st6 hQ6
  subst l6 y6 z6
  obtain ⟨rfl, N6q, hs6⟩ := hQ6
  have N6 := Fr.app N2 N6q
  refine own_go st6 ?_
  show own_G p e below Φ T6 (mkF m 41 #[.val (.ref a1), .val (.ref ar), .val (.int (0 : Int32)), .val (.ref ar), .val (.int (3 : Int32)), .val (.int (0 : Int32)), .val (.int v0)] [(.int (own_max (0 : Int32) (v0 + (1 : Int32))))])
  refine own_go (fun _ => XS.istoreN X6.here hx rfl (hb hby d2_41) rfl (l' := #[.val (.ref a1), .val (.ref ar), .val (.int (own_max (0 : Int32) (v0 + (1 : Int32)))), .val (.ref ar), .val (.int (3 : Int32)), .val (.int (0 : Int32)), .val (.int v0)]) rfl) ?_
  show own_G p e below Φ T6 (mkF m 42 #[.val (.ref a1), .val (.ref ar), .val (.int (own_max (0 : Int32) (v0 + (1 : Int32)))), .val (.ref ar), .val (.int (3 : Int32)), .val (.int (0 : Int32)), .val (.int v0)] [])
  refine own_go (fun _ => XS.iinc X6.here hx rfl (hb hby d2_42) rfl (l' := #[.val (.ref a1), .val (.ref ar), .val (.int (own_max (0 : Int32) (v0 + (1 : Int32)))), .val (.ref ar), .val (.int (3 : Int32)), .val (.int (1 : Int32)), .val (.int v0)]) rfl) ?_
  show own_G p e below Φ T6 (mkF m 45 #[.val (.ref a1), .val (.ref ar), .val (.int (own_max (0 : Int32) (v0 + (1 : Int32)))), .val (.ref ar), .val (.int (3 : Int32)), .val (.int (1 : Int32)), .val (.int v0)] [])
  refine own_go (fun _ => XS.goto X6.here hx rfl (pc0 := 45) (pc' := 20) rfl (hb hby d2_45) (by decide) (by decide)) ?_
  show own_G p e below Φ T6 (mkF m 20 #[.val (.ref a1), .val (.ref ar), .val (.int (own_max (0 : Int32) (v0 + (1 : Int32)))), .val (.ref ar), .val (.int (3 : Int32)), .val (.int (1 : Int32)), .val (.int v0)] [])
  refine own_go (fun _ => XS.iload X6.here hx rfl (hb hby d2_20) rfl) ?_
  show own_G p e below Φ T6 (mkF m 22 #[.val (.ref a1), .val (.ref ar), .val (.int (own_max (0 : Int32) (v0 + (1 : Int32)))), .val (.ref ar), .val (.int (3 : Int32)), .val (.int (1 : Int32)), .val (.int v0)] [(.int (1 : Int32))])
  refine own_go (fun _ => XS.iload X6.here hx rfl (hb hby d2_22) rfl) ?_
  show own_G p e below Φ T6 (mkF m 24 #[.val (.ref a1), .val (.ref ar), .val (.int (own_max (0 : Int32) (v0 + (1 : Int32)))), .val (.ref ar), .val (.int (3 : Int32)), .val (.int (1 : Int32)), .val (.int v0)] [(.int (3 : Int32)), (.int (1 : Int32))])
  refine own_go (fun _ => XS.icmpNo X6.here hx rfl (hb hby d2_24) rfl (Jvm.Free.XT.ii_ge_f (by decide : ((1 : Int32) < (3 : Int32))))) ?_
  show own_G p e below Φ T6 (mkF m 27 #[.val (.ref a1), .val (.ref ar), .val (.int (own_max (0 : Int32) (v0 + (1 : Int32)))), .val (.ref ar), .val (.int (3 : Int32)), .val (.int (1 : Int32)), .val (.int v0)] [])
  refine own_go (fun _ => XS.aloadN X6.here hx rfl (hb hby d2_27) rfl rfl) ?_
  show own_G p e below Φ T6 (mkF m 28 #[.val (.ref a1), .val (.ref ar), .val (.int (own_max (0 : Int32) (v0 + (1 : Int32)))), .val (.ref ar), .val (.int (3 : Int32)), .val (.int (1 : Int32)), .val (.int v0)] [(.ref ar)])
  refine own_go (fun _ => XS.iload X6.here hx rfl (hb hby d2_28) rfl) ?_
  show own_G p e below Φ T6 (mkF m 30 #[.val (.ref a1), .val (.ref ar), .val (.int (own_max (0 : Int32) (v0 + (1 : Int32)))), .val (.ref ar), .val (.int (3 : Int32)), .val (.int (1 : Int32)), .val (.int v0)] [(.int (1 : Int32)), (.ref ar)])
  obtain ⟨cl7, Ar7, q7, S7, M7, H7, G7⟩ := id f3
  have hin7 : ¬ ((1 : Int32) < 0 ∨ cl7.slots.size ≤ ((1 : Int32)).toNatClampNeg) := inb_of S7 ⟨by decide, by decide⟩
  refine own_go (fun _ => X6.iaload hx (j := (1 : Int32)) (v := (.int v1)) (by rw [hs6]; exact Ar7.1) (State.isArrayOf_alike hZ.alike Ar7.2.1) Ar7.2.2 hin7 (H7.at hin7 rfl) (g := (mkF m 30 #[.val (.ref a1), .val (.ref ar), .val (.int (own_max (0 : Int32) (v0 + (1 : Int32)))), .val (.ref ar), .val (.int (3 : Int32)), .val (.int (1 : Int32)), .val (.int v0)] [(.int (1 : Int32)), (.ref ar)])) rfl rfl (hb hby d2_30) _) ?_
  show own_G p e below Φ T6 (mkF m 31 #[.val (.ref a1), .val (.ref ar), .val (.int (own_max (0 : Int32) (v0 + (1 : Int32)))), .val (.ref ar), .val (.int (3 : Int32)), .val (.int (1 : Int32)), .val (.int v0)] [(.int v1)])
  refine own_go (fun _ => XS.istore X6.here hx rfl (hb hby d2_31) rfl (l' := #[.val (.ref a1), .val (.ref ar), .val (.int (own_max (0 : Int32) (v0 + (1 : Int32)))), .val (.ref ar), .val (.int (3 : Int32)), .val (.int (1 : Int32)), .val (.int v1)]) rfl) ?_
  show own_G p e below Φ T6 (mkF m 33 #[.val (.ref a1), .val (.ref ar), .val (.int (own_max (0 : Int32) (v0 + (1 : Int32)))), .val (.ref ar), .val (.int (3 : Int32)), .val (.int (1 : Int32)), .val (.int v1)] [])
  refine own_go (fun _ => XS.iloadN X6.here hx rfl (hb hby d2_33) rfl) ?_
  show own_G p e below Φ T6 (mkF m 34 #[.val (.ref a1), .val (.ref ar), .val (.int (own_max (0 : Int32) (v0 + (1 : Int32)))), .val (.ref ar), .val (.int (3 : Int32)), .val (.int (1 : Int32)), .val (.int v1)] [(.int (own_max (0 : Int32) (v0 + (1 : Int32))))])
  refine own_go (fun _ => XS.iload X6.here hx rfl (hb hby d2_34) rfl) ?_
  show own_G p e below Φ T6 (mkF m 36 #[.val (.ref a1), .val (.ref ar), .val (.int (own_max (0 : Int32) (v0 + (1 : Int32)))), .val (.ref ar), .val (.int (3 : Int32)), .val (.int (1 : Int32)), .val (.int v1)] [(.int v1), (.int (own_max (0 : Int32) (v0 + (1 : Int32))))])
  refine own_go (fun _ => XS.iconst X6.here hx rfl (hb hby d2_36)) ?_
  show own_G p e below Φ T6 (mkF m 37 #[.val (.ref a1), .val (.ref ar), .val (.int (own_max (0 : Int32) (v0 + (1 : Int32)))), .val (.ref ar), .val (.int (3 : Int32)), .val (.int (1 : Int32)), .val (.int v1)] [(.int (1 : Int32)), (.int v1), (.int (own_max (0 : Int32) (v0 + (1 : Int32))))])
  refine own_go (fun _ => XS.iadd X6.here hx rfl (hb hby d2_37) rfl) ?_
  show own_G p e below Φ T6 (mkF m 38 #[.val (.ref a1), .val (.ref ar), .val (.int (own_max (0 : Int32) (v0 + (1 : Int32)))), .val (.ref ar), .val (.int (3 : Int32)), .val (.int (1 : Int32)), .val (.int v1)] [(.int (v1 + (1 : Int32))), (.int (own_max (0 : Int32) (v0 + (1 : Int32))))])
  obtain ⟨_, _, ⟨T8, zL8, zk8, zn8⟩, -, X8, ⟨Lc8, hQ8, l8, y8, z8⟩, st8⟩ := Jvm.LawKit.callS X6 hx (y := (⟨"java/lang/Math", "max", "(II)I"⟩ : MethodName)) hown (mvT hZ (wd_28 hw)) (mvT hZ (wd_2 hw)) (mvT hZ (wd_3 hw)) (mvT hZ (wd_4 hw)) (by decide) (backOf (W := 0) (rmM l Z a0 hw [] (own_max (0 : Int32) (v0 + (1 : Int32))) (v1 + (1 : Int32)) h2 n0 Zp2 ) hZ (wd_4 hw) (wd_3 hw) (by decide) (by decide)) (g := (mkF m 38 #[.val (.ref a1), .val (.ref ar), .val (.int (own_max (0 : Int32) (v0 + (1 : Int32)))), .val (.ref ar), .val (.int (3 : Int32)), .val (.int (1 : Int32)), .val (.int v1)] [(.int (v1 + (1 : Int32))), (.int (own_max (0 : Int32) (v0 + (1 : Int32))))])) rfl (by rw [hml]; rfl) (argsL := [(.int (own_max (0 : Int32) (v0 + (1 : Int32)))), (.int (v1 + (1 : Int32)))]) (rest := []) (lenOf pd_0 rfl) rfl (by show 2 * 0 + _ ≤ _; exact Nat.le_of_eq rfl) (hb hby d2_38) (fun _ _ => ⟨rfl, hs6, (by decide : 0 + 0 ≤ _), (by decide : 0 + 0 ≤ _)⟩)
  dsimp only [Pt.U, Pt.locs, Pt.cells, Pt.slots] at X8 l8 y8 z8 st8 hQ8
  subst l8 y8 z8
  obtain ⟨rfl, N8q, hs8⟩ := hQ8
  have N8 := Fr.app N6 N8q
  refine own_go st8 ?_
  show own_G p e below Φ T8 (mkF m 41 #[.val (.ref a1), .val (.ref ar), .val (.int (own_max (0 : Int32) (v0 + (1 : Int32)))), .val (.ref ar), .val (.int (3 : Int32)), .val (.int (1 : Int32)), .val (.int v1)] [(.int (own_max (own_max (0 : Int32) (v0 + (1 : Int32))) (v1 + (1 : Int32))))])
  refine own_go (fun _ => XS.istoreN X8.here hx rfl (hb hby d2_41) rfl (l' := #[.val (.ref a1), .val (.ref ar), .val (.int (own_max (own_max (0 : Int32) (v0 + (1 : Int32))) (v1 + (1 : Int32)))), .val (.ref ar), .val (.int (3 : Int32)), .val (.int (1 : Int32)), .val (.int v1)]) rfl) ?_
  show own_G p e below Φ T8 (mkF m 42 #[.val (.ref a1), .val (.ref ar), .val (.int (own_max (own_max (0 : Int32) (v0 + (1 : Int32))) (v1 + (1 : Int32)))), .val (.ref ar), .val (.int (3 : Int32)), .val (.int (1 : Int32)), .val (.int v1)] [])
  refine own_go (fun _ => XS.iinc X8.here hx rfl (hb hby d2_42) rfl (l' := #[.val (.ref a1), .val (.ref ar), .val (.int (own_max (own_max (0 : Int32) (v0 + (1 : Int32))) (v1 + (1 : Int32)))), .val (.ref ar), .val (.int (3 : Int32)), .val (.int (2 : Int32)), .val (.int v1)]) rfl) ?_
  show own_G p e below Φ T8 (mkF m 45 #[.val (.ref a1), .val (.ref ar), .val (.int (own_max (own_max (0 : Int32) (v0 + (1 : Int32))) (v1 + (1 : Int32)))), .val (.ref ar), .val (.int (3 : Int32)), .val (.int (2 : Int32)), .val (.int v1)] [])
  refine own_go (fun _ => XS.goto X8.here hx rfl (pc0 := 45) (pc' := 20) rfl (hb hby d2_45) (by decide) (by decide)) ?_
  show own_G p e below Φ T8 (mkF m 20 #[.val (.ref a1), .val (.ref ar), .val (.int (own_max (own_max (0 : Int32) (v0 + (1 : Int32))) (v1 + (1 : Int32)))), .val (.ref ar), .val (.int (3 : Int32)), .val (.int (2 : Int32)), .val (.int v1)] [])
  refine own_go (fun _ => XS.iload X8.here hx rfl (hb hby d2_20) rfl) ?_
  show own_G p e below Φ T8 (mkF m 22 #[.val (.ref a1), .val (.ref ar), .val (.int (own_max (own_max (0 : Int32) (v0 + (1 : Int32))) (v1 + (1 : Int32)))), .val (.ref ar), .val (.int (3 : Int32)), .val (.int (2 : Int32)), .val (.int v1)] [(.int (2 : Int32))])
  refine own_go (fun _ => XS.iload X8.here hx rfl (hb hby d2_22) rfl) ?_
  show own_G p e below Φ T8 (mkF m 24 #[.val (.ref a1), .val (.ref ar), .val (.int (own_max (own_max (0 : Int32) (v0 + (1 : Int32))) (v1 + (1 : Int32)))), .val (.ref ar), .val (.int (3 : Int32)), .val (.int (2 : Int32)), .val (.int v1)] [(.int (3 : Int32)), (.int (2 : Int32))])
  refine own_go (fun _ => XS.icmpNo X8.here hx rfl (hb hby d2_24) rfl (Jvm.Free.XT.ii_ge_f (by decide : ((2 : Int32) < (3 : Int32))))) ?_
  show own_G p e below Φ T8 (mkF m 27 #[.val (.ref a1), .val (.ref ar), .val (.int (own_max (own_max (0 : Int32) (v0 + (1 : Int32))) (v1 + (1 : Int32)))), .val (.ref ar), .val (.int (3 : Int32)), .val (.int (2 : Int32)), .val (.int v1)] [])
  refine own_go (fun _ => XS.aloadN X8.here hx rfl (hb hby d2_27) rfl rfl) ?_
  show own_G p e below Φ T8 (mkF m 28 #[.val (.ref a1), .val (.ref ar), .val (.int (own_max (own_max (0 : Int32) (v0 + (1 : Int32))) (v1 + (1 : Int32)))), .val (.ref ar), .val (.int (3 : Int32)), .val (.int (2 : Int32)), .val (.int v1)] [(.ref ar)])
  refine own_go (fun _ => XS.iload X8.here hx rfl (hb hby d2_28) rfl) ?_
  show own_G p e below Φ T8 (mkF m 30 #[.val (.ref a1), .val (.ref ar), .val (.int (own_max (own_max (0 : Int32) (v0 + (1 : Int32))) (v1 + (1 : Int32)))), .val (.ref ar), .val (.int (3 : Int32)), .val (.int (2 : Int32)), .val (.int v1)] [(.int (2 : Int32)), (.ref ar)])
  obtain ⟨cl9, Ar9, q9, S9, M9, H9, G9⟩ := id f3
  have hin9 : ¬ ((2 : Int32) < 0 ∨ cl9.slots.size ≤ ((2 : Int32)).toNatClampNeg) := inb_of S9 ⟨by decide, by decide⟩
  refine own_go (fun _ => X8.iaload hx (j := (2 : Int32)) (v := (.int v2)) (by rw [hs8]; exact Ar9.1) (State.isArrayOf_alike hZ.alike Ar9.2.1) Ar9.2.2 hin9 (H9.at hin9 rfl) (g := (mkF m 30 #[.val (.ref a1), .val (.ref ar), .val (.int (own_max (own_max (0 : Int32) (v0 + (1 : Int32))) (v1 + (1 : Int32)))), .val (.ref ar), .val (.int (3 : Int32)), .val (.int (2 : Int32)), .val (.int v1)] [(.int (2 : Int32)), (.ref ar)])) rfl rfl (hb hby d2_30) _) ?_
  show own_G p e below Φ T8 (mkF m 31 #[.val (.ref a1), .val (.ref ar), .val (.int (own_max (own_max (0 : Int32) (v0 + (1 : Int32))) (v1 + (1 : Int32)))), .val (.ref ar), .val (.int (3 : Int32)), .val (.int (2 : Int32)), .val (.int v1)] [(.int v2)])
  refine own_go (fun _ => XS.istore X8.here hx rfl (hb hby d2_31) rfl (l' := #[.val (.ref a1), .val (.ref ar), .val (.int (own_max (own_max (0 : Int32) (v0 + (1 : Int32))) (v1 + (1 : Int32)))), .val (.ref ar), .val (.int (3 : Int32)), .val (.int (2 : Int32)), .val (.int v2)]) rfl) ?_
  show own_G p e below Φ T8 (mkF m 33 #[.val (.ref a1), .val (.ref ar), .val (.int (own_max (own_max (0 : Int32) (v0 + (1 : Int32))) (v1 + (1 : Int32)))), .val (.ref ar), .val (.int (3 : Int32)), .val (.int (2 : Int32)), .val (.int v2)] [])
  refine own_go (fun _ => XS.iloadN X8.here hx rfl (hb hby d2_33) rfl) ?_
  show own_G p e below Φ T8 (mkF m 34 #[.val (.ref a1), .val (.ref ar), .val (.int (own_max (own_max (0 : Int32) (v0 + (1 : Int32))) (v1 + (1 : Int32)))), .val (.ref ar), .val (.int (3 : Int32)), .val (.int (2 : Int32)), .val (.int v2)] [(.int (own_max (own_max (0 : Int32) (v0 + (1 : Int32))) (v1 + (1 : Int32))))])
  refine own_go (fun _ => XS.iload X8.here hx rfl (hb hby d2_34) rfl) ?_
  show own_G p e below Φ T8 (mkF m 36 #[.val (.ref a1), .val (.ref ar), .val (.int (own_max (own_max (0 : Int32) (v0 + (1 : Int32))) (v1 + (1 : Int32)))), .val (.ref ar), .val (.int (3 : Int32)), .val (.int (2 : Int32)), .val (.int v2)] [(.int v2), (.int (own_max (own_max (0 : Int32) (v0 + (1 : Int32))) (v1 + (1 : Int32))))])
  refine own_go (fun _ => XS.iconst X8.here hx rfl (hb hby d2_36)) ?_
  show own_G p e below Φ T8 (mkF m 37 #[.val (.ref a1), .val (.ref ar), .val (.int (own_max (own_max (0 : Int32) (v0 + (1 : Int32))) (v1 + (1 : Int32)))), .val (.ref ar), .val (.int (3 : Int32)), .val (.int (2 : Int32)), .val (.int v2)] [(.int (1 : Int32)), (.int v2), (.int (own_max (own_max (0 : Int32) (v0 + (1 : Int32))) (v1 + (1 : Int32))))])
  refine own_go (fun _ => XS.iadd X8.here hx rfl (hb hby d2_37) rfl) ?_
  show own_G p e below Φ T8 (mkF m 38 #[.val (.ref a1), .val (.ref ar), .val (.int (own_max (own_max (0 : Int32) (v0 + (1 : Int32))) (v1 + (1 : Int32)))), .val (.ref ar), .val (.int (3 : Int32)), .val (.int (2 : Int32)), .val (.int v2)] [(.int (v2 + (1 : Int32))), (.int (own_max (own_max (0 : Int32) (v0 + (1 : Int32))) (v1 + (1 : Int32))))])
  obtain ⟨_, _, ⟨T10, zL10, zk10, zn10⟩, -, X10, ⟨Lc10, hQ10, l10, y10, z10⟩, st10⟩ := Jvm.LawKit.callS X8 hx (y := (⟨"java/lang/Math", "max", "(II)I"⟩ : MethodName)) hown (mvT hZ (wd_28 hw)) (mvT hZ (wd_2 hw)) (mvT hZ (wd_3 hw)) (mvT hZ (wd_4 hw)) (by decide) (backOf (W := 0) (rmM l Z a0 hw [] (own_max (own_max (0 : Int32) (v0 + (1 : Int32))) (v1 + (1 : Int32))) (v2 + (1 : Int32)) h2 n0 Zp2 ) hZ (wd_4 hw) (wd_3 hw) (by decide) (by decide)) (g := (mkF m 38 #[.val (.ref a1), .val (.ref ar), .val (.int (own_max (own_max (0 : Int32) (v0 + (1 : Int32))) (v1 + (1 : Int32)))), .val (.ref ar), .val (.int (3 : Int32)), .val (.int (2 : Int32)), .val (.int v2)] [(.int (v2 + (1 : Int32))), (.int (own_max (own_max (0 : Int32) (v0 + (1 : Int32))) (v1 + (1 : Int32))))])) rfl (by rw [hml]; rfl) (argsL := [(.int (own_max (own_max (0 : Int32) (v0 + (1 : Int32))) (v1 + (1 : Int32)))), (.int (v2 + (1 : Int32)))]) (rest := []) (lenOf pd_0 rfl) rfl (by show 2 * 0 + _ ≤ _; exact Nat.le_of_eq rfl) (hb hby d2_38) (fun _ _ => ⟨rfl, hs8, (by decide : 0 + 0 ≤ _), (by decide : 0 + 0 ≤ _)⟩)
  dsimp only [Pt.U, Pt.locs, Pt.cells, Pt.slots] at X10 l10 y10 z10 st10 hQ10
  subst l10 y10 z10
  obtain ⟨rfl, N10q, hs10⟩ := hQ10
  have N10 := Fr.app N8 N10q
  refine own_go st10 ?_
  show own_G p e below Φ T10 (mkF m 41 #[.val (.ref a1), .val (.ref ar), .val (.int (own_max (own_max (0 : Int32) (v0 + (1 : Int32))) (v1 + (1 : Int32)))), .val (.ref ar), .val (.int (3 : Int32)), .val (.int (2 : Int32)), .val (.int v2)] [(.int (own_max (own_max (own_max (0 : Int32) (v0 + (1 : Int32))) (v1 + (1 : Int32))) (v2 + (1 : Int32))))])
  refine own_go (fun _ => XS.istoreN X10.here hx rfl (hb hby d2_41) rfl (l' := #[.val (.ref a1), .val (.ref ar), .val (.int (own_max (own_max (own_max (0 : Int32) (v0 + (1 : Int32))) (v1 + (1 : Int32))) (v2 + (1 : Int32)))), .val (.ref ar), .val (.int (3 : Int32)), .val (.int (2 : Int32)), .val (.int v2)]) rfl) ?_
  show own_G p e below Φ T10 (mkF m 42 #[.val (.ref a1), .val (.ref ar), .val (.int (own_max (own_max (own_max (0 : Int32) (v0 + (1 : Int32))) (v1 + (1 : Int32))) (v2 + (1 : Int32)))), .val (.ref ar), .val (.int (3 : Int32)), .val (.int (2 : Int32)), .val (.int v2)] [])
  refine own_go (fun _ => XS.iinc X10.here hx rfl (hb hby d2_42) rfl (l' := #[.val (.ref a1), .val (.ref ar), .val (.int (own_max (own_max (own_max (0 : Int32) (v0 + (1 : Int32))) (v1 + (1 : Int32))) (v2 + (1 : Int32)))), .val (.ref ar), .val (.int (3 : Int32)), .val (.int (3 : Int32)), .val (.int v2)]) rfl) ?_
  show own_G p e below Φ T10 (mkF m 45 #[.val (.ref a1), .val (.ref ar), .val (.int (own_max (own_max (own_max (0 : Int32) (v0 + (1 : Int32))) (v1 + (1 : Int32))) (v2 + (1 : Int32)))), .val (.ref ar), .val (.int (3 : Int32)), .val (.int (3 : Int32)), .val (.int v2)] [])
  refine own_go (fun _ => XS.goto X10.here hx rfl (pc0 := 45) (pc' := 20) rfl (hb hby d2_45) (by decide) (by decide)) ?_
  show own_G p e below Φ T10 (mkF m 20 #[.val (.ref a1), .val (.ref ar), .val (.int (own_max (own_max (own_max (0 : Int32) (v0 + (1 : Int32))) (v1 + (1 : Int32))) (v2 + (1 : Int32)))), .val (.ref ar), .val (.int (3 : Int32)), .val (.int (3 : Int32)), .val (.int v2)] [])
  refine own_go (fun _ => XS.iload X10.here hx rfl (hb hby d2_20) rfl) ?_
  show own_G p e below Φ T10 (mkF m 22 #[.val (.ref a1), .val (.ref ar), .val (.int (own_max (own_max (own_max (0 : Int32) (v0 + (1 : Int32))) (v1 + (1 : Int32))) (v2 + (1 : Int32)))), .val (.ref ar), .val (.int (3 : Int32)), .val (.int (3 : Int32)), .val (.int v2)] [(.int (3 : Int32))])
  refine own_go (fun _ => XS.iload X10.here hx rfl (hb hby d2_22) rfl) ?_
  show own_G p e below Φ T10 (mkF m 24 #[.val (.ref a1), .val (.ref ar), .val (.int (own_max (own_max (own_max (0 : Int32) (v0 + (1 : Int32))) (v1 + (1 : Int32))) (v2 + (1 : Int32)))), .val (.ref ar), .val (.int (3 : Int32)), .val (.int (3 : Int32)), .val (.int v2)] [(.int (3 : Int32)), (.int (3 : Int32))])
  refine own_go (fun _ => XS.icmpYes X10.here hx rfl (pc0 := 24) (pc' := 48) rfl (hb hby d2_24) rfl (Jvm.Free.XT.ii_ge_t (by decide : ¬ ((3 : Int32) < (3 : Int32)))) (by decide) (by decide)) ?_
  show own_G p e below Φ T10 (mkF m 48 #[.val (.ref a1), .val (.ref ar), .val (.int (own_max (own_max (own_max (0 : Int32) (v0 + (1 : Int32))) (v1 + (1 : Int32))) (v2 + (1 : Int32)))), .val (.ref ar), .val (.int (3 : Int32)), .val (.int (3 : Int32)), .val (.int v2)] [])
  refine own_go (fun _ => XS.aloadN X10.here hx rfl (hb hby d2_48) rfl rfl) ?_
  show own_G p e below Φ T10 (mkF m 49 #[.val (.ref a1), .val (.ref ar), .val (.int (own_max (own_max (own_max (0 : Int32) (v0 + (1 : Int32))) (v1 + (1 : Int32))) (v2 + (1 : Int32)))), .val (.ref ar), .val (.int (3 : Int32)), .val (.int (3 : Int32)), .val (.int v2)] [(.ref a1)])
  refine own_go (fun _ => XS.iloadN X10.here hx rfl (hb hby d2_49) rfl) ?_
  show own_G p e below Φ T10 (mkF m 50 #[.val (.ref a1), .val (.ref ar), .val (.int (own_max (own_max (own_max (0 : Int32) (v0 + (1 : Int32))) (v1 + (1 : Int32))) (v2 + (1 : Int32)))), .val (.ref ar), .val (.int (3 : Int32)), .val (.int (3 : Int32)), .val (.int v2)] [(.int (own_max (own_max (own_max (0 : Int32) (v0 + (1 : Int32))) (v1 + (1 : Int32))) (v2 + (1 : Int32)))), (.ref a1)])
  have f11 : Exa Z h2 a1 "com/example/edgewarden/edgewarden/graph/Likeness" := E_a1.wr W2
  have f12 : Fld Z h2 a1 "com/example/edgewarden/edgewarden/graph/Likeness" "m_nClassCount" "I" u1 := F_m_nClassCount_a1.other W2 (Or.inr (sl_0 hw))
  obtain ⟨T13, h13, X13, e13, W13, st13⟩ := putF X10 hx hZ hown (host := "") (Or.inl (wd_17 hw)) Via.refl hs10 f12 f11 (Or.inr ⟨(wd_18 hw), rfl, hnm⟩) (wd_7 hw) (ty := .int) (by decide) rfl rfl (g := (mkF m 50 #[.val (.ref a1), .val (.ref ar), .val (.int (own_max (own_max (own_max (0 : Int32) (v0 + (1 : Int32))) (v1 + (1 : Int32))) (v2 + (1 : Int32)))), .val (.ref ar), .val (.int (3 : Int32)), .val (.int (3 : Int32)), .val (.int v2)] [(.int (own_max (own_max (own_max (0 : Int32) (v0 + (1 : Int32))) (v1 + (1 : Int32))) (v2 + (1 : Int32)))), (.ref a1)])) rfl rfl (hb hby d2_50)
  refine own_go st13 ?_
  have N13 := Fr.snoc X13 N10 g_a1
  have K13 := K2.wr W13 (Or.inl (List.mem_of_getElem? (i := 0) rfl))
  have Zp13 : n0 ≤ h13.size := Nat.le_trans Zp2 (Keep.of_wr W13).1
  have f13w := f12.same W13
  show own_G p e below Φ T13 (mkF m 53 #[.val (.ref a1), .val (.ref ar), .val (.int (own_max (own_max (own_max (0 : Int32) (v0 + (1 : Int32))) (v1 + (1 : Int32))) (v2 + (1 : Int32)))), .val (.ref ar), .val (.int (3 : Int32)), .val (.int (3 : Int32)), .val (.int v2)] [])
  have f14 : Exa Z h13 a1 "com/example/edgewarden/edgewarden/graph/Likeness" := f11.wr W13
  have f15 : Fld Z h13 a1 "com/example/edgewarden/edgewarden/graph/Likeness" "m_aClasses" "[I" (.ref ar) := f2w.other W13 (Or.inr (sl_1 hw))
  rw [hΦ]
  refine own_ret X13 (v := none) (fun _ => rfl) (BodyLoose.notSynchronized Bd) (fun fs hr => X13.returnOut hx Bd.returns (hb hby d2_53) hr) ?_ (by decide) (by decide)
  rw [e13]
  exact ⟨rfl, N13, K13, f14, f15, f13w⟩
theorem ef_rmI4 (m : MethodId) (a1 : Addr) (ar : Addr) : entryFrame m #[(.ref a1), (.ref ar)] 7 = mkF m 0 #[.val (.ref a1), .val (.ref ar), .unset, .unset, .unset, .unset, .unset] [] := by first | (simp [entryFrame, mkF, argsToLocals, Value.category]; done) | rfl
def Q_rmI4 (Z : State) (a1 : Addr) (ar : Addr) (ka : ClassId) (v0 : Int32) (v1 : Int32) (v2 : Int32) (v3 : Int32) (u0 : Value) (u1 : Value) (h0 : Heap) (n0 : Nat) (v : Option Value) (h : Heap) (L : List Loc) : Prop := v = none ∧ Fr n0 L ∧ Keep h0 h [a1] ∧ Exa Z h a1 "com/example/edgewarden/edgewarden/graph/Likeness" ∧ Fld Z h a1 "com/example/edgewarden/edgewarden/graph/Likeness" "m_aClasses" "[I" (.ref ar) ∧ Fld Z h a1 "com/example/edgewarden/edgewarden/graph/Likeness" "m_nClassCount" "I" (.int (own_max (own_max (own_max (own_max (0 : Int32) (v0 + (1 : Int32))) (v1 + (1 : Int32))) (v2 + (1 : Int32))) (v3 + (1 : Int32))))
set_option maxRecDepth 65536 in
set_option maxHeartbeats 40000000 in
theorem rmI4 (l : Launch) (Z : State) (a0 : Array Value) (hw : ∀ d ∈ tables_1, d.before a0 Z = true) (ws : List Jvm.Cond) (a1 : Addr) (ar : Addr) (ka : ClassId) (v0 : Int32) (v1 : Int32) (v2 : Int32) (v3 : Int32) (u0 : Value) (u1 : Value) (h0 : Heap) (n0 : Nat) (Z0 : n0 ≤ h0.size) (E_a1 : Exa Z h0 a1 "com/example/edgewarden/edgewarden/graph/Likeness") (F_m_aClasses_a1 : Fld Z h0 a1 "com/example/edgewarden/edgewarden/graph/Likeness" "m_aClasses" "[I" u0) (F_m_nClassCount_a1 : Fld Z h0 a1 "com/example/edgewarden/edgewarden/graph/Likeness" "m_nClassCount" "I" u1) (g_a1 : n0 ≤ a1) (V_ar : Arv Z h0 ar ka .int (4 : Int32) [(.int v0), (.int v1), (.int v2), (.int v3)] (.int (0 : Int32))) (ne_ar_a1 : ar ≠ a1) :
    MetFree l (⟨"com/example/edgewarden/edgewarden/graph/Likeness", "<init>", "([I)V"⟩ : MethodName) (head1 (Jvm.Cond.code (⟨"com/example/edgewarden/edgewarden/graph/Likeness", "<init>", "([I)V"⟩ : MethodName) prog_57_method_3_code 7 none :: ws) ({ frames := 1, cells := 0, slots := 0, locals := 13 } : Room)) (fun a U => a = #[(.ref a1), (.ref ar)] ∧ Z.Warmed39 U.vm ∧ U.heap = h0) (fun _ _ _ _ _ => True) (fun _ U o U' => ∃ v L, o = .returned v ∧ Q_rmI4 Z a1 ar ka v0 v1 v2 v3 u0 u1 h0 n0 v U'.heap L ∧ FrameEnd U o U' L ({ frames := 1, cells := 0, slots := 0, locals := 13 } : Room).cells ({ frames := 1, cells := 0, slots := 0, locals := 13 } : Room).slots) := by
  refine MetFree.of_bodySF (plainFor_of_name pn_0) hisR ?_
  intro p e s m args below meth c s₁ Bd hml0 hP hK
  obtain ⟨rfl, hZ, hh⟩ := hP
  have hx := Bd.exec
  have hby := Bd.bytes
  have hml : c.maxLocals = 7 := hml0
  have hown : s.vm.findClass "com/example/edgewarden/edgewarden/graph/Likeness" = some m.cls := findClass_of_methodNamed Bd.named
  have hnm := (name_of_methodNamed Bd.named Bd.method).1
  have X0 : Stand p l e ({ frames := 1, cells := 0, slots := 0, locals := 13 } : Room) s m #[(.ref a1), (.ref ar)] below meth c s₁ [] 0 0 := Stand.of_body Bd
  have e0 : s₁.heap = h0 := by rw [← hh, Bd.state]; rfl
  have N0 := Fr.nil n0
  have K0 : Keep h0 h0 [a1] := Keep.refl _ _
  suffices G0 : own_G p e below (own_E s below (Q_rmI4 Z a1 ar ka v0 v1 v2 v3 u0 u1 h0 n0) ({ frames := 1, cells := 0, slots := 0, locals := 13 } : Room).cells ({ frames := 1, cells := 0, slots := 0, locals := 13 } : Room).slots) s₁ (mkF m 0 #[.val (.ref a1), .val (.ref ar), .unset, .unset, .unset, .unset, .unset] []) by
    obtain ⟨zt, zst, zo, zq1, zq2, zq3⟩ := G0
    exact ⟨zt, zo, castTop (ef_rmI4 m a1 ar) zst, zq1, zq2, zq3⟩
  obtain ⟨Φ, hΦ⟩ : ∃ Φ, Φ = own_E s below (Q_rmI4 Z a1 ar ka v0 v1 v2 v3 u0 u1 h0 n0) ({ frames := 1, cells := 0, slots := 0, locals := 13 } : Room).cells ({ frames := 1, cells := 0, slots := 0, locals := 13 } : Room).slots := ⟨_, rfl⟩
  rw [← hΦ]
  show own_G p e below Φ s₁ (mkF m 0 #[.val (.ref a1), .val (.ref ar), .unset, .unset, .unset, .unset, .unset] [])
  refine own_go (fun _ => XS.aloadN X0.here hx rfl (hb hby d2_0) rfl rfl) ?_
  show own_G p e below Φ s₁ (mkF m 1 #[.val (.ref a1), .val (.ref ar), .unset, .unset, .unset, .unset, .unset] [(.ref a1)])
  obtain ⟨T1, X1, e1, st1⟩ := initO X0 hx hZ hown (wd_12 hw) (wd_13 hw) (wd_14 hw) e0 (g := (mkF m 1 #[.val (.ref a1), .val (.ref ar), .unset, .unset, .unset, .unset, .unset] [(.ref a1)])) rfl (by rw [hml]; rfl) rfl (hb hby d2_1) (by decide) (W := 0) (by show 2 * 0 + _ ≤ _; exact Nat.le_of_eq rfl) (by decide)
  refine own_go st1 ?_
  show own_G p e below Φ T1 (mkF m 4 #[.val (.ref a1), .val (.ref ar), .unset, .unset, .unset, .unset, .unset] [])
  refine own_go (fun _ => XS.aloadN X1.here hx rfl (hb hby d2_4) rfl rfl) ?_
  show own_G p e below Φ T1 (mkF m 5 #[.val (.ref a1), .val (.ref ar), .unset, .unset, .unset, .unset, .unset] [(.ref a1)])
  refine own_go (fun _ => XS.aloadN X1.here hx rfl (hb hby d2_5) rfl rfl) ?_
  show own_G p e below Φ T1 (mkF m 6 #[.val (.ref a1), .val (.ref ar), .unset, .unset, .unset, .unset, .unset] [(.ref ar), (.ref a1)])
  obtain ⟨T2, h2, X2, e2, W2, st2⟩ := putF X1 hx hZ hown (host := "") (Or.inl (wd_15 hw)) Via.refl e1 F_m_aClasses_a1 E_a1 (Or.inr ⟨(wd_16 hw), rfl, hnm⟩) (wd_7 hw) (ty := (.array .int)) (by decide) rfl rfl (g := (mkF m 6 #[.val (.ref a1), .val (.ref ar), .unset, .unset, .unset, .unset, .unset] [(.ref ar), (.ref a1)])) rfl rfl (hb hby d2_6)
  refine own_go st2 ?_
  have N2 := Fr.snoc X2 N0 g_a1
  have K2 := K0.wr W2 (Or.inl (List.mem_of_getElem? (i := 0) rfl))
  have Zp2 : n0 ≤ h2.size := Nat.le_trans Z0 (Keep.of_wr W2).1
  have f2w := F_m_aClasses_a1.same W2
  show own_G p e below Φ T2 (mkF m 9 #[.val (.ref a1), .val (.ref ar), .unset, .unset, .unset, .unset, .unset] [])
  refine own_go (fun _ => XS.iconst X2.here hx rfl (hb hby d2_9)) ?_
  show own_G p e below Φ T2 (mkF m 10 #[.val (.ref a1), .val (.ref ar), .unset, .unset, .unset, .unset, .unset] [(.int (0 : Int32))])
  refine own_go (fun _ => XS.istoreN X2.here hx rfl (hb hby d2_10) rfl (l' := #[.val (.ref a1), .val (.ref ar), .val (.int (0 : Int32)), .unset, .unset, .unset, .unset]) rfl) ?_
  show own_G p e below Φ T2 (mkF m 11 #[.val (.ref a1), .val (.ref ar), .val (.int (0 : Int32)), .unset, .unset, .unset, .unset] [])
  refine own_go (fun _ => XS.aloadN X2.here hx rfl (hb hby d2_11) rfl rfl) ?_
  show own_G p e below Φ T2 (mkF m 12 #[.val (.ref a1), .val (.ref ar), .val (.int (0 : Int32)), .unset, .unset, .unset, .unset] [(.ref ar)])
  refine own_go (fun _ => XS.astoreN X2.here hx rfl (hb hby d2_12) rfl rfl (l' := #[.val (.ref a1), .val (.ref ar), .val (.int (0 : Int32)), .val (.ref ar), .unset, .unset, .unset]) rfl) ?_
  show own_G p e below Φ T2 (mkF m 13 #[.val (.ref a1), .val (.ref ar), .val (.int (0 : Int32)), .val (.ref ar), .unset, .unset, .unset] [])
  refine own_go (fun _ => XS.aloadN X2.here hx rfl (hb hby d2_13) rfl rfl) ?_
  show own_G p e below Φ T2 (mkF m 14 #[.val (.ref a1), .val (.ref ar), .val (.int (0 : Int32)), .val (.ref ar), .unset, .unset, .unset] [(.ref ar)])
  have f3 : Arv Z h2 ar ka .int (4 : Int32) [(.int v0), (.int v1), (.int v2), (.int v3)] (.int (0 : Int32)) := V_ar.other W2 ne_ar_a1
  obtain ⟨cl4, Ar4, q4, S4, M4, H4, G4⟩ := id f3
  refine own_go (fun _ => X2.arraylength hx (by rw [e2]; exact Ar4.1) (State.isArrayOf_alike hZ.alike Ar4.2.1) (g := (mkF m 14 #[.val (.ref a1), .val (.ref ar), .val (.int (0 : Int32)), .val (.ref ar), .unset, .unset, .unset] [(.ref ar)])) rfl rfl (hb hby d2_14) _) ?_
  rw [len_of S4 M4]
  show own_G p e below Φ T2 (mkF m 15 #[.val (.ref a1), .val (.ref ar), .val (.int (0 : Int32)), .val (.ref ar), .unset, .unset, .unset] [(.int (4 : Int32))])
  refine own_go (fun _ => XS.istore X2.here hx rfl (hb hby d2_15) rfl (l' := #[.val (.ref a1), .val (.ref ar), .val (.int (0 : Int32)), .val (.ref ar), .val (.int (4 : Int32)), .unset, .unset]) rfl) ?_
  show own_G p e below Φ T2 (mkF m 17 #[.val (.ref a1), .val (.ref ar), .val (.int (0 : Int32)), .val (.ref ar), .val (.int (4 : Int32)), .unset, .unset] [])
  refine own_go (fun _ => XS.iconst X2.here hx rfl (hb hby d2_17)) ?_
  show own_G p e below Φ T2 (mkF m 18 #[.val (.ref a1), .val (.ref ar), .val (.int (0 : Int32)), .val (.ref ar), .val (.int (4 : Int32)), .unset, .unset] [(.int (0 : Int32))])
  refine own_go (fun _ => XS.istore X2.here hx rfl (hb hby d2_18) rfl (l' := #[.val (.ref a1), .val (.ref ar), .val (.int (0 : Int32)), .val (.ref ar), .val (.int (4 : Int32)), .val (.int (0 : Int32)), .unset]) rfl) ?_
  show own_G p e below Φ T2 (mkF m 20 #[.val (.ref a1), .val (.ref ar), .val (.int (0 : Int32)), .val (.ref ar), .val (.int (4 : Int32)), .val (.int (0 : Int32)), .unset] [])
  refine own_go (fun _ => XS.iload X2.here hx rfl (hb hby d2_20) rfl) ?_
  show own_G p e below Φ T2 (mkF m 22 #[.val (.ref a1), .val (.ref ar), .val (.int (0 : Int32)), .val (.ref ar), .val (.int (4 : Int32)), .val (.int (0 : Int32)), .unset] [(.int (0 : Int32))])
  refine own_go (fun _ => XS.iload X2.here hx rfl (hb hby d2_22) rfl) ?_
  show own_G p e below Φ T2 (mkF m 24 #[.val (.ref a1), .val (.ref ar), .val (.int (0 : Int32)), .val (.ref ar), .val (.int (4 : Int32)), .val (.int (0 : Int32)), .unset] [(.int (4 : Int32)), (.int (0 : Int32))])
  refine own_go (fun _ => XS.icmpNo X2.here hx rfl (hb hby d2_24) rfl (Jvm.Free.XT.ii_ge_f (by decide : ((0 : Int32) < (4 : Int32))))) ?_
  show own_G p e below Φ T2 (mkF m 27 #[.val (.ref a1), .val (.ref ar), .val (.int (0 : Int32)), .val (.ref ar), .val (.int (4 : Int32)), .val (.int (0 : Int32)), .unset] [])
  refine own_go (fun _ => XS.aloadN X2.here hx rfl (hb hby d2_27) rfl rfl) ?_
  show own_G p e below Φ T2 (mkF m 28 #[.val (.ref a1), .val (.ref ar), .val (.int (0 : Int32)), .val (.ref ar), .val (.int (4 : Int32)), .val (.int (0 : Int32)), .unset] [(.ref ar)])
  refine own_go (fun _ => XS.iload X2.here hx rfl (hb hby d2_28) rfl) ?_
  show own_G p e below Φ T2 (mkF m 30 #[.val (.ref a1), .val (.ref ar), .val (.int (0 : Int32)), .val (.ref ar), .val (.int (4 : Int32)), .val (.int (0 : Int32)), .unset] [(.int (0 : Int32)), (.ref ar)])
  obtain ⟨cl5, Ar5, q5, S5, M5, H5, G5⟩ := id f3
  have hin5 : ¬ ((0 : Int32) < 0 ∨ cl5.slots.size ≤ ((0 : Int32)).toNatClampNeg) := inb_of S5 ⟨by decide, by decide⟩
  refine own_go (fun _ => X2.iaload hx (j := (0 : Int32)) (v := (.int v0)) (by rw [e2]; exact Ar5.1) (State.isArrayOf_alike hZ.alike Ar5.2.1) Ar5.2.2 hin5 (H5.at hin5 rfl) (g := (mkF m 30 #[.val (.ref a1), .val (.ref ar), .val (.int (0 : Int32)), .val (.ref ar), .val (.int (4 : Int32)), .val (.int (0 : Int32)), .unset] [(.int (0 : Int32)), (.ref ar)])) rfl rfl (hb hby d2_30) _) ?_
  show own_G p e below Φ T2 (mkF m 31 #[.val (.ref a1), .val (.ref ar), .val (.int (0 : Int32)), .val (.ref ar), .val (.int (4 : Int32)), .val (.int (0 : Int32)), .unset] [(.int v0)])
  refine own_go (fun _ => XS.istore X2.here hx rfl (hb hby d2_31) rfl (l' := #[.val (.ref a1), .val (.ref ar), .val (.int (0 : Int32)), .val (.ref ar), .val (.int (4 : Int32)), .val (.int (0 : Int32)), .val (.int v0)]) rfl) ?_
  show own_G p e below Φ T2 (mkF m 33 #[.val (.ref a1), .val (.ref ar), .val (.int (0 : Int32)), .val (.ref ar), .val (.int (4 : Int32)), .val (.int (0 : Int32)), .val (.int v0)] [])
  refine own_go (fun _ => XS.iloadN X2.here hx rfl (hb hby d2_33) rfl) ?_
  show own_G p e below Φ T2 (mkF m 34 #[.val (.ref a1), .val (.ref ar), .val (.int (0 : Int32)), .val (.ref ar), .val (.int (4 : Int32)), .val (.int (0 : Int32)), .val (.int v0)] [(.int (0 : Int32))])
  refine own_go (fun _ => XS.iload X2.here hx rfl (hb hby d2_34) rfl) ?_
  show own_G p e below Φ T2 (mkF m 36 #[.val (.ref a1), .val (.ref ar), .val (.int (0 : Int32)), .val (.ref ar), .val (.int (4 : Int32)), .val (.int (0 : Int32)), .val (.int v0)] [(.int v0), (.int (0 : Int32))])
  refine own_go (fun _ => XS.iconst X2.here hx rfl (hb hby d2_36)) ?_
  show own_G p e below Φ T2 (mkF m 37 #[.val (.ref a1), .val (.ref ar), .val (.int (0 : Int32)), .val (.ref ar), .val (.int (4 : Int32)), .val (.int (0 : Int32)), .val (.int v0)] [(.int (1 : Int32)), (.int v0), (.int (0 : Int32))])
  refine own_go (fun _ => XS.iadd X2.here hx rfl (hb hby d2_37) rfl) ?_
  show own_G p e below Φ T2 (mkF m 38 #[.val (.ref a1), .val (.ref ar), .val (.int (0 : Int32)), .val (.ref ar), .val (.int (4 : Int32)), .val (.int (0 : Int32)), .val (.int v0)] [(.int (v0 + (1 : Int32))), (.int (0 : Int32))])
  obtain ⟨_, _, ⟨T6, zL6, zk6, zn6⟩, -, X6, ⟨Lc6, hQ6, l6, y6, z6⟩, st6⟩ := Jvm.LawKit.callS X2 hx (y := (⟨"java/lang/Math", "max", "(II)I"⟩ : MethodName)) hown (mvT hZ (wd_28 hw)) (mvT hZ (wd_2 hw)) (mvT hZ (wd_3 hw)) (mvT hZ (wd_4 hw)) (by decide) (backOf (W := 0) (rmM l Z a0 hw [] (0 : Int32) (v0 + (1 : Int32)) h2 n0 Zp2 ) hZ (wd_4 hw) (wd_3 hw) (by decide) (by decide)) (g := (mkF m 38 #[.val (.ref a1), .val (.ref ar), .val (.int (0 : Int32)), .val (.ref ar), .val (.int (4 : Int32)), .val (.int (0 : Int32)), .val (.int v0)] [(.int (v0 + (1 : Int32))), (.int (0 : Int32))])) rfl (by rw [hml]; rfl) (argsL := [(.int (0 : Int32)), (.int (v0 + (1 : Int32)))]) (rest := []) (lenOf pd_0 rfl) rfl (by show 2 * 0 + _ ≤ _; exact Nat.le_of_eq rfl) (hb hby d2_38) (fun _ _ => ⟨rfl, e2, (by decide : 0 + 0 ≤ _), (by decide : 0 + 0 ≤ _)⟩)
  dsimp only [Pt.U, Pt.locs, Pt.cells, Pt.slots] at X6 l6 y6 z6 st6 hQ6
  subst l6 y6 z6
  obtain ⟨rfl, N6q, hs6⟩ := hQ6
  have N6 := Fr.app N2 N6q
  refine own_go st6 ?_
  show own_G p e below Φ T6 (mkF m 41 #[.val (.ref a1), .val (.ref ar), .val (.int (0 : Int32)), .val (.ref ar), .val (.int (4 : Int32)), .val (.int (0 : Int32)), .val (.int v0)] [(.int (own_max (0 : Int32) (v0 + (1 : Int32))))])
  refine own_go (fun _ => XS.istoreN X6.here hx rfl (hb hby d2_41) rfl (l' := #[.val (.ref a1), .val (.ref ar), .val (.int (own_max (0 : Int32) (v0 + (1 : Int32)))), .val (.ref ar), .val (.int (4 : Int32)), .val (.int (0 : Int32)), .val (.int v0)]) rfl) ?_
  show own_G p e below Φ T6 (mkF m 42 #[.val (.ref a1), .val (.ref ar), .val (.int (own_max (0 : Int32) (v0 + (1 : Int32)))), .val (.ref ar), .val (.int (4 : Int32)), .val (.int (0 : Int32)), .val (.int v0)] [])
  refine own_go (fun _ => XS.iinc X6.here hx rfl (hb hby d2_42) rfl (l' := #[.val (.ref a1), .val (.ref ar), .val (.int (own_max (0 : Int32) (v0 + (1 : Int32)))), .val (.ref ar), .val (.int (4 : Int32)), .val (.int (1 : Int32)), .val (.int v0)]) rfl) ?_
  show own_G p e below Φ T6 (mkF m 45 #[.val (.ref a1), .val (.ref ar), .val (.int (own_max (0 : Int32) (v0 + (1 : Int32)))), .val (.ref ar), .val (.int (4 : Int32)), .val (.int (1 : Int32)), .val (.int v0)] [])
  refine own_go (fun _ => XS.goto X6.here hx rfl (pc0 := 45) (pc' := 20) rfl (hb hby d2_45) (by decide) (by decide)) ?_
  show own_G p e below Φ T6 (mkF m 20 #[.val (.ref a1), .val (.ref ar), .val (.int (own_max (0 : Int32) (v0 + (1 : Int32)))), .val (.ref ar), .val (.int (4 : Int32)), .val (.int (1 : Int32)), .val (.int v0)] [])
  refine own_go (fun _ => XS.iload X6.here hx rfl (hb hby d2_20) rfl) ?_
  show own_G p e below Φ T6 (mkF m 22 #[.val (.ref a1), .val (.ref ar), .val (.int (own_max (0 : Int32) (v0 + (1 : Int32)))), .val (.ref ar), .val (.int (4 : Int32)), .val (.int (1 : Int32)), .val (.int v0)] [(.int (1 : Int32))])
  refine own_go (fun _ => XS.iload X6.here hx rfl (hb hby d2_22) rfl) ?_
  show own_G p e below Φ T6 (mkF m 24 #[.val (.ref a1), .val (.ref ar), .val (.int (own_max (0 : Int32) (v0 + (1 : Int32)))), .val (.ref ar), .val (.int (4 : Int32)), .val (.int (1 : Int32)), .val (.int v0)] [(.int (4 : Int32)), (.int (1 : Int32))])
  refine own_go (fun _ => XS.icmpNo X6.here hx rfl (hb hby d2_24) rfl (Jvm.Free.XT.ii_ge_f (by decide : ((1 : Int32) < (4 : Int32))))) ?_
  show own_G p e below Φ T6 (mkF m 27 #[.val (.ref a1), .val (.ref ar), .val (.int (own_max (0 : Int32) (v0 + (1 : Int32)))), .val (.ref ar), .val (.int (4 : Int32)), .val (.int (1 : Int32)), .val (.int v0)] [])
  refine own_go (fun _ => XS.aloadN X6.here hx rfl (hb hby d2_27) rfl rfl) ?_
  show own_G p e below Φ T6 (mkF m 28 #[.val (.ref a1), .val (.ref ar), .val (.int (own_max (0 : Int32) (v0 + (1 : Int32)))), .val (.ref ar), .val (.int (4 : Int32)), .val (.int (1 : Int32)), .val (.int v0)] [(.ref ar)])
  refine own_go (fun _ => XS.iload X6.here hx rfl (hb hby d2_28) rfl) ?_
  show own_G p e below Φ T6 (mkF m 30 #[.val (.ref a1), .val (.ref ar), .val (.int (own_max (0 : Int32) (v0 + (1 : Int32)))), .val (.ref ar), .val (.int (4 : Int32)), .val (.int (1 : Int32)), .val (.int v0)] [(.int (1 : Int32)), (.ref ar)])
  obtain ⟨cl7, Ar7, q7, S7, M7, H7, G7⟩ := id f3
  have hin7 : ¬ ((1 : Int32) < 0 ∨ cl7.slots.size ≤ ((1 : Int32)).toNatClampNeg) := inb_of S7 ⟨by decide, by decide⟩
  refine own_go (fun _ => X6.iaload hx (j := (1 : Int32)) (v := (.int v1)) (by rw [hs6]; exact Ar7.1) (State.isArrayOf_alike hZ.alike Ar7.2.1) Ar7.2.2 hin7 (H7.at hin7 rfl) (g := (mkF m 30 #[.val (.ref a1), .val (.ref ar), .val (.int (own_max (0 : Int32) (v0 + (1 : Int32)))), .val (.ref ar), .val (.int (4 : Int32)), .val (.int (1 : Int32)), .val (.int v0)] [(.int (1 : Int32)), (.ref ar)])) rfl rfl (hb hby d2_30) _) ?_
  show own_G p e below Φ T6 (mkF m 31 #[.val (.ref a1), .val (.ref ar), .val (.int (own_max (0 : Int32) (v0 + (1 : Int32)))), .val (.ref ar), .val (.int (4 : Int32)), .val (.int (1 : Int32)), .val (.int v0)] [(.int v1)])
  refine own_go (fun _ => XS.istore X6.here hx rfl (hb hby d2_31) rfl (l' := #[.val (.ref a1), .val (.ref ar), .val (.int (own_max (0 : Int32) (v0 + (1 : Int32)))), .val (.ref ar), .val (.int (4 : Int32)), .val (.int (1 : Int32)), .val (.int v1)]) rfl) ?_
  show own_G p e below Φ T6 (mkF m 33 #[.val (.ref a1), .val (.ref ar), .val (.int (own_max (0 : Int32) (v0 + (1 : Int32)))), .val (.ref ar), .val (.int (4 : Int32)), .val (.int (1 : Int32)), .val (.int v1)] [])
  refine own_go (fun _ => XS.iloadN X6.here hx rfl (hb hby d2_33) rfl) ?_
  show own_G p e below Φ T6 (mkF m 34 #[.val (.ref a1), .val (.ref ar), .val (.int (own_max (0 : Int32) (v0 + (1 : Int32)))), .val (.ref ar), .val (.int (4 : Int32)), .val (.int (1 : Int32)), .val (.int v1)] [(.int (own_max (0 : Int32) (v0 + (1 : Int32))))])
  refine own_go (fun _ => XS.iload X6.here hx rfl (hb hby d2_34) rfl) ?_
  show own_G p e below Φ T6 (mkF m 36 #[.val (.ref a1), .val (.ref ar), .val (.int (own_max (0 : Int32) (v0 + (1 : Int32)))), .val (.ref ar), .val (.int (4 : Int32)), .val (.int (1 : Int32)), .val (.int v1)] [(.int v1), (.int (own_max (0 : Int32) (v0 + (1 : Int32))))])
  refine own_go (fun _ => XS.iconst X6.here hx rfl (hb hby d2_36)) ?_
  show own_G p e below Φ T6 (mkF m 37 #[.val (.ref a1), .val (.ref ar), .val (.int (own_max (0 : Int32) (v0 + (1 : Int32)))), .val (.ref ar), .val (.int (4 : Int32)), .val (.int (1 : Int32)), .val (.int v1)] [(.int (1 : Int32)), (.int v1), (.int (own_max (0 : Int32) (v0 + (1 : Int32))))])
  refine own_go (fun _ => XS.iadd X6.here hx rfl (hb hby d2_37) rfl) ?_
  show own_G p e below Φ T6 (mkF m 38 #[.val (.ref a1), .val (.ref ar), .val (.int (own_max (0 : Int32) (v0 + (1 : Int32)))), .val (.ref ar), .val (.int (4 : Int32)), .val (.int (1 : Int32)), .val (.int v1)] [(.int (v1 + (1 : Int32))), (.int (own_max (0 : Int32) (v0 + (1 : Int32))))])
  obtain ⟨_, _, ⟨T8, zL8, zk8, zn8⟩, -, X8, ⟨Lc8, hQ8, l8, y8, z8⟩, st8⟩ := Jvm.LawKit.callS X6 hx (y := (⟨"java/lang/Math", "max", "(II)I"⟩ : MethodName)) hown (mvT hZ (wd_28 hw)) (mvT hZ (wd_2 hw)) (mvT hZ (wd_3 hw)) (mvT hZ (wd_4 hw)) (by decide) (backOf (W := 0) (rmM l Z a0 hw [] (own_max (0 : Int32) (v0 + (1 : Int32))) (v1 + (1 : Int32)) h2 n0 Zp2 ) hZ (wd_4 hw) (wd_3 hw) (by decide) (by decide)) (g := (mkF m 38 #[.val (.ref a1), .val (.ref ar), .val (.int (own_max (0 : Int32) (v0 + (1 : Int32)))), .val (.ref ar), .val (.int (4 : Int32)), .val (.int (1 : Int32)), .val (.int v1)] [(.int (v1 + (1 : Int32))), (.int (own_max (0 : Int32) (v0 + (1 : Int32))))])) rfl (by rw [hml]; rfl) (argsL := [(.int (own_max (0 : Int32) (v0 + (1 : Int32)))), (.int (v1 + (1 : Int32)))]) (rest := []) (lenOf pd_0 rfl) rfl (by show 2 * 0 + _ ≤ _; exact Nat.le_of_eq rfl) (hb hby d2_38) (fun _ _ => ⟨rfl, hs6, (by decide : 0 + 0 ≤ _), (by decide : 0 + 0 ≤ _)⟩)
  dsimp only [Pt.U, Pt.locs, Pt.cells, Pt.slots] at X8 l8 y8 z8 st8 hQ8
  subst l8 y8 z8
  obtain ⟨rfl, N8q, hs8⟩ := hQ8
  have N8 := Fr.app N6 N8q
  refine own_go st8 ?_
  show own_G p e below Φ T8 (mkF m 41 #[.val (.ref a1), .val (.ref ar), .val (.int (own_max (0 : Int32) (v0 + (1 : Int32)))), .val (.ref ar), .val (.int (4 : Int32)), .val (.int (1 : Int32)), .val (.int v1)] [(.int (own_max (own_max (0 : Int32) (v0 + (1 : Int32))) (v1 + (1 : Int32))))])
  refine own_go (fun _ => XS.istoreN X8.here hx rfl (hb hby d2_41) rfl (l' := #[.val (.ref a1), .val (.ref ar), .val (.int (own_max (own_max (0 : Int32) (v0 + (1 : Int32))) (v1 + (1 : Int32)))), .val (.ref ar), .val (.int (4 : Int32)), .val (.int (1 : Int32)), .val (.int v1)]) rfl) ?_
  show own_G p e below Φ T8 (mkF m 42 #[.val (.ref a1), .val (.ref ar), .val (.int (own_max (own_max (0 : Int32) (v0 + (1 : Int32))) (v1 + (1 : Int32)))), .val (.ref ar), .val (.int (4 : Int32)), .val (.int (1 : Int32)), .val (.int v1)] [])
  refine own_go (fun _ => XS.iinc X8.here hx rfl (hb hby d2_42) rfl (l' := #[.val (.ref a1), .val (.ref ar), .val (.int (own_max (own_max (0 : Int32) (v0 + (1 : Int32))) (v1 + (1 : Int32)))), .val (.ref ar), .val (.int (4 : Int32)), .val (.int (2 : Int32)), .val (.int v1)]) rfl) ?_
  show own_G p e below Φ T8 (mkF m 45 #[.val (.ref a1), .val (.ref ar), .val (.int (own_max (own_max (0 : Int32) (v0 + (1 : Int32))) (v1 + (1 : Int32)))), .val (.ref ar), .val (.int (4 : Int32)), .val (.int (2 : Int32)), .val (.int v1)] [])
  refine own_go (fun _ => XS.goto X8.here hx rfl (pc0 := 45) (pc' := 20) rfl (hb hby d2_45) (by decide) (by decide)) ?_
  show own_G p e below Φ T8 (mkF m 20 #[.val (.ref a1), .val (.ref ar), .val (.int (own_max (own_max (0 : Int32) (v0 + (1 : Int32))) (v1 + (1 : Int32)))), .val (.ref ar), .val (.int (4 : Int32)), .val (.int (2 : Int32)), .val (.int v1)] [])
  refine own_go (fun _ => XS.iload X8.here hx rfl (hb hby d2_20) rfl) ?_
  show own_G p e below Φ T8 (mkF m 22 #[.val (.ref a1), .val (.ref ar), .val (.int (own_max (own_max (0 : Int32) (v0 + (1 : Int32))) (v1 + (1 : Int32)))), .val (.ref ar), .val (.int (4 : Int32)), .val (.int (2 : Int32)), .val (.int v1)] [(.int (2 : Int32))])
  refine own_go (fun _ => XS.iload X8.here hx rfl (hb hby d2_22) rfl) ?_
  show own_G p e below Φ T8 (mkF m 24 #[.val (.ref a1), .val (.ref ar), .val (.int (own_max (own_max (0 : Int32) (v0 + (1 : Int32))) (v1 + (1 : Int32)))), .val (.ref ar), .val (.int (4 : Int32)), .val (.int (2 : Int32)), .val (.int v1)] [(.int (4 : Int32)), (.int (2 : Int32))])
  refine own_go (fun _ => XS.icmpNo X8.here hx rfl (hb hby d2_24) rfl (Jvm.Free.XT.ii_ge_f (by decide : ((2 : Int32) < (4 : Int32))))) ?_
  show own_G p e below Φ T8 (mkF m 27 #[.val (.ref a1), .val (.ref ar), .val (.int (own_max (own_max (0 : Int32) (v0 + (1 : Int32))) (v1 + (1 : Int32)))), .val (.ref ar), .val (.int (4 : Int32)), .val (.int (2 : Int32)), .val (.int v1)] [])
  refine own_go (fun _ => XS.aloadN X8.here hx rfl (hb hby d2_27) rfl rfl) ?_
  show own_G p e below Φ T8 (mkF m 28 #[.val (.ref a1), .val (.ref ar), .val (.int (own_max (own_max (0 : Int32) (v0 + (1 : Int32))) (v1 + (1 : Int32)))), .val (.ref ar), .val (.int (4 : Int32)), .val (.int (2 : Int32)), .val (.int v1)] [(.ref ar)])
  refine own_go (fun _ => XS.iload X8.here hx rfl (hb hby d2_28) rfl) ?_
  show own_G p e below Φ T8 (mkF m 30 #[.val (.ref a1), .val (.ref ar), .val (.int (own_max (own_max (0 : Int32) (v0 + (1 : Int32))) (v1 + (1 : Int32)))), .val (.ref ar), .val (.int (4 : Int32)), .val (.int (2 : Int32)), .val (.int v1)] [(.int (2 : Int32)), (.ref ar)])
  obtain ⟨cl9, Ar9, q9, S9, M9, H9, G9⟩ := id f3
  have hin9 : ¬ ((2 : Int32) < 0 ∨ cl9.slots.size ≤ ((2 : Int32)).toNatClampNeg) := inb_of S9 ⟨by decide, by decide⟩
  refine own_go (fun _ => X8.iaload hx (j := (2 : Int32)) (v := (.int v2)) (by rw [hs8]; exact Ar9.1) (State.isArrayOf_alike hZ.alike Ar9.2.1) Ar9.2.2 hin9 (H9.at hin9 rfl) (g := (mkF m 30 #[.val (.ref a1), .val (.ref ar), .val (.int (own_max (own_max (0 : Int32) (v0 + (1 : Int32))) (v1 + (1 : Int32)))), .val (.ref ar), .val (.int (4 : Int32)), .val (.int (2 : Int32)), .val (.int v1)] [(.int (2 : Int32)), (.ref ar)])) rfl rfl (hb hby d2_30) _) ?_
  show own_G p e below Φ T8 (mkF m 31 #[.val (.ref a1), .val (.ref ar), .val (.int (own_max (own_max (0 : Int32) (v0 + (1 : Int32))) (v1 + (1 : Int32)))), .val (.ref ar), .val (.int (4 : Int32)), .val (.int (2 : Int32)), .val (.int v1)] [(.int v2)])
  refine own_go (fun _ => XS.istore X8.here hx rfl (hb hby d2_31) rfl (l' := #[.val (.ref a1), .val (.ref ar), .val (.int (own_max (own_max (0 : Int32) (v0 + (1 : Int32))) (v1 + (1 : Int32)))), .val (.ref ar), .val (.int (4 : Int32)), .val (.int (2 : Int32)), .val (.int v2)]) rfl) ?_
  show own_G p e below Φ T8 (mkF m 33 #[.val (.ref a1), .val (.ref ar), .val (.int (own_max (own_max (0 : Int32) (v0 + (1 : Int32))) (v1 + (1 : Int32)))), .val (.ref ar), .val (.int (4 : Int32)), .val (.int (2 : Int32)), .val (.int v2)] [])
  refine own_go (fun _ => XS.iloadN X8.here hx rfl (hb hby d2_33) rfl) ?_
  show own_G p e below Φ T8 (mkF m 34 #[.val (.ref a1), .val (.ref ar), .val (.int (own_max (own_max (0 : Int32) (v0 + (1 : Int32))) (v1 + (1 : Int32)))), .val (.ref ar), .val (.int (4 : Int32)), .val (.int (2 : Int32)), .val (.int v2)] [(.int (own_max (own_max (0 : Int32) (v0 + (1 : Int32))) (v1 + (1 : Int32))))])
  refine own_go (fun _ => XS.iload X8.here hx rfl (hb hby d2_34) rfl) ?_
  show own_G p e below Φ T8 (mkF m 36 #[.val (.ref a1), .val (.ref ar), .val (.int (own_max (own_max (0 : Int32) (v0 + (1 : Int32))) (v1 + (1 : Int32)))), .val (.ref ar), .val (.int (4 : Int32)), .val (.int (2 : Int32)), .val (.int v2)] [(.int v2), (.int (own_max (own_max (0 : Int32) (v0 + (1 : Int32))) (v1 + (1 : Int32))))])
  refine own_go (fun _ => XS.iconst X8.here hx rfl (hb hby d2_36)) ?_
  show own_G p e below Φ T8 (mkF m 37 #[.val (.ref a1), .val (.ref ar), .val (.int (own_max (own_max (0 : Int32) (v0 + (1 : Int32))) (v1 + (1 : Int32)))), .val (.ref ar), .val (.int (4 : Int32)), .val (.int (2 : Int32)), .val (.int v2)] [(.int (1 : Int32)), (.int v2), (.int (own_max (own_max (0 : Int32) (v0 + (1 : Int32))) (v1 + (1 : Int32))))])
  refine own_go (fun _ => XS.iadd X8.here hx rfl (hb hby d2_37) rfl) ?_
  show own_G p e below Φ T8 (mkF m 38 #[.val (.ref a1), .val (.ref ar), .val (.int (own_max (own_max (0 : Int32) (v0 + (1 : Int32))) (v1 + (1 : Int32)))), .val (.ref ar), .val (.int (4 : Int32)), .val (.int (2 : Int32)), .val (.int v2)] [(.int (v2 + (1 : Int32))), (.int (own_max (own_max (0 : Int32) (v0 + (1 : Int32))) (v1 + (1 : Int32))))])
  obtain ⟨_, _, ⟨T10, zL10, zk10, zn10⟩, -, X10, ⟨Lc10, hQ10, l10, y10, z10⟩, st10⟩ := Jvm.LawKit.callS X8 hx (y := (⟨"java/lang/Math", "max", "(II)I"⟩ : MethodName)) hown (mvT hZ (wd_28 hw)) (mvT hZ (wd_2 hw)) (mvT hZ (wd_3 hw)) (mvT hZ (wd_4 hw)) (by decide) (backOf (W := 0) (rmM l Z a0 hw [] (own_max (own_max (0 : Int32) (v0 + (1 : Int32))) (v1 + (1 : Int32))) (v2 + (1 : Int32)) h2 n0 Zp2 ) hZ (wd_4 hw) (wd_3 hw) (by decide) (by decide)) (g := (mkF m 38 #[.val (.ref a1), .val (.ref ar), .val (.int (own_max (own_max (0 : Int32) (v0 + (1 : Int32))) (v1 + (1 : Int32)))), .val (.ref ar), .val (.int (4 : Int32)), .val (.int (2 : Int32)), .val (.int v2)] [(.int (v2 + (1 : Int32))), (.int (own_max (own_max (0 : Int32) (v0 + (1 : Int32))) (v1 + (1 : Int32))))])) rfl (by rw [hml]; rfl) (argsL := [(.int (own_max (own_max (0 : Int32) (v0 + (1 : Int32))) (v1 + (1 : Int32)))), (.int (v2 + (1 : Int32)))]) (rest := []) (lenOf pd_0 rfl) rfl (by show 2 * 0 + _ ≤ _; exact Nat.le_of_eq rfl) (hb hby d2_38) (fun _ _ => ⟨rfl, hs8, (by decide : 0 + 0 ≤ _), (by decide : 0 + 0 ≤ _)⟩)
  dsimp only [Pt.U, Pt.locs, Pt.cells, Pt.slots] at X10 l10 y10 z10 st10 hQ10
  subst l10 y10 z10
  obtain ⟨rfl, N10q, hs10⟩ := hQ10
  have N10 := Fr.app N8 N10q
  refine own_go st10 ?_
  show own_G p e below Φ T10 (mkF m 41 #[.val (.ref a1), .val (.ref ar), .val (.int (own_max (own_max (0 : Int32) (v0 + (1 : Int32))) (v1 + (1 : Int32)))), .val (.ref ar), .val (.int (4 : Int32)), .val (.int (2 : Int32)), .val (.int v2)] [(.int (own_max (own_max (own_max (0 : Int32) (v0 + (1 : Int32))) (v1 + (1 : Int32))) (v2 + (1 : Int32))))])
  refine own_go (fun _ => XS.istoreN X10.here hx rfl (hb hby d2_41) rfl (l' := #[.val (.ref a1), .val (.ref ar), .val (.int (own_max (own_max (own_max (0 : Int32) (v0 + (1 : Int32))) (v1 + (1 : Int32))) (v2 + (1 : Int32)))), .val (.ref ar), .val (.int (4 : Int32)), .val (.int (2 : Int32)), .val (.int v2)]) rfl) ?_
  show own_G p e below Φ T10 (mkF m 42 #[.val (.ref a1), .val (.ref ar), .val (.int (own_max (own_max (own_max (0 : Int32) (v0 + (1 : Int32))) (v1 + (1 : Int32))) (v2 + (1 : Int32)))), .val (.ref ar), .val (.int (4 : Int32)), .val (.int (2 : Int32)), .val (.int v2)] [])
  refine own_go (fun _ => XS.iinc X10.here hx rfl (hb hby d2_42) rfl (l' := #[.val (.ref a1), .val (.ref ar), .val (.int (own_max (own_max (own_max (0 : Int32) (v0 + (1 : Int32))) (v1 + (1 : Int32))) (v2 + (1 : Int32)))), .val (.ref ar), .val (.int (4 : Int32)), .val (.int (3 : Int32)), .val (.int v2)]) rfl) ?_
  show own_G p e below Φ T10 (mkF m 45 #[.val (.ref a1), .val (.ref ar), .val (.int (own_max (own_max (own_max (0 : Int32) (v0 + (1 : Int32))) (v1 + (1 : Int32))) (v2 + (1 : Int32)))), .val (.ref ar), .val (.int (4 : Int32)), .val (.int (3 : Int32)), .val (.int v2)] [])
  refine own_go (fun _ => XS.goto X10.here hx rfl (pc0 := 45) (pc' := 20) rfl (hb hby d2_45) (by decide) (by decide)) ?_
  show own_G p e below Φ T10 (mkF m 20 #[.val (.ref a1), .val (.ref ar), .val (.int (own_max (own_max (own_max (0 : Int32) (v0 + (1 : Int32))) (v1 + (1 : Int32))) (v2 + (1 : Int32)))), .val (.ref ar), .val (.int (4 : Int32)), .val (.int (3 : Int32)), .val (.int v2)] [])
  refine own_go (fun _ => XS.iload X10.here hx rfl (hb hby d2_20) rfl) ?_
  show own_G p e below Φ T10 (mkF m 22 #[.val (.ref a1), .val (.ref ar), .val (.int (own_max (own_max (own_max (0 : Int32) (v0 + (1 : Int32))) (v1 + (1 : Int32))) (v2 + (1 : Int32)))), .val (.ref ar), .val (.int (4 : Int32)), .val (.int (3 : Int32)), .val (.int v2)] [(.int (3 : Int32))])
  refine own_go (fun _ => XS.iload X10.here hx rfl (hb hby d2_22) rfl) ?_
  show own_G p e below Φ T10 (mkF m 24 #[.val (.ref a1), .val (.ref ar), .val (.int (own_max (own_max (own_max (0 : Int32) (v0 + (1 : Int32))) (v1 + (1 : Int32))) (v2 + (1 : Int32)))), .val (.ref ar), .val (.int (4 : Int32)), .val (.int (3 : Int32)), .val (.int v2)] [(.int (4 : Int32)), (.int (3 : Int32))])
  refine own_go (fun _ => XS.icmpNo X10.here hx rfl (hb hby d2_24) rfl (Jvm.Free.XT.ii_ge_f (by decide : ((3 : Int32) < (4 : Int32))))) ?_
  show own_G p e below Φ T10 (mkF m 27 #[.val (.ref a1), .val (.ref ar), .val (.int (own_max (own_max (own_max (0 : Int32) (v0 + (1 : Int32))) (v1 + (1 : Int32))) (v2 + (1 : Int32)))), .val (.ref ar), .val (.int (4 : Int32)), .val (.int (3 : Int32)), .val (.int v2)] [])
  refine own_go (fun _ => XS.aloadN X10.here hx rfl (hb hby d2_27) rfl rfl) ?_
  show own_G p e below Φ T10 (mkF m 28 #[.val (.ref a1), .val (.ref ar), .val (.int (own_max (own_max (own_max (0 : Int32) (v0 + (1 : Int32))) (v1 + (1 : Int32))) (v2 + (1 : Int32)))), .val (.ref ar), .val (.int (4 : Int32)), .val (.int (3 : Int32)), .val (.int v2)] [(.ref ar)])
  refine own_go (fun _ => XS.iload X10.here hx rfl (hb hby d2_28) rfl) ?_
  show own_G p e below Φ T10 (mkF m 30 #[.val (.ref a1), .val (.ref ar), .val (.int (own_max (own_max (own_max (0 : Int32) (v0 + (1 : Int32))) (v1 + (1 : Int32))) (v2 + (1 : Int32)))), .val (.ref ar), .val (.int (4 : Int32)), .val (.int (3 : Int32)), .val (.int v2)] [(.int (3 : Int32)), (.ref ar)])
  obtain ⟨cl11, Ar11, q11, S11, M11, H11, G11⟩ := id f3
  have hin11 : ¬ ((3 : Int32) < 0 ∨ cl11.slots.size ≤ ((3 : Int32)).toNatClampNeg) := inb_of S11 ⟨by decide, by decide⟩
  refine own_go (fun _ => X10.iaload hx (j := (3 : Int32)) (v := (.int v3)) (by rw [hs10]; exact Ar11.1) (State.isArrayOf_alike hZ.alike Ar11.2.1) Ar11.2.2 hin11 (H11.at hin11 rfl) (g := (mkF m 30 #[.val (.ref a1), .val (.ref ar), .val (.int (own_max (own_max (own_max (0 : Int32) (v0 + (1 : Int32))) (v1 + (1 : Int32))) (v2 + (1 : Int32)))), .val (.ref ar), .val (.int (4 : Int32)), .val (.int (3 : Int32)), .val (.int v2)] [(.int (3 : Int32)), (.ref ar)])) rfl rfl (hb hby d2_30) _) ?_
  show own_G p e below Φ T10 (mkF m 31 #[.val (.ref a1), .val (.ref ar), .val (.int (own_max (own_max (own_max (0 : Int32) (v0 + (1 : Int32))) (v1 + (1 : Int32))) (v2 + (1 : Int32)))), .val (.ref ar), .val (.int (4 : Int32)), .val (.int (3 : Int32)), .val (.int v2)] [(.int v3)])
  refine own_go (fun _ => XS.istore X10.here hx rfl (hb hby d2_31) rfl (l' := #[.val (.ref a1), .val (.ref ar), .val (.int (own_max (own_max (own_max (0 : Int32) (v0 + (1 : Int32))) (v1 + (1 : Int32))) (v2 + (1 : Int32)))), .val (.ref ar), .val (.int (4 : Int32)), .val (.int (3 : Int32)), .val (.int v3)]) rfl) ?_
  show own_G p e below Φ T10 (mkF m 33 #[.val (.ref a1), .val (.ref ar), .val (.int (own_max (own_max (own_max (0 : Int32) (v0 + (1 : Int32))) (v1 + (1 : Int32))) (v2 + (1 : Int32)))), .val (.ref ar), .val (.int (4 : Int32)), .val (.int (3 : Int32)), .val (.int v3)] [])
  refine own_go (fun _ => XS.iloadN X10.here hx rfl (hb hby d2_33) rfl) ?_
  show own_G p e below Φ T10 (mkF m 34 #[.val (.ref a1), .val (.ref ar), .val (.int (own_max (own_max (own_max (0 : Int32) (v0 + (1 : Int32))) (v1 + (1 : Int32))) (v2 + (1 : Int32)))), .val (.ref ar), .val (.int (4 : Int32)), .val (.int (3 : Int32)), .val (.int v3)] [(.int (own_max (own_max (own_max (0 : Int32) (v0 + (1 : Int32))) (v1 + (1 : Int32))) (v2 + (1 : Int32))))])
  refine own_go (fun _ => XS.iload X10.here hx rfl (hb hby d2_34) rfl) ?_
  show own_G p e below Φ T10 (mkF m 36 #[.val (.ref a1), .val (.ref ar), .val (.int (own_max (own_max (own_max (0 : Int32) (v0 + (1 : Int32))) (v1 + (1 : Int32))) (v2 + (1 : Int32)))), .val (.ref ar), .val (.int (4 : Int32)), .val (.int (3 : Int32)), .val (.int v3)] [(.int v3), (.int (own_max (own_max (own_max (0 : Int32) (v0 + (1 : Int32))) (v1 + (1 : Int32))) (v2 + (1 : Int32))))])
  refine own_go (fun _ => XS.iconst X10.here hx rfl (hb hby d2_36)) ?_
  show own_G p e below Φ T10 (mkF m 37 #[.val (.ref a1), .val (.ref ar), .val (.int (own_max (own_max (own_max (0 : Int32) (v0 + (1 : Int32))) (v1 + (1 : Int32))) (v2 + (1 : Int32)))), .val (.ref ar), .val (.int (4 : Int32)), .val (.int (3 : Int32)), .val (.int v3)] [(.int (1 : Int32)), (.int v3), (.int (own_max (own_max (own_max (0 : Int32) (v0 + (1 : Int32))) (v1 + (1 : Int32))) (v2 + (1 : Int32))))])
  refine own_go (fun _ => XS.iadd X10.here hx rfl (hb hby d2_37) rfl) ?_
  show own_G p e below Φ T10 (mkF m 38 #[.val (.ref a1), .val (.ref ar), .val (.int (own_max (own_max (own_max (0 : Int32) (v0 + (1 : Int32))) (v1 + (1 : Int32))) (v2 + (1 : Int32)))), .val (.ref ar), .val (.int (4 : Int32)), .val (.int (3 : Int32)), .val (.int v3)] [(.int (v3 + (1 : Int32))), (.int (own_max (own_max (own_max (0 : Int32) (v0 + (1 : Int32))) (v1 + (1 : Int32))) (v2 + (1 : Int32))))])
  obtain ⟨_, _, ⟨T12, zL12, zk12, zn12⟩, -, X12, ⟨Lc12, hQ12, l12, y12, z12⟩, st12⟩ := Jvm.LawKit.callS X10 hx (y := (⟨"java/lang/Math", "max", "(II)I"⟩ : MethodName)) hown (mvT hZ (wd_28 hw)) (mvT hZ (wd_2 hw)) (mvT hZ (wd_3 hw)) (mvT hZ (wd_4 hw)) (by decide) (backOf (W := 0) (rmM l Z a0 hw [] (own_max (own_max (own_max (0 : Int32) (v0 + (1 : Int32))) (v1 + (1 : Int32))) (v2 + (1 : Int32))) (v3 + (1 : Int32)) h2 n0 Zp2 ) hZ (wd_4 hw) (wd_3 hw) (by decide) (by decide)) (g := (mkF m 38 #[.val (.ref a1), .val (.ref ar), .val (.int (own_max (own_max (own_max (0 : Int32) (v0 + (1 : Int32))) (v1 + (1 : Int32))) (v2 + (1 : Int32)))), .val (.ref ar), .val (.int (4 : Int32)), .val (.int (3 : Int32)), .val (.int v3)] [(.int (v3 + (1 : Int32))), (.int (own_max (own_max (own_max (0 : Int32) (v0 + (1 : Int32))) (v1 + (1 : Int32))) (v2 + (1 : Int32))))])) rfl (by rw [hml]; rfl) (argsL := [(.int (own_max (own_max (own_max (0 : Int32) (v0 + (1 : Int32))) (v1 + (1 : Int32))) (v2 + (1 : Int32)))), (.int (v3 + (1 : Int32)))]) (rest := []) (lenOf pd_0 rfl) rfl (by show 2 * 0 + _ ≤ _; exact Nat.le_of_eq rfl) (hb hby d2_38) (fun _ _ => ⟨rfl, hs10, (by decide : 0 + 0 ≤ _), (by decide : 0 + 0 ≤ _)⟩)
  dsimp only [Pt.U, Pt.locs, Pt.cells, Pt.slots] at X12 l12 y12 z12 st12 hQ12
  subst l12 y12 z12
  obtain ⟨rfl, N12q, hs12⟩ := hQ12
  have N12 := Fr.app N10 N12q
  refine own_go st12 ?_
  show own_G p e below Φ T12 (mkF m 41 #[.val (.ref a1), .val (.ref ar), .val (.int (own_max (own_max (own_max (0 : Int32) (v0 + (1 : Int32))) (v1 + (1 : Int32))) (v2 + (1 : Int32)))), .val (.ref ar), .val (.int (4 : Int32)), .val (.int (3 : Int32)), .val (.int v3)] [(.int (own_max (own_max (own_max (own_max (0 : Int32) (v0 + (1 : Int32))) (v1 + (1 : Int32))) (v2 + (1 : Int32))) (v3 + (1 : Int32))))])
  refine own_go (fun _ => XS.istoreN X12.here hx rfl (hb hby d2_41) rfl (l' := #[.val (.ref a1), .val (.ref ar), .val (.int (own_max (own_max (own_max (own_max (0 : Int32) (v0 + (1 : Int32))) (v1 + (1 : Int32))) (v2 + (1 : Int32))) (v3 + (1 : Int32)))), .val (.ref ar), .val (.int (4 : Int32)), .val (.int (3 : Int32)), .val (.int v3)]) rfl) ?_
  show own_G p e below Φ T12 (mkF m 42 #[.val (.ref a1), .val (.ref ar), .val (.int (own_max (own_max (own_max (own_max (0 : Int32) (v0 + (1 : Int32))) (v1 + (1 : Int32))) (v2 + (1 : Int32))) (v3 + (1 : Int32)))), .val (.ref ar), .val (.int (4 : Int32)), .val (.int (3 : Int32)), .val (.int v3)] [])
  refine own_go (fun _ => XS.iinc X12.here hx rfl (hb hby d2_42) rfl (l' := #[.val (.ref a1), .val (.ref ar), .val (.int (own_max (own_max (own_max (own_max (0 : Int32) (v0 + (1 : Int32))) (v1 + (1 : Int32))) (v2 + (1 : Int32))) (v3 + (1 : Int32)))), .val (.ref ar), .val (.int (4 : Int32)), .val (.int (4 : Int32)), .val (.int v3)]) rfl) ?_
  show own_G p e below Φ T12 (mkF m 45 #[.val (.ref a1), .val (.ref ar), .val (.int (own_max (own_max (own_max (own_max (0 : Int32) (v0 + (1 : Int32))) (v1 + (1 : Int32))) (v2 + (1 : Int32))) (v3 + (1 : Int32)))), .val (.ref ar), .val (.int (4 : Int32)), .val (.int (4 : Int32)), .val (.int v3)] [])
  refine own_go (fun _ => XS.goto X12.here hx rfl (pc0 := 45) (pc' := 20) rfl (hb hby d2_45) (by decide) (by decide)) ?_
  show own_G p e below Φ T12 (mkF m 20 #[.val (.ref a1), .val (.ref ar), .val (.int (own_max (own_max (own_max (own_max (0 : Int32) (v0 + (1 : Int32))) (v1 + (1 : Int32))) (v2 + (1 : Int32))) (v3 + (1 : Int32)))), .val (.ref ar), .val (.int (4 : Int32)), .val (.int (4 : Int32)), .val (.int v3)] [])
  refine own_go (fun _ => XS.iload X12.here hx rfl (hb hby d2_20) rfl) ?_
  show own_G p e below Φ T12 (mkF m 22 #[.val (.ref a1), .val (.ref ar), .val (.int (own_max (own_max (own_max (own_max (0 : Int32) (v0 + (1 : Int32))) (v1 + (1 : Int32))) (v2 + (1 : Int32))) (v3 + (1 : Int32)))), .val (.ref ar), .val (.int (4 : Int32)), .val (.int (4 : Int32)), .val (.int v3)] [(.int (4 : Int32))])
  refine own_go (fun _ => XS.iload X12.here hx rfl (hb hby d2_22) rfl) ?_
  show own_G p e below Φ T12 (mkF m 24 #[.val (.ref a1), .val (.ref ar), .val (.int (own_max (own_max (own_max (own_max (0 : Int32) (v0 + (1 : Int32))) (v1 + (1 : Int32))) (v2 + (1 : Int32))) (v3 + (1 : Int32)))), .val (.ref ar), .val (.int (4 : Int32)), .val (.int (4 : Int32)), .val (.int v3)] [(.int (4 : Int32)), (.int (4 : Int32))])
  refine own_go (fun _ => XS.icmpYes X12.here hx rfl (pc0 := 24) (pc' := 48) rfl (hb hby d2_24) rfl (Jvm.Free.XT.ii_ge_t (by decide : ¬ ((4 : Int32) < (4 : Int32)))) (by decide) (by decide)) ?_
  show own_G p e below Φ T12 (mkF m 48 #[.val (.ref a1), .val (.ref ar), .val (.int (own_max (own_max (own_max (own_max (0 : Int32) (v0 + (1 : Int32))) (v1 + (1 : Int32))) (v2 + (1 : Int32))) (v3 + (1 : Int32)))), .val (.ref ar), .val (.int (4 : Int32)), .val (.int (4 : Int32)), .val (.int v3)] [])
  refine own_go (fun _ => XS.aloadN X12.here hx rfl (hb hby d2_48) rfl rfl) ?_
  show own_G p e below Φ T12 (mkF m 49 #[.val (.ref a1), .val (.ref ar), .val (.int (own_max (own_max (own_max (own_max (0 : Int32) (v0 + (1 : Int32))) (v1 + (1 : Int32))) (v2 + (1 : Int32))) (v3 + (1 : Int32)))), .val (.ref ar), .val (.int (4 : Int32)), .val (.int (4 : Int32)), .val (.int v3)] [(.ref a1)])
  refine own_go (fun _ => XS.iloadN X12.here hx rfl (hb hby d2_49) rfl) ?_
  show own_G p e below Φ T12 (mkF m 50 #[.val (.ref a1), .val (.ref ar), .val (.int (own_max (own_max (own_max (own_max (0 : Int32) (v0 + (1 : Int32))) (v1 + (1 : Int32))) (v2 + (1 : Int32))) (v3 + (1 : Int32)))), .val (.ref ar), .val (.int (4 : Int32)), .val (.int (4 : Int32)), .val (.int v3)] [(.int (own_max (own_max (own_max (own_max (0 : Int32) (v0 + (1 : Int32))) (v1 + (1 : Int32))) (v2 + (1 : Int32))) (v3 + (1 : Int32)))), (.ref a1)])
  have f13 : Exa Z h2 a1 "com/example/edgewarden/edgewarden/graph/Likeness" := E_a1.wr W2
  have f14 : Fld Z h2 a1 "com/example/edgewarden/edgewarden/graph/Likeness" "m_nClassCount" "I" u1 := F_m_nClassCount_a1.other W2 (Or.inr (sl_0 hw))
  obtain ⟨T15, h15, X15, e15, W15, st15⟩ := putF X12 hx hZ hown (host := "") (Or.inl (wd_17 hw)) Via.refl hs12 f14 f13 (Or.inr ⟨(wd_18 hw), rfl, hnm⟩) (wd_7 hw) (ty := .int) (by decide) rfl rfl (g := (mkF m 50 #[.val (.ref a1), .val (.ref ar), .val (.int (own_max (own_max (own_max (own_max (0 : Int32) (v0 + (1 : Int32))) (v1 + (1 : Int32))) (v2 + (1 : Int32))) (v3 + (1 : Int32)))), .val (.ref ar), .val (.int (4 : Int32)), .val (.int (4 : Int32)), .val (.int v3)] [(.int (own_max (own_max (own_max (own_max (0 : Int32) (v0 + (1 : Int32))) (v1 + (1 : Int32))) (v2 + (1 : Int32))) (v3 + (1 : Int32)))), (.ref a1)])) rfl rfl (hb hby d2_50)
  refine own_go st15 ?_
  have N15 := Fr.snoc X15 N12 g_a1
  have K15 := K2.wr W15 (Or.inl (List.mem_of_getElem? (i := 0) rfl))
  have Zp15 : n0 ≤ h15.size := Nat.le_trans Zp2 (Keep.of_wr W15).1
  have f15w := f14.same W15
  show own_G p e below Φ T15 (mkF m 53 #[.val (.ref a1), .val (.ref ar), .val (.int (own_max (own_max (own_max (own_max (0 : Int32) (v0 + (1 : Int32))) (v1 + (1 : Int32))) (v2 + (1 : Int32))) (v3 + (1 : Int32)))), .val (.ref ar), .val (.int (4 : Int32)), .val (.int (4 : Int32)), .val (.int v3)] [])
  have f16 : Exa Z h15 a1 "com/example/edgewarden/edgewarden/graph/Likeness" := f13.wr W15
  have f17 : Fld Z h15 a1 "com/example/edgewarden/edgewarden/graph/Likeness" "m_aClasses" "[I" (.ref ar) := f2w.other W15 (Or.inr (sl_1 hw))
  rw [hΦ]
  refine own_ret X15 (v := none) (fun _ => rfl) (BodyLoose.notSynchronized Bd) (fun fs hr => X15.returnOut hx Bd.returns (hb hby d2_53) hr) ?_ (by decide) (by decide)
  rw [e15]
  exact ⟨rfl, N15, K15, f16, f17, f15w⟩
theorem d4_0 : decode prog_57_method_6_code 0 = .ok (.aload_n 0, 1) := by decide +kernel
theorem d4_1 : decode prog_57_method_6_code 1 = .ok (.getfield 123, 3) := by decide +kernel
theorem d4_4 : decode prog_57_method_6_code 4 = .ok (.newarray .int, 2) := by decide +kernel
theorem wd_5 {Z : State} {a0 : Array Value} (hw : ∀ d ∈ tables_1, d.before a0 Z = true) : ((Jvm.Cond.arrayClass Jvm.ClassFile.FieldType.int) : Jvm.Cond).before a0 Z = true := hw _ (List.mem_of_getElem? (i := 5) rfl)
theorem d4_6 : decode prog_57_method_6_code 6 = .ok (.astore_n 1, 1) := by decide +kernel
theorem d4_7 : decode prog_57_method_6_code 7 = .ok (.aload_n 0, 1) := by decide +kernel
theorem d4_8 : decode prog_57_method_6_code 8 = .ok (.getfield 90, 3) := by decide +kernel
theorem d4_11 : decode prog_57_method_6_code 11 = .ok (.astore_n 2, 1) := by decide +kernel
theorem d4_12 : decode prog_57_method_6_code 12 = .ok (.aload_n 2, 1) := by decide +kernel
theorem d4_13 : decode prog_57_method_6_code 13 = .ok (.arraylength, 1) := by decide +kernel
theorem d4_14 : decode prog_57_method_6_code 14 = .ok (.istore_n 3, 1) := by decide +kernel
theorem d4_15 : decode prog_57_method_6_code 15 = .ok (.iconst 0, 1) := by decide +kernel
theorem d4_16 : decode prog_57_method_6_code 16 = .ok (.istore 4, 2) := by decide +kernel
theorem d4_18 : decode prog_57_method_6_code 18 = .ok (.iload 4, 2) := by decide +kernel
theorem d4_20 : decode prog_57_method_6_code 20 = .ok (.iload_n 3, 1) := by decide +kernel
theorem d4_21 : decode prog_57_method_6_code 21 = .ok (.if_icmp .ge 23, 3) := by decide +kernel
theorem d4_44 : decode prog_57_method_6_code 44 = .ok (.aload_n 1, 1) := by decide +kernel
theorem d4_45 : decode prog_57_method_6_code 45 = .ok (.areturn, 1) := by decide +kernel
theorem ef_rmS0 (m : MethodId) (a1 : Addr) : entryFrame m #[(.ref a1)] 6 = mkF m 0 #[.val (.ref a1), .unset, .unset, .unset, .unset, .unset] [] := by first | (simp [entryFrame, mkF, argsToLocals, Value.category]; done) | rfl
def Q_rmS0 (Z : State) (a1 : Addr) (ar : Addr) (ka : ClassId) (cnt : Int32) (h0 : Heap) (n0 : Nat) (v : Option Value) (h : Heap) (L : List Loc) : Prop := ∃ b : Addr, h0.size ≤ b ∧ ∃ kb : ClassId, v = some (.ref b) ∧ Fr n0 L ∧ Keep h0 h [] ∧ Arv Z h b kb .int cnt (own_vs (own_zeros cnt)) (.int (0 : Int32))
set_option maxRecDepth 65536 in
set_option maxHeartbeats 40000000 in
theorem rmS0 (l : Launch) (Z : State) (a0 : Array Value) (hw : ∀ d ∈ tables_1, d.before a0 Z = true) (ws : List Jvm.Cond) (a1 : Addr) (ar : Addr) (ka : ClassId) (cnt : Int32) (h0 : Heap) (n0 : Nat) (Z0 : n0 ≤ h0.size) (F_m_nClassCount_a1 : Fld Z h0 a1 "com/example/edgewarden/edgewarden/graph/Likeness" "m_nClassCount" "I" (.int cnt)) (F_m_aClasses_a1 : Fld Z h0 a1 "com/example/edgewarden/edgewarden/graph/Likeness" "m_aClasses" "[I" (.ref ar)) (V_ar : Arv Z h0 ar ka .int (0 : Int32) [] (.int (0 : Int32))) (hc0 : ¬ cnt < 0) (hc5 : cnt.toNatClampNeg ≤ 5) :
    MetFree l (⟨"com/example/edgewarden/edgewarden/graph/Likeness", "getClassSizes", "()[I"⟩ : MethodName) (head1 (Jvm.Cond.code (⟨"com/example/edgewarden/edgewarden/graph/Likeness", "getClassSizes", "()[I"⟩ : MethodName) prog_57_method_6_code 6 (some (.array .int)) :: ws) ({ frames := 0, cells := 1, slots := 5, locals := 0 } : Room)) (fun a U => a = #[(.ref a1)] ∧ Z.Warmed39 U.vm ∧ U.heap = h0) (fun _ _ _ _ _ => True) (fun _ U o U' => ∃ v L, o = .returned v ∧ Q_rmS0 Z a1 ar ka cnt h0 n0 v U'.heap L ∧ FrameEnd U o U' L ({ frames := 0, cells := 1, slots := 5, locals := 0 } : Room).cells ({ frames := 0, cells := 1, slots := 5, locals := 0 } : Room).slots) := by
  refine MetFree.of_bodySF (plainFor_of_name pn_0) hisR ?_
  intro p e s m args below meth c s₁ Bd hml0 hP hK
  obtain ⟨rfl, hZ, hh⟩ := hP
  have hx := Bd.exec
  have hby := Bd.bytes
  have hml : c.maxLocals = 6 := hml0
  have hown : s.vm.findClass "com/example/edgewarden/edgewarden/graph/Likeness" = some m.cls := findClass_of_methodNamed Bd.named
  have hnm := (name_of_methodNamed Bd.named Bd.method).1
  have X0 : Stand p l e ({ frames := 0, cells := 1, slots := 5, locals := 0 } : Room) s m #[(.ref a1)] below meth c s₁ [] 0 0 := Stand.of_body Bd
  have e0 : s₁.heap = h0 := by rw [← hh, Bd.state]; rfl
  have N0 := Fr.nil n0
  have K0 : Keep h0 h0 [] := Keep.refl _ _
  suffices G0 : own_G p e below (own_E s below (Q_rmS0 Z a1 ar ka cnt h0 n0) ({ frames := 0, cells := 1, slots := 5, locals := 0 } : Room).cells ({ frames := 0, cells := 1, slots := 5, locals := 0 } : Room).slots) s₁ (mkF m 0 #[.val (.ref a1), .unset, .unset, .unset, .unset, .unset] []) by
    obtain ⟨zt, zst, zo, zq1, zq2, zq3⟩ := G0
    exact ⟨zt, zo, castTop (ef_rmS0 m a1) zst, zq1, zq2, zq3⟩
  obtain ⟨Φ, hΦ⟩ : ∃ Φ, Φ = own_E s below (Q_rmS0 Z a1 ar ka cnt h0 n0) ({ frames := 0, cells := 1, slots := 5, locals := 0 } : Room).cells ({ frames := 0, cells := 1, slots := 5, locals := 0 } : Room).slots := ⟨_, rfl⟩
  rw [← hΦ]
  show own_G p e below Φ s₁ (mkF m 0 #[.val (.ref a1), .unset, .unset, .unset, .unset, .unset] [])
  refine own_go (fun _ => XS.aloadN X0.here hx rfl (hb hby d4_0) rfl rfl) ?_
  show own_G p e below Φ s₁ (mkF m 1 #[.val (.ref a1), .unset, .unset, .unset, .unset, .unset] [(.ref a1)])
  obtain ⟨T1, X1, e1, st1⟩ := getF X0 hx hZ hown (host := "") (Or.inl (wd_17 hw)) Via.refl e0 F_m_nClassCount_a1 (g := (mkF m 1 #[.val (.ref a1), .unset, .unset, .unset, .unset, .unset] [(.ref a1)])) rfl rfl (hb hby d4_1)
  refine own_go st1 ?_
  show own_G p e below Φ T1 (mkF m 4 #[.val (.ref a1), .unset, .unset, .unset, .unset, .unset] [(.int cnt)])
  obtain ⟨T2, h2, ka2, X2, e2, E2, A2, st2⟩ := newP (aty := .int) X1 hx hZ (wd_5 hw) e1 (g := (mkF m 4 #[.val (.ref a1), .unset, .unset, .unset, .unset, .unset] [(.int cnt)])) rfl (hb hby d4_4) rfl hc0 (cap := 5) hc5 (by decide) (by decide) (by decide)
  obtain ⟨ob2, g2⟩ : ∃ z, z = h0.size := ⟨_, rfl⟩
  rw [← g2] at A2 st2
  have ne_a1_ob2 : a1 ≠ ob2 := Nat.ne_of_lt (Nat.lt_of_lt_of_le F_m_nClassCount_a1.lt (Nat.le_of_eq g2.symm))
  have ne_ar_ob2 : ar ≠ ob2 := Nat.ne_of_lt (Nat.lt_of_lt_of_le V_ar.lt (Nat.le_of_eq g2.symm))
  have V2 : Arv Z h2 ob2 ka2 .int cnt (own_vs (own_zeros cnt)) (.int (0 : Int32)) := (Arv.new A2 hc0).pad (own_pad _)
  have g_ob2 : n0 ≤ ob2 := Nat.le_trans Z0 (Nat.le_of_eq g2.symm)
  have sz_ob2 : h0.size ≤ ob2 := Nat.le_trans K0.1 (Nat.le_of_eq g2.symm)
  have K2 := K0.ext E2
  have Zp2 : n0 ≤ h2.size := Nat.le_trans Z0 E2.1
  refine own_go st2 ?_
  show own_G p e below Φ T2 (mkF m 6 #[.val (.ref a1), .unset, .unset, .unset, .unset, .unset] [(.ref ob2)])
  refine own_go (fun _ => XS.astoreN X2.here hx rfl (hb hby d4_6) rfl rfl (l' := #[.val (.ref a1), .val (.ref ob2), .unset, .unset, .unset, .unset]) rfl) ?_
  show own_G p e below Φ T2 (mkF m 7 #[.val (.ref a1), .val (.ref ob2), .unset, .unset, .unset, .unset] [])
  refine own_go (fun _ => XS.aloadN X2.here hx rfl (hb hby d4_7) rfl rfl) ?_
  show own_G p e below Φ T2 (mkF m 8 #[.val (.ref a1), .val (.ref ob2), .unset, .unset, .unset, .unset] [(.ref a1)])
  have f3 : Fld Z h2 a1 "com/example/edgewarden/edgewarden/graph/Likeness" "m_aClasses" "[I" (.ref ar) := F_m_aClasses_a1.ext E2
  obtain ⟨T4, X4, e4, st4⟩ := getF X2 hx hZ hown (host := "") (Or.inl (wd_15 hw)) Via.refl e2 f3 (g := (mkF m 8 #[.val (.ref a1), .val (.ref ob2), .unset, .unset, .unset, .unset] [(.ref a1)])) rfl rfl (hb hby d4_8)
  refine own_go st4 ?_
  show own_G p e below Φ T4 (mkF m 11 #[.val (.ref a1), .val (.ref ob2), .unset, .unset, .unset, .unset] [(.ref ar)])
  refine own_go (fun _ => XS.astoreN X4.here hx rfl (hb hby d4_11) rfl rfl (l' := #[.val (.ref a1), .val (.ref ob2), .val (.ref ar), .unset, .unset, .unset]) rfl) ?_
  show own_G p e below Φ T4 (mkF m 12 #[.val (.ref a1), .val (.ref ob2), .val (.ref ar), .unset, .unset, .unset] [])
  refine own_go (fun _ => XS.aloadN X4.here hx rfl (hb hby d4_12) rfl rfl) ?_
  show own_G p e below Φ T4 (mkF m 13 #[.val (.ref a1), .val (.ref ob2), .val (.ref ar), .unset, .unset, .unset] [(.ref ar)])
  have f5 : Arv Z h2 ar ka .int (0 : Int32) [] (.int (0 : Int32)) := V_ar.ext E2
  obtain ⟨cl6, Ar6, q6, S6, M6, H6, G6⟩ := id f5
  refine own_go (fun _ => X4.arraylength hx (by rw [e4]; exact Ar6.1) (State.isArrayOf_alike hZ.alike Ar6.2.1) (g := (mkF m 13 #[.val (.ref a1), .val (.ref ob2), .val (.ref ar), .unset, .unset, .unset] [(.ref ar)])) rfl rfl (hb hby d4_13) _) ?_
  rw [len_of S6 M6]
  show own_G p e below Φ T4 (mkF m 14 #[.val (.ref a1), .val (.ref ob2), .val (.ref ar), .unset, .unset, .unset] [(.int (0 : Int32))])
  refine own_go (fun _ => XS.istoreN X4.here hx rfl (hb hby d4_14) rfl (l' := #[.val (.ref a1), .val (.ref ob2), .val (.ref ar), .val (.int (0 : Int32)), .unset, .unset]) rfl) ?_
  show own_G p e below Φ T4 (mkF m 15 #[.val (.ref a1), .val (.ref ob2), .val (.ref ar), .val (.int (0 : Int32)), .unset, .unset] [])
  refine own_go (fun _ => XS.iconst X4.here hx rfl (hb hby d4_15)) ?_
  show own_G p e below Φ T4 (mkF m 16 #[.val (.ref a1), .val (.ref ob2), .val (.ref ar), .val (.int (0 : Int32)), .unset, .unset] [(.int (0 : Int32))])
  refine own_go (fun _ => XS.istore X4.here hx rfl (hb hby d4_16) rfl (l' := #[.val (.ref a1), .val (.ref ob2), .val (.ref ar), .val (.int (0 : Int32)), .val (.int (0 : Int32)), .unset]) rfl) ?_
  show own_G p e below Φ T4 (mkF m 18 #[.val (.ref a1), .val (.ref ob2), .val (.ref ar), .val (.int (0 : Int32)), .val (.int (0 : Int32)), .unset] [])
  refine own_go (fun _ => XS.iload X4.here hx rfl (hb hby d4_18) rfl) ?_
  show own_G p e below Φ T4 (mkF m 20 #[.val (.ref a1), .val (.ref ob2), .val (.ref ar), .val (.int (0 : Int32)), .val (.int (0 : Int32)), .unset] [(.int (0 : Int32))])
  refine own_go (fun _ => XS.iloadN X4.here hx rfl (hb hby d4_20) rfl) ?_
  show own_G p e below Φ T4 (mkF m 21 #[.val (.ref a1), .val (.ref ob2), .val (.ref ar), .val (.int (0 : Int32)), .val (.int (0 : Int32)), .unset] [(.int (0 : Int32)), (.int (0 : Int32))])
  refine own_go (fun _ => XS.icmpYes X4.here hx rfl (pc0 := 21) (pc' := 44) rfl (hb hby d4_21) rfl (Jvm.Free.XT.ii_ge_t (by decide : ¬ ((0 : Int32) < (0 : Int32)))) (by decide) (by decide)) ?_
  show own_G p e below Φ T4 (mkF m 44 #[.val (.ref a1), .val (.ref ob2), .val (.ref ar), .val (.int (0 : Int32)), .val (.int (0 : Int32)), .unset] [])
  refine own_go (fun _ => XS.aloadN X4.here hx rfl (hb hby d4_44) rfl rfl) ?_
  show own_G p e below Φ T4 (mkF m 45 #[.val (.ref a1), .val (.ref ob2), .val (.ref ar), .val (.int (0 : Int32)), .val (.int (0 : Int32)), .unset] [(.ref ob2)])
  rw [hΦ]
  refine own_ret X4 (v := some (.ref ob2)) (fun h => by rw [Bd.returns] at h; cases h) (BodyLoose.notSynchronized Bd) (fun fs hr => retOut X4 hx Bd.returns rfl (Or.inr (Or.inr (Or.inr (Or.inr ⟨rfl, rfl, rfl⟩)))) (hb hby d4_45) hr) ?_ (by decide) (by decide)
  rw [e4]
  exact ⟨ob2, sz_ob2, ka2, rfl, N0, K2, V2⟩
theorem d4_24 : decode prog_57_method_6_code 24 = .ok (.aload_n 2, 1) := by decide +kernel
theorem d4_25 : decode prog_57_method_6_code 25 = .ok (.iload 4, 2) := by decide +kernel
theorem d4_27 : decode prog_57_method_6_code 27 = .ok (.iaload, 1) := by decide +kernel
theorem d4_28 : decode prog_57_method_6_code 28 = .ok (.istore 5, 2) := by decide +kernel
theorem d4_30 : decode prog_57_method_6_code 30 = .ok (.aload_n 1, 1) := by decide +kernel
theorem d4_31 : decode prog_57_method_6_code 31 = .ok (.iload 5, 2) := by decide +kernel
theorem d4_33 : decode prog_57_method_6_code 33 = .ok (.dup2, 1) := by decide +kernel
theorem d4_34 : decode prog_57_method_6_code 34 = .ok (.iaload, 1) := by decide +kernel
theorem d4_35 : decode prog_57_method_6_code 35 = .ok (.iconst 1, 1) := by decide +kernel
theorem d4_36 : decode prog_57_method_6_code 36 = .ok (.iadd, 1) := by decide +kernel
theorem d4_37 : decode prog_57_method_6_code 37 = .ok (.iastore, 1) := by decide +kernel
theorem d4_38 : decode prog_57_method_6_code 38 = .ok (.iinc 4 1, 3) := by decide +kernel
theorem d4_41 : decode prog_57_method_6_code 41 = .ok (.goto (-23), 3) := by decide +kernel
theorem ef_rmS1 (m : MethodId) (a1 : Addr) : entryFrame m #[(.ref a1)] 6 = mkF m 0 #[.val (.ref a1), .unset, .unset, .unset, .unset, .unset] [] := by first | (simp [entryFrame, mkF, argsToLocals, Value.category]; done) | rfl
def Q_rmS1 (Z : State) (a1 : Addr) (ar : Addr) (ka : ClassId) (cnt : Int32) (v0 : Int32) (h0 : Heap) (n0 : Nat) (v : Option Value) (h : Heap) (L : List Loc) : Prop := ∃ b : Addr, h0.size ≤ b ∧ ∃ kb : ClassId, v = some (.ref b) ∧ Fr n0 L ∧ Keep h0 h [] ∧ Arv Z h b kb .int cnt (own_vs (own_inc (own_zeros cnt) v0)) (.int (0 : Int32))
set_option maxRecDepth 65536 in
set_option maxHeartbeats 40000000 in
theorem rmS1 (l : Launch) (Z : State) (a0 : Array Value) (hw : ∀ d ∈ tables_1, d.before a0 Z = true) (ws : List Jvm.Cond) (a1 : Addr) (ar : Addr) (ka : ClassId) (cnt : Int32) (v0 : Int32) (h0 : Heap) (n0 : Nat) (Z0 : n0 ≤ h0.size) (F_m_nClassCount_a1 : Fld Z h0 a1 "com/example/edgewarden/edgewarden/graph/Likeness" "m_nClassCount" "I" (.int cnt)) (F_m_aClasses_a1 : Fld Z h0 a1 "com/example/edgewarden/edgewarden/graph/Likeness" "m_aClasses" "[I" (.ref ar)) (V_ar : Arv Z h0 ar ka .int (1 : Int32) [(.int v0)] (.int (0 : Int32))) (hc0 : ¬ cnt < 0) (hc5 : cnt.toNatClampNeg ≤ 5) (hv0 : ¬ v0 < 0 ∧ v0 < cnt) :
    MetFree l (⟨"com/example/edgewarden/edgewarden/graph/Likeness", "getClassSizes", "()[I"⟩ : MethodName) (head1 (Jvm.Cond.code (⟨"com/example/edgewarden/edgewarden/graph/Likeness", "getClassSizes", "()[I"⟩ : MethodName) prog_57_method_6_code 6 (some (.array .int)) :: ws) ({ frames := 0, cells := 1, slots := 5, locals := 0 } : Room)) (fun a U => a = #[(.ref a1)] ∧ Z.Warmed39 U.vm ∧ U.heap = h0) (fun _ _ _ _ _ => True) (fun _ U o U' => ∃ v L, o = .returned v ∧ Q_rmS1 Z a1 ar ka cnt v0 h0 n0 v U'.heap L ∧ FrameEnd U o U' L ({ frames := 0, cells := 1, slots := 5, locals := 0 } : Room).cells ({ frames := 0, cells := 1, slots := 5, locals := 0 } : Room).slots) := by
  refine MetFree.of_bodySF (plainFor_of_name pn_0) hisR ?_
  intro p e s m args below meth c s₁ Bd hml0 hP hK
  obtain ⟨rfl, hZ, hh⟩ := hP
  have hx := Bd.exec
  have hby := Bd.bytes
  have hml : c.maxLocals = 6 := hml0
  have hown : s.vm.findClass "com/example/edgewarden/edgewarden/graph/Likeness" = some m.cls := findClass_of_methodNamed Bd.named
  have hnm := (name_of_methodNamed Bd.named Bd.method).1
  have X0 : Stand p l e ({ frames := 0, cells := 1, slots := 5, locals := 0 } : Room) s m #[(.ref a1)] below meth c s₁ [] 0 0 := Stand.of_body Bd
  have e0 : s₁.heap = h0 := by rw [← hh, Bd.state]; rfl
  have N0 := Fr.nil n0
  have K0 : Keep h0 h0 [] := Keep.refl _ _
  suffices G0 : own_G p e below (own_E s below (Q_rmS1 Z a1 ar ka cnt v0 h0 n0) ({ frames := 0, cells := 1, slots := 5, locals := 0 } : Room).cells ({ frames := 0, cells := 1, slots := 5, locals := 0 } : Room).slots) s₁ (mkF m 0 #[.val (.ref a1), .unset, .unset, .unset, .unset, .unset] []) by
    obtain ⟨zt, zst, zo, zq1, zq2, zq3⟩ := G0
    exact ⟨zt, zo, castTop (ef_rmS1 m a1) zst, zq1, zq2, zq3⟩
  obtain ⟨Φ, hΦ⟩ : ∃ Φ, Φ = own_E s below (Q_rmS1 Z a1 ar ka cnt v0 h0 n0) ({ frames := 0, cells := 1, slots := 5, locals := 0 } : Room).cells ({ frames := 0, cells := 1, slots := 5, locals := 0 } : Room).slots := ⟨_, rfl⟩
  rw [← hΦ]
  show own_G p e below Φ s₁ (mkF m 0 #[.val (.ref a1), .unset, .unset, .unset, .unset, .unset] [])
  refine own_go (fun _ => XS.aloadN X0.here hx rfl (hb hby d4_0) rfl rfl) ?_
  show own_G p e below Φ s₁ (mkF m 1 #[.val (.ref a1), .unset, .unset, .unset, .unset, .unset] [(.ref a1)])
  obtain ⟨T1, X1, e1, st1⟩ := getF X0 hx hZ hown (host := "") (Or.inl (wd_17 hw)) Via.refl e0 F_m_nClassCount_a1 (g := (mkF m 1 #[.val (.ref a1), .unset, .unset, .unset, .unset, .unset] [(.ref a1)])) rfl rfl (hb hby d4_1)
  refine own_go st1 ?_
  show own_G p e below Φ T1 (mkF m 4 #[.val (.ref a1), .unset, .unset, .unset, .unset, .unset] [(.int cnt)])
  obtain ⟨T2, h2, ka2, X2, e2, E2, A2, st2⟩ := newP (aty := .int) X1 hx hZ (wd_5 hw) e1 (g := (mkF m 4 #[.val (.ref a1), .unset, .unset, .unset, .unset, .unset] [(.int cnt)])) rfl (hb hby d4_4) rfl hc0 (cap := 5) hc5 (by decide) (by decide) (by decide)
  obtain ⟨ob2, g2⟩ : ∃ z, z = h0.size := ⟨_, rfl⟩
  rw [← g2] at A2 st2
  have ne_a1_ob2 : a1 ≠ ob2 := Nat.ne_of_lt (Nat.lt_of_lt_of_le F_m_nClassCount_a1.lt (Nat.le_of_eq g2.symm))
  have ne_ar_ob2 : ar ≠ ob2 := Nat.ne_of_lt (Nat.lt_of_lt_of_le V_ar.lt (Nat.le_of_eq g2.symm))
  have V2 : Arv Z h2 ob2 ka2 .int cnt (own_vs (own_zeros cnt)) (.int (0 : Int32)) := (Arv.new A2 hc0).pad (own_pad _)
  have g_ob2 : n0 ≤ ob2 := Nat.le_trans Z0 (Nat.le_of_eq g2.symm)
  have sz_ob2 : h0.size ≤ ob2 := Nat.le_trans K0.1 (Nat.le_of_eq g2.symm)
  have K2 := K0.ext E2
  have Zp2 : n0 ≤ h2.size := Nat.le_trans Z0 E2.1
  refine own_go st2 ?_
  show own_G p e below Φ T2 (mkF m 6 #[.val (.ref a1), .unset, .unset, .unset, .unset, .unset] [(.ref ob2)])
  refine own_go (fun _ => XS.astoreN X2.here hx rfl (hb hby d4_6) rfl rfl (l' := #[.val (.ref a1), .val (.ref ob2), .unset, .unset, .unset, .unset]) rfl) ?_
  show own_G p e below Φ T2 (mkF m 7 #[.val (.ref a1), .val (.ref ob2), .unset, .unset, .unset, .unset] [])
  refine own_go (fun _ => XS.aloadN X2.here hx rfl (hb hby d4_7) rfl rfl) ?_
  show own_G p e below Φ T2 (mkF m 8 #[.val (.ref a1), .val (.ref ob2), .unset, .unset, .unset, .unset] [(.ref a1)])
  have f3 : Fld Z h2 a1 "com/example/edgewarden/edgewarden/graph/Likeness" "m_aClasses" "[I" (.ref ar) := F_m_aClasses_a1.ext E2
  obtain ⟨T4, X4, e4, st4⟩ := getF X2 hx hZ hown (host := "") (Or.inl (wd_15 hw)) Via.refl e2 f3 (g := (mkF m 8 #[.val (.ref a1), .val (.ref ob2), .unset, .unset, .unset, .unset] [(.ref a1)])) rfl rfl (hb hby d4_8)
  refine own_go st4 ?_
  show own_G p e below Φ T4 (mkF m 11 #[.val (.ref a1), .val (.ref ob2), .unset, .unset, .unset, .unset] [(.ref ar)])
  refine own_go (fun _ => XS.astoreN X4.here hx rfl (hb hby d4_11) rfl rfl (l' := #[.val (.ref a1), .val (.ref ob2), .val (.ref ar), .unset, .unset, .unset]) rfl) ?_
  show own_G p e below Φ T4 (mkF m 12 #[.val (.ref a1), .val (.ref ob2), .val (.ref ar), .unset, .unset, .unset] [])
  refine own_go (fun _ => XS.aloadN X4.here hx rfl (hb hby d4_12) rfl rfl) ?_
  show own_G p e below Φ T4 (mkF m 13 #[.val (.ref a1), .val (.ref ob2), .val (.ref ar), .unset, .unset, .unset] [(.ref ar)])
  have f5 : Arv Z h2 ar ka .int (1 : Int32) [(.int v0)] (.int (0 : Int32)) := V_ar.ext E2
  obtain ⟨cl6, Ar6, q6, S6, M6, H6, G6⟩ := id f5
  refine own_go (fun _ => X4.arraylength hx (by rw [e4]; exact Ar6.1) (State.isArrayOf_alike hZ.alike Ar6.2.1) (g := (mkF m 13 #[.val (.ref a1), .val (.ref ob2), .val (.ref ar), .unset, .unset, .unset] [(.ref ar)])) rfl rfl (hb hby d4_13) _) ?_
  rw [len_of S6 M6]
  show own_G p e below Φ T4 (mkF m 14 #[.val (.ref a1), .val (.ref ob2), .val (.ref ar), .unset, .unset, .unset] [(.int (1 : Int32))])
  refine own_go (fun _ => XS.istoreN X4.here hx rfl (hb hby d4_14) rfl (l' := #[.val (.ref a1), .val (.ref ob2), .val (.ref ar), .val (.int (1 : Int32)), .unset, .unset]) rfl) ?_
  show own_G p e below Φ T4 (mkF m 15 #[.val (.ref a1), .val (.ref ob2), .val (.ref ar), .val (.int (1 : Int32)), .unset, .unset] [])
  refine own_go (fun _ => XS.iconst X4.here hx rfl (hb hby d4_15)) ?_
  show own_G p e below Φ T4 (mkF m 16 #[.val (.ref a1), .val (.ref ob2), .val (.ref ar), .val (.int (1 : Int32)), .unset, .unset] [(.int (0 : Int32))])
  refine own_go (fun _ => XS.istore X4.here hx rfl (hb hby d4_16) rfl (l' := #[.val (.ref a1), .val (.ref ob2), .val (.ref ar), .val (.int (1 : Int32)), .val (.int (0 : Int32)), .unset]) rfl) ?_
  show own_G p e below Φ T4 (mkF m 18 #[.val (.ref a1), .val (.ref ob2), .val (.ref ar), .val (.int (1 : Int32)), .val (.int (0 : Int32)), .unset] [])
  refine own_go (fun _ => XS.iload X4.here hx rfl (hb hby d4_18) rfl) ?_
  show own_G p e below Φ T4 (mkF m 20 #[.val (.ref a1), .val (.ref ob2), .val (.ref ar), .val (.int (1 : Int32)), .val (.int (0 : Int32)), .unset] [(.int (0 : Int32))])
  refine own_go (fun _ => XS.iloadN X4.here hx rfl (hb hby d4_20) rfl) ?_
  show own_G p e below Φ T4 (mkF m 21 #[.val (.ref a1), .val (.ref ob2), .val (.ref ar), .val (.int (1 : Int32)), .val (.int (0 : Int32)), .unset] [(.int (1 : Int32)), (.int (0 : Int32))])
  refine own_go (fun _ => XS.icmpNo X4.here hx rfl (hb hby d4_21) rfl (Jvm.Free.XT.ii_ge_f (by decide : ((0 : Int32) < (1 : Int32))))) ?_
  show own_G p e below Φ T4 (mkF m 24 #[.val (.ref a1), .val (.ref ob2), .val (.ref ar), .val (.int (1 : Int32)), .val (.int (0 : Int32)), .unset] [])
  refine own_go (fun _ => XS.aloadN X4.here hx rfl (hb hby d4_24) rfl rfl) ?_
  show own_G p e below Φ T4 (mkF m 25 #[.val (.ref a1), .val (.ref ob2), .val (.ref ar), .val (.int (1 : Int32)), .val (.int (0 : Int32)), .unset] [(.ref ar)])
  refine own_go (fun _ => XS.iload X4.here hx rfl (hb hby d4_25) rfl) ?_
  show own_G p e below Φ T4 (mkF m 27 #[.val (.ref a1), .val (.ref ob2), .val (.ref ar), .val (.int (1 : Int32)), .val (.int (0 : Int32)), .unset] [(.int (0 : Int32)), (.ref ar)])
  obtain ⟨cl7, Ar7, q7, S7, M7, H7, G7⟩ := id f5
  have hin7 : ¬ ((0 : Int32) < 0 ∨ cl7.slots.size ≤ ((0 : Int32)).toNatClampNeg) := inb_of S7 ⟨by decide, by decide⟩
  refine own_go (fun _ => X4.iaload hx (j := (0 : Int32)) (v := (.int v0)) (by rw [e4]; exact Ar7.1) (State.isArrayOf_alike hZ.alike Ar7.2.1) Ar7.2.2 hin7 (H7.at hin7 rfl) (g := (mkF m 27 #[.val (.ref a1), .val (.ref ob2), .val (.ref ar), .val (.int (1 : Int32)), .val (.int (0 : Int32)), .unset] [(.int (0 : Int32)), (.ref ar)])) rfl rfl (hb hby d4_27) _) ?_
  show own_G p e below Φ T4 (mkF m 28 #[.val (.ref a1), .val (.ref ob2), .val (.ref ar), .val (.int (1 : Int32)), .val (.int (0 : Int32)), .unset] [(.int v0)])
  refine own_go (fun _ => XS.istore X4.here hx rfl (hb hby d4_28) rfl (l' := #[.val (.ref a1), .val (.ref ob2), .val (.ref ar), .val (.int (1 : Int32)), .val (.int (0 : Int32)), .val (.int v0)]) rfl) ?_
  show own_G p e below Φ T4 (mkF m 30 #[.val (.ref a1), .val (.ref ob2), .val (.ref ar), .val (.int (1 : Int32)), .val (.int (0 : Int32)), .val (.int v0)] [])
  refine own_go (fun _ => XS.aloadN X4.here hx rfl (hb hby d4_30) rfl rfl) ?_
  show own_G p e below Φ T4 (mkF m 31 #[.val (.ref a1), .val (.ref ob2), .val (.ref ar), .val (.int (1 : Int32)), .val (.int (0 : Int32)), .val (.int v0)] [(.ref ob2)])
  refine own_go (fun _ => XS.iload X4.here hx rfl (hb hby d4_31) rfl) ?_
  show own_G p e below Φ T4 (mkF m 33 #[.val (.ref a1), .val (.ref ob2), .val (.ref ar), .val (.int (1 : Int32)), .val (.int (0 : Int32)), .val (.int v0)] [(.int v0), (.ref ob2)])
  refine own_go (fun _ => Jvm.Free.XT.dup2 X4.here hx rfl (hb hby d4_33) rfl rfl rfl) ?_
  show own_G p e below Φ T4 (mkF m 34 #[.val (.ref a1), .val (.ref ob2), .val (.ref ar), .val (.int (1 : Int32)), .val (.int (0 : Int32)), .val (.int v0)] [(.int v0), (.ref ob2), (.int v0), (.ref ob2)])
  obtain ⟨cl8, Ar8, q8, S8, M8, H8, G8⟩ := id V2
  have hin8 : ¬ (v0 < 0 ∨ cl8.slots.size ≤ (v0).toNatClampNeg) := inb_of S8 hv0
  refine own_go (fun _ => X4.iaload hx (j := v0) (v := (.int ((own_zeros cnt).getD v0.toNatClampNeg 0))) (by rw [e4]; exact Ar8.1) (State.isArrayOf_alike hZ.alike Ar8.2.1) Ar8.2.2 hin8 (H8.at hin8 (own_vs_at _ _)) (g := (mkF m 34 #[.val (.ref a1), .val (.ref ob2), .val (.ref ar), .val (.int (1 : Int32)), .val (.int (0 : Int32)), .val (.int v0)] [(.int v0), (.ref ob2), (.int v0), (.ref ob2)])) rfl rfl (hb hby d4_34) _) ?_
  show own_G p e below Φ T4 (mkF m 35 #[.val (.ref a1), .val (.ref ob2), .val (.ref ar), .val (.int (1 : Int32)), .val (.int (0 : Int32)), .val (.int v0)] [(.int ((own_zeros cnt).getD v0.toNatClampNeg 0)), (.int v0), (.ref ob2)])
  refine own_go (fun _ => XS.iconst X4.here hx rfl (hb hby d4_35)) ?_
  show own_G p e below Φ T4 (mkF m 36 #[.val (.ref a1), .val (.ref ob2), .val (.ref ar), .val (.int (1 : Int32)), .val (.int (0 : Int32)), .val (.int v0)] [(.int (1 : Int32)), (.int ((own_zeros cnt).getD v0.toNatClampNeg 0)), (.int v0), (.ref ob2)])
  refine own_go (fun _ => XS.iadd X4.here hx rfl (hb hby d4_36) rfl) ?_
  show own_G p e below Φ T4 (mkF m 37 #[.val (.ref a1), .val (.ref ob2), .val (.ref ar), .val (.int (1 : Int32)), .val (.int (0 : Int32)), .val (.int v0)] [(.int (((own_zeros cnt).getD v0.toNatClampNeg 0) + (1 : Int32))), (.int v0), (.ref ob2)])
  obtain ⟨cl9, Ar9, q9, S9, M9, H9, G9⟩ := id V2
  have hin9 : ¬ (v0 < 0 ∨ cl9.slots.size ≤ (v0).toNatClampNeg) := inb_of S9 hv0
  obtain ⟨T9, h9, X9, e9, W9, st9⟩ := stI X4 hx hZ e4 Ar9 (j := v0) hin9 (g := (mkF m 37 #[.val (.ref a1), .val (.ref ob2), .val (.ref ar), .val (.int (1 : Int32)), .val (.int (0 : Int32)), .val (.int v0)] [(.int (((own_zeros cnt).getD v0.toNatClampNeg 0) + (1 : Int32))), (.int v0), (.ref ob2)])) rfl rfl (hb hby d4_37)
  refine own_go st9 ?_
  have V9 : Arv Z h9 ob2 ka2 .int cnt (own_vs (own_inc (own_zeros cnt) v0)) (.int (0 : Int32)) := own_vs_set _ _ _ ▸ Arv.set Ar9 q9 S9 M9 H9 G9 rfl W9 _ rfl (by simp only [own_vs_len, own_inc_len, own_zeros_len]; exact own_clamp hv0)
  have N9 := Fr.snoc X9 N0 g_ob2
  have K9 := K2.wr W9 (Or.inr sz_ob2)
  have Zp9 : n0 ≤ h9.size := Nat.le_trans Zp2 (Keep.of_wr W9).1
  show own_G p e below Φ T9 (mkF m 38 #[.val (.ref a1), .val (.ref ob2), .val (.ref ar), .val (.int (1 : Int32)), .val (.int (0 : Int32)), .val (.int v0)] [])
  refine own_go (fun _ => XS.iinc X9.here hx rfl (hb hby d4_38) rfl (l' := #[.val (.ref a1), .val (.ref ob2), .val (.ref ar), .val (.int (1 : Int32)), .val (.int (1 : Int32)), .val (.int v0)]) rfl) ?_
  show own_G p e below Φ T9 (mkF m 41 #[.val (.ref a1), .val (.ref ob2), .val (.ref ar), .val (.int (1 : Int32)), .val (.int (1 : Int32)), .val (.int v0)] [])
  refine own_go (fun _ => XS.goto X9.here hx rfl (pc0 := 41) (pc' := 18) rfl (hb hby d4_41) (by decide) (by decide)) ?_
  show own_G p e below Φ T9 (mkF m 18 #[.val (.ref a1), .val (.ref ob2), .val (.ref ar), .val (.int (1 : Int32)), .val (.int (1 : Int32)), .val (.int v0)] [])
  refine own_go (fun _ => XS.iload X9.here hx rfl (hb hby d4_18) rfl) ?_
  show own_G p e below Φ T9 (mkF m 20 #[.val (.ref a1), .val (.ref ob2), .val (.ref ar), .val (.int (1 : Int32)), .val (.int (1 : Int32)), .val (.int v0)] [(.int (1 : Int32))])
  refine own_go (fun _ => XS.iloadN X9.here hx rfl (hb hby d4_20) rfl) ?_
  show own_G p e below Φ T9 (mkF m 21 #[.val (.ref a1), .val (.ref ob2), .val (.ref ar), .val (.int (1 : Int32)), .val (.int (1 : Int32)), .val (.int v0)] [(.int (1 : Int32)), (.int (1 : Int32))])
  refine own_go (fun _ => XS.icmpYes X9.here hx rfl (pc0 := 21) (pc' := 44) rfl (hb hby d4_21) rfl (Jvm.Free.XT.ii_ge_t (by decide : ¬ ((1 : Int32) < (1 : Int32)))) (by decide) (by decide)) ?_
  show own_G p e below Φ T9 (mkF m 44 #[.val (.ref a1), .val (.ref ob2), .val (.ref ar), .val (.int (1 : Int32)), .val (.int (1 : Int32)), .val (.int v0)] [])
  refine own_go (fun _ => XS.aloadN X9.here hx rfl (hb hby d4_44) rfl rfl) ?_
  show own_G p e below Φ T9 (mkF m 45 #[.val (.ref a1), .val (.ref ob2), .val (.ref ar), .val (.int (1 : Int32)), .val (.int (1 : Int32)), .val (.int v0)] [(.ref ob2)])
  rw [hΦ]
  refine own_ret X9 (v := some (.ref ob2)) (fun h => by rw [Bd.returns] at h; cases h) (BodyLoose.notSynchronized Bd) (fun fs hr => retOut X9 hx Bd.returns rfl (Or.inr (Or.inr (Or.inr (Or.inr ⟨rfl, rfl, rfl⟩)))) (hb hby d4_45) hr) ?_ (by decide) (by decide)
  rw [e9]
  exact ⟨ob2, sz_ob2, ka2, rfl, N9, K9, V9⟩
theorem ef_rmS2 (m : MethodId) (a1 : Addr) : entryFrame m #[(.ref a1)] 6 = mkF m 0 #[.val (.ref a1), .unset, .unset, .unset, .unset, .unset] [] := by first | (simp [entryFrame, mkF, argsToLocals, Value.category]; done) | rfl
def Q_rmS2 (Z : State) (a1 : Addr) (ar : Addr) (ka : ClassId) (cnt : Int32) (v0 : Int32) (v1 : Int32) (h0 : Heap) (n0 : Nat) (v : Option Value) (h : Heap) (L : List Loc) : Prop := ∃ b : Addr, h0.size ≤ b ∧ ∃ kb : ClassId, v = some (.ref b) ∧ Fr n0 L ∧ Keep h0 h [] ∧ Arv Z h b kb .int cnt (own_vs (own_inc (own_inc (own_zeros cnt) v0) v1)) (.int (0 : Int32))
set_option maxRecDepth 65536 in
set_option maxHeartbeats 40000000 in
theorem rmS2 (l : Launch) (Z : State) (a0 : Array Value) (hw : ∀ d ∈ tables_1, d.before a0 Z = true) (ws : List Jvm.Cond) (a1 : Addr) (ar : Addr) (ka : ClassId) (cnt : Int32) (v0 : Int32) (v1 : Int32) (h0 : Heap) (n0 : Nat) (Z0 : n0 ≤ h0.size) (F_m_nClassCount_a1 : Fld Z h0 a1 "com/example/edgewarden/edgewarden/graph/Likeness" "m_nClassCount" "I" (.int cnt)) (F_m_aClasses_a1 : Fld Z h0 a1 "com/example/edgewarden/edgewarden/graph/Likeness" "m_aClasses" "[I" (.ref ar)) (V_ar : Arv Z h0 ar ka .int (2 : Int32) [(.int v0), (.int v1)] (.int (0 : Int32))) (hc0 : ¬ cnt < 0) (hc5 : cnt.toNatClampNeg ≤ 5) (hv0 : ¬ v0 < 0 ∧ v0 < cnt) (hv1 : ¬ v1 < 0 ∧ v1 < cnt) :
    MetFree l (⟨"com/example/edgewarden/edgewarden/graph/Likeness", "getClassSizes", "()[I"⟩ : MethodName) (head1 (Jvm.Cond.code (⟨"com/example/edgewarden/edgewarden/graph/Likeness", "getClassSizes", "()[I"⟩ : MethodName) prog_57_method_6_code 6 (some (.array .int)) :: ws) ({ frames := 0, cells := 1, slots := 5, locals := 0 } : Room)) (fun a U => a = #[(.ref a1)] ∧ Z.Warmed39 U.vm ∧ U.heap = h0) (fun _ _ _ _ _ => True) (fun _ U o U' => ∃ v L, o = .returned v ∧ Q_rmS2 Z a1 ar ka cnt v0 v1 h0 n0 v U'.heap L ∧ FrameEnd U o U' L ({ frames := 0, cells := 1, slots := 5, locals := 0 } : Room).cells ({ frames := 0, cells := 1, slots := 5, locals := 0 } : Room).slots) := by
  refine MetFree.of_bodySF (plainFor_of_name pn_0) hisR ?_
  intro p e s m args below meth c s₁ Bd hml0 hP hK
  obtain ⟨rfl, hZ, hh⟩ := hP
  have hx := Bd.exec
  have hby := Bd.bytes
  have hml : c.maxLocals = 6 := hml0
  have hown : s.vm.findClass "com/example/edgewarden/edgewarden/graph/Likeness" = some m.cls := findClass_of_methodNamed Bd.named
  have hnm := (name_of_methodNamed Bd.named Bd.method).1
  have X0 : Stand p l e ({ frames := 0, cells := 1, slots := 5, locals := 0 } : Room) s m #[(.ref a1)] below meth c s₁ [] 0 0 := Stand.of_body Bd
  have e0 : s₁.heap = h0 := by rw [← hh, Bd.state]; rfl
  have N0 := Fr.nil n0
  have K0 : Keep h0 h0 [] := Keep.refl _ _
  suffices G0 : own_G p e below (own_E s below (Q_rmS2 Z a1 ar ka cnt v0 v1 h0 n0) ({ frames := 0, cells := 1, slots := 5, locals := 0 } : Room).cells ({ frames := 0, cells := 1, slots := 5, locals := 0 } : Room).slots) s₁ (mkF m 0 #[.val (.ref a1), .unset, .unset, .unset, .unset, .unset] []) by
    obtain ⟨zt, zst, zo, zq1, zq2, zq3⟩ := G0
    exact ⟨zt, zo, castTop (ef_rmS2 m a1) zst, zq1, zq2, zq3⟩
  obtain ⟨Φ, hΦ⟩ : ∃ Φ, Φ = own_E s below (Q_rmS2 Z a1 ar ka cnt v0 v1 h0 n0) ({ frames := 0, cells := 1, slots := 5, locals := 0 } : Room).cells ({ frames := 0, cells := 1, slots := 5, locals := 0 } : Room).slots := ⟨_, rfl⟩
  rw [← hΦ]
  show own_G p e below Φ s₁ (mkF m 0 #[.val (.ref a1), .unset, .unset, .unset, .unset, .unset] [])
  refine own_go (fun _ => XS.aloadN X0.here hx rfl (hb hby d4_0) rfl rfl) ?_
  show own_G p e below Φ s₁ (mkF m 1 #[.val (.ref a1), .unset, .unset, .unset, .unset, .unset] [(.ref a1)])
  obtain ⟨T1, X1, e1, st1⟩ := getF X0 hx hZ hown (host := "") (Or.inl (wd_17 hw)) Via.refl e0 F_m_nClassCount_a1 (g := (mkF m 1 #[.val (.ref a1), .unset, .unset, .unset, .unset, .unset] [(.ref a1)])) rfl rfl (hb hby d4_1)
  refine own_go st1 ?_
  show own_G p e below Φ T1 (mkF m 4 #[.val (.ref a1), .unset, .unset, .unset, .unset, .unset] [(.int cnt)])
  obtain ⟨T2, h2, ka2, X2, e2, E2, A2, st2⟩ := newP (aty := .int) X1 hx hZ (wd_5 hw) e1 (g := (mkF m 4 #[.val (.ref a1), .unset, .unset, .unset, .unset, .unset] [(.int cnt)])) rfl (hb hby d4_4) rfl hc0 (cap := 5) hc5 (by decide) (by decide) (by decide)
  obtain ⟨ob2, g2⟩ : ∃ z, z = h0.size := ⟨_, rfl⟩
  rw [← g2] at A2 st2
  have ne_a1_ob2 : a1 ≠ ob2 := Nat.ne_of_lt (Nat.lt_of_lt_of_le F_m_nClassCount_a1.lt (Nat.le_of_eq g2.symm))
  have ne_ar_ob2 : ar ≠ ob2 := Nat.ne_of_lt (Nat.lt_of_lt_of_le V_ar.lt (Nat.le_of_eq g2.symm))
  have V2 : Arv Z h2 ob2 ka2 .int cnt (own_vs (own_zeros cnt)) (.int (0 : Int32)) := (Arv.new A2 hc0).pad (own_pad _)
  have g_ob2 : n0 ≤ ob2 := Nat.le_trans Z0 (Nat.le_of_eq g2.symm)
  have sz_ob2 : h0.size ≤ ob2 := Nat.le_trans K0.1 (Nat.le_of_eq g2.symm)
  have K2 := K0.ext E2
  have Zp2 : n0 ≤ h2.size := Nat.le_trans Z0 E2.1
  refine own_go st2 ?_
  show own_G p e below Φ T2 (mkF m 6 #[.val (.ref a1), .unset, .unset, .unset, .unset, .unset] [(.ref ob2)])
  refine own_go (fun _ => XS.astoreN X2.here hx rfl (hb hby d4_6) rfl rfl (l' := #[.val (.ref a1), .val (.ref ob2), .unset, .unset, .unset, .unset]) rfl) ?_
  show own_G p e below Φ T2 (mkF m 7 #[.val (.ref a1), .val (.ref ob2), .unset, .unset, .unset, .unset] [])
  refine own_go (fun _ => XS.aloadN X2.here hx rfl (hb hby d4_7) rfl rfl) ?_
  show own_G p e below Φ T2 (mkF m 8 #[.val (.ref a1), .val (.ref ob2), .unset, .unset, .unset, .unset] [(.ref a1)])
  have f3 : Fld Z h2 a1 "com/example/edgewarden/edgewarden/graph/Likeness" "m_aClasses" "[I" (.ref ar) := F_m_aClasses_a1.ext E2
  obtain ⟨T4, X4, e4, st4⟩ := getF X2 hx hZ hown (host := "") (Or.inl (wd_15 hw)) Via.refl e2 f3 (g := (mkF m 8 #[.val (.ref a1), .val (.ref ob2), .unset, .unset, .unset, .unset] [(.ref a1)])) rfl rfl (hb hby d4_8)
  refine own_go st4 ?_
  show own_G p e below Φ T4 (mkF m 11 #[.val (.ref a1), .val (.ref ob2), .unset, .unset, .unset, .unset] [(.ref ar)])
  refine own_go (fun _ => XS.astoreN X4.here hx rfl (hb hby d4_11) rfl rfl (l' := #[.val (.ref a1), .val (.ref ob2), .val (.ref ar), .unset, .unset, .unset]) rfl) ?_
  show own_G p e below Φ T4 (mkF m 12 #[.val (.ref a1), .val (.ref ob2), .val (.ref ar), .unset, .unset, .unset] [])
  refine own_go (fun _ => XS.aloadN X4.here hx rfl (hb hby d4_12) rfl rfl) ?_
  show own_G p e below Φ T4 (mkF m 13 #[.val (.ref a1), .val (.ref ob2), .val (.ref ar), .unset, .unset, .unset] [(.ref ar)])
  have f5 : Arv Z h2 ar ka .int (2 : Int32) [(.int v0), (.int v1)] (.int (0 : Int32)) := V_ar.ext E2
  obtain ⟨cl6, Ar6, q6, S6, M6, H6, G6⟩ := id f5
  refine own_go (fun _ => X4.arraylength hx (by rw [e4]; exact Ar6.1) (State.isArrayOf_alike hZ.alike Ar6.2.1) (g := (mkF m 13 #[.val (.ref a1), .val (.ref ob2), .val (.ref ar), .unset, .unset, .unset] [(.ref ar)])) rfl rfl (hb hby d4_13) _) ?_
  rw [len_of S6 M6]
  show own_G p e below Φ T4 (mkF m 14 #[.val (.ref a1), .val (.ref ob2), .val (.ref ar), .unset, .unset, .unset] [(.int (2 : Int32))])
  refine own_go (fun _ => XS.istoreN X4.here hx rfl (hb hby d4_14) rfl (l' := #[.val (.ref a1), .val (.ref ob2), .val (.ref ar), .val (.int (2 : Int32)), .unset, .unset]) rfl) ?_
  show own_G p e below Φ T4 (mkF m 15 #[.val (.ref a1), .val (.ref ob2), .val (.ref ar), .val (.int (2 : Int32)), .unset, .unset] [])
  refine own_go (fun _ => XS.iconst X4.here hx rfl (hb hby d4_15)) ?_
  show own_G p e below Φ T4 (mkF m 16 #[.val (.ref a1), .val (.ref ob2), .val (.ref ar), .val (.int (2 : Int32)), .unset, .unset] [(.int (0 : Int32))])
  refine own_go (fun _ => XS.istore X4.here hx rfl (hb hby d4_16) rfl (l' := #[.val (.ref a1), .val (.ref ob2), .val (.ref ar), .val (.int (2 : Int32)), .val (.int (0 : Int32)), .unset]) rfl) ?_
  show own_G p e below Φ T4 (mkF m 18 #[.val (.ref a1), .val (.ref ob2), .val (.ref ar), .val (.int (2 : Int32)), .val (.int (0 : Int32)), .unset] [])
  refine own_go (fun _ => XS.iload X4.here hx rfl (hb hby d4_18) rfl) ?_
  show own_G p e below Φ T4 (mkF m 20 #[.val (.ref a1), .val (.ref ob2), .val (.ref ar), .val (.int (2 : Int32)), .val (.int (0 : Int32)), .unset] [(.int (0 : Int32))])
  refine own_go (fun _ => XS.iloadN X4.here hx rfl (hb hby d4_20) rfl) ?_
  show own_G p e below Φ T4 (mkF m 21 #[.val (.ref a1), .val (.ref ob2), .val (.ref ar), .val (.int (2 : Int32)), .val (.int (0 : Int32)), .unset] [(.int (2 : Int32)), (.int (0 : Int32))])
  refine own_go (fun _ => XS.icmpNo X4.here hx rfl (hb hby d4_21) rfl (Jvm.Free.XT.ii_ge_f (by decide : ((0 : Int32) < (2 : Int32))))) ?_
  show own_G p e below Φ T4 (mkF m 24 #[.val (.ref a1), .val (.ref ob2), .val (.ref ar), .val (.int (2 : Int32)), .val (.int (0 : Int32)), .unset] [])
  refine own_go (fun _ => XS.aloadN X4.here hx rfl (hb hby d4_24) rfl rfl) ?_
  show own_G p e below Φ T4 (mkF m 25 #[.val (.ref a1), .val (.ref ob2), .val (.ref ar), .val (.int (2 : Int32)), .val (.int (0 : Int32)), .unset] [(.ref ar)])
  refine own_go (fun _ => XS.iload X4.here hx rfl (hb hby d4_25) rfl) ?_
  show own_G p e below Φ T4 (mkF m 27 #[.val (.ref a1), .val (.ref ob2), .val (.ref ar), .val (.int (2 : Int32)), .val (.int (0 : Int32)), .unset] [(.int (0 : Int32)), (.ref ar)])
  obtain ⟨cl7, Ar7, q7, S7, M7, H7, G7⟩ := id f5
  have hin7 : ¬ ((0 : Int32) < 0 ∨ cl7.slots.size ≤ ((0 : Int32)).toNatClampNeg) := inb_of S7 ⟨by decide, by decide⟩
  refine own_go (fun _ => X4.iaload hx (j := (0 : Int32)) (v := (.int v0)) (by rw [e4]; exact Ar7.1) (State.isArrayOf_alike hZ.alike Ar7.2.1) Ar7.2.2 hin7 (H7.at hin7 rfl) (g := (mkF m 27 #[.val (.ref a1), .val (.ref ob2), .val (.ref ar), .val (.int (2 : Int32)), .val (.int (0 : Int32)), .unset] [(.int (0 : Int32)), (.ref ar)])) rfl rfl (hb hby d4_27) _) ?_
  show own_G p e below Φ T4 (mkF m 28 #[.val (.ref a1), .val (.ref ob2), .val (.ref ar), .val (.int (2 : Int32)), .val (.int (0 : Int32)), .unset] [(.int v0)])
  refine own_go (fun _ => XS.istore X4.here hx rfl (hb hby d4_28) rfl (l' := #[.val (.ref a1), .val (.ref ob2), .val (.ref ar), .val (.int (2 : Int32)), .val (.int (0 : Int32)), .val (.int v0)]) rfl) ?_
  show own_G p e below Φ T4 (mkF m 30 #[.val (.ref a1), .val (.ref ob2), .val (.ref ar), .val (.int (2 : Int32)), .val (.int (0 : Int32)), .val (.int v0)] [])
  refine own_go (fun _ => XS.aloadN X4.here hx rfl (hb hby d4_30) rfl rfl) ?_
  show own_G p e below Φ T4 (mkF m 31 #[.val (.ref a1), .val (.ref ob2), .val (.ref ar), .val (.int (2 : Int32)), .val (.int (0 : Int32)), .val (.int v0)] [(.ref ob2)])
  refine own_go (fun _ => XS.iload X4.here hx rfl (hb hby d4_31) rfl) ?_
  show own_G p e below Φ T4 (mkF m 33 #[.val (.ref a1), .val (.ref ob2), .val (.ref ar), .val (.int (2 : Int32)), .val (.int (0 : Int32)), .val (.int v0)] [(.int v0), (.ref ob2)])
  refine own_go (fun _ => Jvm.Free.XT.dup2 X4.here hx rfl (hb hby d4_33) rfl rfl rfl) ?_
  show own_G p e below Φ T4 (mkF m 34 #[.val (.ref a1), .val (.ref ob2), .val (.ref ar), .val (.int (2 : Int32)), .val (.int (0 : Int32)), .val (.int v0)] [(.int v0), (.ref ob2), (.int v0), (.ref ob2)])
  obtain ⟨cl8, Ar8, q8, S8, M8, H8, G8⟩ := id V2
  have hin8 : ¬ (v0 < 0 ∨ cl8.slots.size ≤ (v0).toNatClampNeg) := inb_of S8 hv0
  refine own_go (fun _ => X4.iaload hx (j := v0) (v := (.int ((own_zeros cnt).getD v0.toNatClampNeg 0))) (by rw [e4]; exact Ar8.1) (State.isArrayOf_alike hZ.alike Ar8.2.1) Ar8.2.2 hin8 (H8.at hin8 (own_vs_at _ _)) (g := (mkF m 34 #[.val (.ref a1), .val (.ref ob2), .val (.ref ar), .val (.int (2 : Int32)), .val (.int (0 : Int32)), .val (.int v0)] [(.int v0), (.ref ob2), (.int v0), (.ref ob2)])) rfl rfl (hb hby d4_34) _) ?_
  show own_G p e below Φ T4 (mkF m 35 #[.val (.ref a1), .val (.ref ob2), .val (.ref ar), .val (.int (2 : Int32)), .val (.int (0 : Int32)), .val (.int v0)] [(.int ((own_zeros cnt).getD v0.toNatClampNeg 0)), (.int v0), (.ref ob2)])
  refine own_go (fun _ => XS.iconst X4.here hx rfl (hb hby d4_35)) ?_
  show own_G p e below Φ T4 (mkF m 36 #[.val (.ref a1), .val (.ref ob2), .val (.ref ar), .val (.int (2 : Int32)), .val (.int (0 : Int32)), .val (.int v0)] [(.int (1 : Int32)), (.int ((own_zeros cnt).getD v0.toNatClampNeg 0)), (.int v0), (.ref ob2)])
  refine own_go (fun _ => XS.iadd X4.here hx rfl (hb hby d4_36) rfl) ?_
  show own_G p e below Φ T4 (mkF m 37 #[.val (.ref a1), .val (.ref ob2), .val (.ref ar), .val (.int (2 : Int32)), .val (.int (0 : Int32)), .val (.int v0)] [(.int (((own_zeros cnt).getD v0.toNatClampNeg 0) + (1 : Int32))), (.int v0), (.ref ob2)])
  obtain ⟨cl9, Ar9, q9, S9, M9, H9, G9⟩ := id V2
  have hin9 : ¬ (v0 < 0 ∨ cl9.slots.size ≤ (v0).toNatClampNeg) := inb_of S9 hv0
  obtain ⟨T9, h9, X9, e9, W9, st9⟩ := stI X4 hx hZ e4 Ar9 (j := v0) hin9 (g := (mkF m 37 #[.val (.ref a1), .val (.ref ob2), .val (.ref ar), .val (.int (2 : Int32)), .val (.int (0 : Int32)), .val (.int v0)] [(.int (((own_zeros cnt).getD v0.toNatClampNeg 0) + (1 : Int32))), (.int v0), (.ref ob2)])) rfl rfl (hb hby d4_37)
  refine own_go st9 ?_
  have V9 : Arv Z h9 ob2 ka2 .int cnt (own_vs (own_inc (own_zeros cnt) v0)) (.int (0 : Int32)) := own_vs_set _ _ _ ▸ Arv.set Ar9 q9 S9 M9 H9 G9 rfl W9 _ rfl (by simp only [own_vs_len, own_inc_len, own_zeros_len]; exact own_clamp hv0)
  have N9 := Fr.snoc X9 N0 g_ob2
  have K9 := K2.wr W9 (Or.inr sz_ob2)
  have Zp9 : n0 ≤ h9.size := Nat.le_trans Zp2 (Keep.of_wr W9).1
  show own_G p e below Φ T9 (mkF m 38 #[.val (.ref a1), .val (.ref ob2), .val (.ref ar), .val (.int (2 : Int32)), .val (.int (0 : Int32)), .val (.int v0)] [])
  refine own_go (fun _ => XS.iinc X9.here hx rfl (hb hby d4_38) rfl (l' := #[.val (.ref a1), .val (.ref ob2), .val (.ref ar), .val (.int (2 : Int32)), .val (.int (1 : Int32)), .val (.int v0)]) rfl) ?_
  show own_G p e below Φ T9 (mkF m 41 #[.val (.ref a1), .val (.ref ob2), .val (.ref ar), .val (.int (2 : Int32)), .val (.int (1 : Int32)), .val (.int v0)] [])
  refine own_go (fun _ => XS.goto X9.here hx rfl (pc0 := 41) (pc' := 18) rfl (hb hby d4_41) (by decide) (by decide)) ?_
  show own_G p e below Φ T9 (mkF m 18 #[.val (.ref a1), .val (.ref ob2), .val (.ref ar), .val (.int (2 : Int32)), .val (.int (1 : Int32)), .val (.int v0)] [])
  refine own_go (fun _ => XS.iload X9.here hx rfl (hb hby d4_18) rfl) ?_
  show own_G p e below Φ T9 (mkF m 20 #[.val (.ref a1), .val (.ref ob2), .val (.ref ar), .val (.int (2 : Int32)), .val (.int (1 : Int32)), .val (.int v0)] [(.int (1 : Int32))])
  refine own_go (fun _ => XS.iloadN X9.here hx rfl (hb hby d4_20) rfl) ?_
  show own_G p e below Φ T9 (mkF m 21 #[.val (.ref a1), .val (.ref ob2), .val (.ref ar), .val (.int (2 : Int32)), .val (.int (1 : Int32)), .val (.int v0)] [(.int (2 : Int32)), (.int (1 : Int32))])
  refine own_go (fun _ => XS.icmpNo X9.here hx rfl (hb hby d4_21) rfl (Jvm.Free.XT.ii_ge_f (by decide : ((1 : Int32) < (2 : Int32))))) ?_
  show own_G p e below Φ T9 (mkF m 24 #[.val (.ref a1), .val (.ref ob2), .val (.ref ar), .val (.int (2 : Int32)), .val (.int (1 : Int32)), .val (.int v0)] [])
  refine own_go (fun _ => XS.aloadN X9.here hx rfl (hb hby d4_24) rfl rfl) ?_
  show own_G p e below Φ T9 (mkF m 25 #[.val (.ref a1), .val (.ref ob2), .val (.ref ar), .val (.int (2 : Int32)), .val (.int (1 : Int32)), .val (.int v0)] [(.ref ar)])
  refine own_go (fun _ => XS.iload X9.here hx rfl (hb hby d4_25) rfl) ?_
  show own_G p e below Φ T9 (mkF m 27 #[.val (.ref a1), .val (.ref ob2), .val (.ref ar), .val (.int (2 : Int32)), .val (.int (1 : Int32)), .val (.int v0)] [(.int (1 : Int32)), (.ref ar)])
  have f10 : Arv Z h9 ar ka .int (2 : Int32) [(.int v0), (.int v1)] (.int (0 : Int32)) := f5.other W9 ne_ar_ob2
  obtain ⟨cl11, Ar11, q11, S11, M11, H11, G11⟩ := id f10
  have hin11 : ¬ ((1 : Int32) < 0 ∨ cl11.slots.size ≤ ((1 : Int32)).toNatClampNeg) := inb_of S11 ⟨by decide, by decide⟩
  refine own_go (fun _ => X9.iaload hx (j := (1 : Int32)) (v := (.int v1)) (by rw [e9]; exact Ar11.1) (State.isArrayOf_alike hZ.alike Ar11.2.1) Ar11.2.2 hin11 (H11.at hin11 rfl) (g := (mkF m 27 #[.val (.ref a1), .val (.ref ob2), .val (.ref ar), .val (.int (2 : Int32)), .val (.int (1 : Int32)), .val (.int v0)] [(.int (1 : Int32)), (.ref ar)])) rfl rfl (hb hby d4_27) _) ?_
  show own_G p e below Φ T9 (mkF m 28 #[.val (.ref a1), .val (.ref ob2), .val (.ref ar), .val (.int (2 : Int32)), .val (.int (1 : Int32)), .val (.int v0)] [(.int v1)])
  refine own_go (fun _ => XS.istore X9.here hx rfl (hb hby d4_28) rfl (l' := #[.val (.ref a1), .val (.ref ob2), .val (.ref ar), .val (.int (2 : Int32)), .val (.int (1 : Int32)), .val (.int v1)]) rfl) ?_
  show own_G p e below Φ T9 (mkF m 30 #[.val (.ref a1), .val (.ref ob2), .val (.ref ar), .val (.int (2 : Int32)), .val (.int (1 : Int32)), .val (.int v1)] [])
  refine own_go (fun _ => XS.aloadN X9.here hx rfl (hb hby d4_30) rfl rfl) ?_
  show own_G p e below Φ T9 (mkF m 31 #[.val (.ref a1), .val (.ref ob2), .val (.ref ar), .val (.int (2 : Int32)), .val (.int (1 : Int32)), .val (.int v1)] [(.ref ob2)])
  refine own_go (fun _ => XS.iload X9.here hx rfl (hb hby d4_31) rfl) ?_
  show own_G p e below Φ T9 (mkF m 33 #[.val (.ref a1), .val (.ref ob2), .val (.ref ar), .val (.int (2 : Int32)), .val (.int (1 : Int32)), .val (.int v1)] [(.int v1), (.ref ob2)])
  refine own_go (fun _ => Jvm.Free.XT.dup2 X9.here hx rfl (hb hby d4_33) rfl rfl rfl) ?_
  show own_G p e below Φ T9 (mkF m 34 #[.val (.ref a1), .val (.ref ob2), .val (.ref ar), .val (.int (2 : Int32)), .val (.int (1 : Int32)), .val (.int v1)] [(.int v1), (.ref ob2), (.int v1), (.ref ob2)])
  obtain ⟨cl12, Ar12, q12, S12, M12, H12, G12⟩ := id V9
  have hin12 : ¬ (v1 < 0 ∨ cl12.slots.size ≤ (v1).toNatClampNeg) := inb_of S12 hv1
  refine own_go (fun _ => X9.iaload hx (j := v1) (v := (.int ((own_inc (own_zeros cnt) v0).getD v1.toNatClampNeg 0))) (by rw [e9]; exact Ar12.1) (State.isArrayOf_alike hZ.alike Ar12.2.1) Ar12.2.2 hin12 (H12.at hin12 (own_vs_at _ _)) (g := (mkF m 34 #[.val (.ref a1), .val (.ref ob2), .val (.ref ar), .val (.int (2 : Int32)), .val (.int (1 : Int32)), .val (.int v1)] [(.int v1), (.ref ob2), (.int v1), (.ref ob2)])) rfl rfl (hb hby d4_34) _) ?_
  show own_G p e below Φ T9 (mkF m 35 #[.val (.ref a1), .val (.ref ob2), .val (.ref ar), .val (.int (2 : Int32)), .val (.int (1 : Int32)), .val (.int v1)] [(.int ((own_inc (own_zeros cnt) v0).getD v1.toNatClampNeg 0)), (.int v1), (.ref ob2)])
  refine own_go (fun _ => XS.iconst X9.here hx rfl (hb hby d4_35)) ?_
  show own_G p e below Φ T9 (mkF m 36 #[.val (.ref a1), .val (.ref ob2), .val (.ref ar), .val (.int (2 : Int32)), .val (.int (1 : Int32)), .val (.int v1)] [(.int (1 : Int32)), (.int ((own_inc (own_zeros cnt) v0).getD v1.toNatClampNeg 0)), (.int v1), (.ref ob2)])
  refine own_go (fun _ => XS.iadd X9.here hx rfl (hb hby d4_36) rfl) ?_
  show own_G p e below Φ T9 (mkF m 37 #[.val (.ref a1), .val (.ref ob2), .val (.ref ar), .val (.int (2 : Int32)), .val (.int (1 : Int32)), .val (.int v1)] [(.int (((own_inc (own_zeros cnt) v0).getD v1.toNatClampNeg 0) + (1 : Int32))), (.int v1), (.ref ob2)])
  obtain ⟨cl13, Ar13, q13, S13, M13, H13, G13⟩ := id V9
  have hin13 : ¬ (v1 < 0 ∨ cl13.slots.size ≤ (v1).toNatClampNeg) := inb_of S13 hv1
  obtain ⟨T13, h13, X13, e13, W13, st13⟩ := stI X9 hx hZ e9 Ar13 (j := v1) hin13 (g := (mkF m 37 #[.val (.ref a1), .val (.ref ob2), .val (.ref ar), .val (.int (2 : Int32)), .val (.int (1 : Int32)), .val (.int v1)] [(.int (((own_inc (own_zeros cnt) v0).getD v1.toNatClampNeg 0) + (1 : Int32))), (.int v1), (.ref ob2)])) rfl rfl (hb hby d4_37)
  refine own_go st13 ?_
  have V13 : Arv Z h13 ob2 ka2 .int cnt (own_vs (own_inc (own_inc (own_zeros cnt) v0) v1)) (.int (0 : Int32)) := own_vs_set _ _ _ ▸ Arv.set Ar13 q13 S13 M13 H13 G13 rfl W13 _ rfl (by simp only [own_vs_len, own_inc_len, own_zeros_len]; exact own_clamp hv1)
  have N13 := Fr.snoc X13 N9 g_ob2
  have K13 := K9.wr W13 (Or.inr sz_ob2)
  have Zp13 : n0 ≤ h13.size := Nat.le_trans Zp9 (Keep.of_wr W13).1
  show own_G p e below Φ T13 (mkF m 38 #[.val (.ref a1), .val (.ref ob2), .val (.ref ar), .val (.int (2 : Int32)), .val (.int (1 : Int32)), .val (.int v1)] [])
  refine own_go (fun _ => XS.iinc X13.here hx rfl (hb hby d4_38) rfl (l' := #[.val (.ref a1), .val (.ref ob2), .val (.ref ar), .val (.int (2 : Int32)), .val (.int (2 : Int32)), .val (.int v1)]) rfl) ?_
  show own_G p e below Φ T13 (mkF m 41 #[.val (.ref a1), .val (.ref ob2), .val (.ref ar), .val (.int (2 : Int32)), .val (.int (2 : Int32)), .val (.int v1)] [])
  refine own_go (fun _ => XS.goto X13.here hx rfl (pc0 := 41) (pc' := 18) rfl (hb hby d4_41) (by decide) (by decide)) ?_
  show own_G p e below Φ T13 (mkF m 18 #[.val (.ref a1), .val (.ref ob2), .val (.ref ar), .val (.int (2 : Int32)), .val (.int (2 : Int32)), .val (.int v1)] [])
  refine own_go (fun _ => XS.iload X13.here hx rfl (hb hby d4_18) rfl) ?_
  show own_G p e below Φ T13 (mkF m 20 #[.val (.ref a1), .val (.ref ob2), .val (.ref ar), .val (.int (2 : Int32)), .val (.int (2 : Int32)), .val (.int v1)] [(.int (2 : Int32))])
  refine own_go (fun _ => XS.iloadN X13.here hx rfl (hb hby d4_20) rfl) ?_
  show own_G p e below Φ T13 (mkF m 21 #[.val (.ref a1), .val (.ref ob2), .val (.ref ar), .val (.int (2 : Int32)), .val (.int (2 : Int32)), .val (.int v1)] [(.int (2 : Int32)), (.int (2 : Int32))])
  refine own_go (fun _ => XS.icmpYes X13.here hx rfl (pc0 := 21) (pc' := 44) rfl (hb hby d4_21) rfl (Jvm.Free.XT.ii_ge_t (by decide : ¬ ((2 : Int32) < (2 : Int32)))) (by decide) (by decide)) ?_
  show own_G p e below Φ T13 (mkF m 44 #[.val (.ref a1), .val (.ref ob2), .val (.ref ar), .val (.int (2 : Int32)), .val (.int (2 : Int32)), .val (.int v1)] [])
  refine own_go (fun _ => XS.aloadN X13.here hx rfl (hb hby d4_44) rfl rfl) ?_
  show own_G p e below Φ T13 (mkF m 45 #[.val (.ref a1), .val (.ref ob2), .val (.ref ar), .val (.int (2 : Int32)), .val (.int (2 : Int32)), .val (.int v1)] [(.ref ob2)])
  rw [hΦ]
  refine own_ret X13 (v := some (.ref ob2)) (fun h => by rw [Bd.returns] at h; cases h) (BodyLoose.notSynchronized Bd) (fun fs hr => retOut X13 hx Bd.returns rfl (Or.inr (Or.inr (Or.inr (Or.inr ⟨rfl, rfl, rfl⟩)))) (hb hby d4_45) hr) ?_ (by decide) (by decide)
  rw [e13]
  exact ⟨ob2, sz_ob2, ka2, rfl, N13, K13, V13⟩
theorem ef_rmS3 (m : MethodId) (a1 : Addr) : entryFrame m #[(.ref a1)] 6 = mkF m 0 #[.val (.ref a1), .unset, .unset, .unset, .unset, .unset] [] := by first | (simp [entryFrame, mkF, argsToLocals, Value.category]; done) | rfl
def Q_rmS3 (Z : State) (a1 : Addr) (ar : Addr) (ka : ClassId) (cnt : Int32) (v0 : Int32) (v1 : Int32) (v2 : Int32) (h0 : Heap) (n0 : Nat) (v : Option Value) (h : Heap) (L : List Loc) : Prop := ∃ b : Addr, h0.size ≤ b ∧ ∃ kb : ClassId, v = some (.ref b) ∧ Fr n0 L ∧ Keep h0 h [] ∧ Arv Z h b kb .int cnt (own_vs (own_inc (own_inc (own_inc (own_zeros cnt) v0) v1) v2)) (.int (0 : Int32))
set_option maxRecDepth 65536 in
set_option maxHeartbeats 40000000 in
theorem rmS3 (l : Launch) (Z : State) (a0 : Array Value) (hw : ∀ d ∈ tables_1, d.before a0 Z = true) (ws : List Jvm.Cond) (a1 : Addr) (ar : Addr) (ka : ClassId) (cnt : Int32) (v0 : Int32) (v1 : Int32) (v2 : Int32) (h0 : Heap) (n0 : Nat) (Z0 : n0 ≤ h0.size) (F_m_nClassCount_a1 : Fld Z h0 a1 "com/example/edgewarden/edgewarden/graph/Likeness" "m_nClassCount" "I" (.int cnt)) (F_m_aClasses_a1 : Fld Z h0 a1 "com/example/edgewarden/edgewarden/graph/Likeness" "m_aClasses" "[I" (.ref ar)) (V_ar : Arv Z h0 ar ka .int (3 : Int32) [(.int v0), (.int v1), (.int v2)] (.int (0 : Int32))) (hc0 : ¬ cnt < 0) (hc5 : cnt.toNatClampNeg ≤ 5) (hv0 : ¬ v0 < 0 ∧ v0 < cnt) (hv1 : ¬ v1 < 0 ∧ v1 < cnt) (hv2 : ¬ v2 < 0 ∧ v2 < cnt) :
    MetFree l (⟨"com/example/edgewarden/edgewarden/graph/Likeness", "getClassSizes", "()[I"⟩ : MethodName) (head1 (Jvm.Cond.code (⟨"com/example/edgewarden/edgewarden/graph/Likeness", "getClassSizes", "()[I"⟩ : MethodName) prog_57_method_6_code 6 (some (.array .int)) :: ws) ({ frames := 0, cells := 1, slots := 5, locals := 0 } : Room)) (fun a U => a = #[(.ref a1)] ∧ Z.Warmed39 U.vm ∧ U.heap = h0) (fun _ _ _ _ _ => True) (fun _ U o U' => ∃ v L, o = .returned v ∧ Q_rmS3 Z a1 ar ka cnt v0 v1 v2 h0 n0 v U'.heap L ∧ FrameEnd U o U' L ({ frames := 0, cells := 1, slots := 5, locals := 0 } : Room).cells ({ frames := 0, cells := 1, slots := 5, locals := 0 } : Room).slots) := by
  refine MetFree.of_bodySF (plainFor_of_name pn_0) hisR ?_
  intro p e s m args below meth c s₁ Bd hml0 hP hK
  obtain ⟨rfl, hZ, hh⟩ := hP
  have hx := Bd.exec
  have hby := Bd.bytes
  have hml : c.maxLocals = 6 := hml0
  have hown : s.vm.findClass "com/example/edgewarden/edgewarden/graph/Likeness" = some m.cls := findClass_of_methodNamed Bd.named
  have hnm := (name_of_methodNamed Bd.named Bd.method).1
  have X0 : Stand p l e ({ frames := 0, cells := 1, slots := 5, locals := 0 } : Room) s m #[(.ref a1)] below meth c s₁ [] 0 0 := Stand.of_body Bd
  have e0 : s₁.heap = h0 := by rw [← hh, Bd.state]; rfl
  have N0 := Fr.nil n0
  have K0 : Keep h0 h0 [] := Keep.refl _ _
  suffices G0 : own_G p e below (own_E s below (Q_rmS3 Z a1 ar ka cnt v0 v1 v2 h0 n0) ({ frames := 0, cells := 1, slots := 5, locals := 0 } : Room).cells ({ frames := 0, cells := 1, slots := 5, locals := 0 } : Room).slots) s₁ (mkF m 0 #[.val (.ref a1), .unset, .unset, .unset, .unset, .unset] []) by
    obtain ⟨zt, zst, zo, zq1, zq2, zq3⟩ := G0
    exact ⟨zt, zo, castTop (ef_rmS3 m a1) zst, zq1, zq2, zq3⟩
  obtain ⟨Φ, hΦ⟩ : ∃ Φ, Φ = own_E s below (Q_rmS3 Z a1 ar ka cnt v0 v1 v2 h0 n0) ({ frames := 0, cells := 1, slots := 5, locals := 0 } : Room).cells ({ frames := 0, cells := 1, slots := 5, locals := 0 } : Room).slots := ⟨_, rfl⟩
  rw [← hΦ]
  show own_G p e below Φ s₁ (mkF m 0 #[.val (.ref a1), .unset, .unset, .unset, .unset, .unset] [])
  refine own_go (fun _ => XS.aloadN X0.here hx rfl (hb hby d4_0) rfl rfl) ?_
  show own_G p e below Φ s₁ (mkF m 1 #[.val (.ref a1), .unset, .unset, .unset, .unset, .unset] [(.ref a1)])
  obtain ⟨T1, X1, e1, st1⟩ := getF X0 hx hZ hown (host := "") (Or.inl (wd_17 hw)) Via.refl e0 F_m_nClassCount_a1 (g := (mkF m 1 #[.val (.ref a1), .unset, .unset, .unset, .unset, .unset] [(.ref a1)])) rfl rfl (hb hby d4_1)
  refine own_go st1 ?_
  show own_G p e below Φ T1 (mkF m 4 #[.val (.ref a1), .unset, .unset, .unset, .unset, .unset] [(.int cnt)])
  obtain ⟨T2, h2, ka2, X2, e2, E2, A2, st2⟩ := newP (aty := .int) X1 hx hZ (wd_5 hw) e1 (g := (mkF m 4 #[.val (.ref a1), .unset, .unset, .unset, .unset, .unset] [(.int cnt)])) rfl (hb hby d4_4) rfl hc0 (cap := 5) hc5 (by decide) (by decide) (by decide)
  obtain ⟨ob2, g2⟩ : ∃ z, z = h0.size := ⟨_, rfl⟩
  rw [← g2] at A2 st2
  have ne_a1_ob2 : a1 ≠ ob2 := Nat.ne_of_lt (Nat.lt_of_lt_of_le F_m_nClassCount_a1.lt (Nat.le_of_eq g2.symm))
  have ne_ar_ob2 : ar ≠ ob2 := Nat.ne_of_lt (Nat.lt_of_lt_of_le V_ar.lt (Nat.le_of_eq g2.symm))
  have V2 : Arv Z h2 ob2 ka2 .int cnt (own_vs (own_zeros cnt)) (.int (0 : Int32)) := (Arv.new A2 hc0).pad (own_pad _)
  have g_ob2 : n0 ≤ ob2 := Nat.le_trans Z0 (Nat.le_of_eq g2.symm)
  have sz_ob2 : h0.size ≤ ob2 := Nat.le_trans K0.1 (Nat.le_of_eq g2.symm)
  have K2 := K0.ext E2
  have Zp2 : n0 ≤ h2.size := Nat.le_trans Z0 E2.1
  refine own_go st2 ?_
  show own_G p e below Φ T2 (mkF m 6 #[.val (.ref a1), .unset, .unset, .unset, .unset, .unset] [(.ref ob2)])
  refine own_go (fun _ => XS.astoreN X2.here hx rfl (hb hby d4_6) rfl rfl (l' := #[.val (.ref a1), .val (.ref ob2), .unset, .unset, .unset, .unset]) rfl) ?_
  show own_G p e below Φ T2 (mkF m 7 #[.val (.ref a1), .val (.ref ob2), .unset, .unset, .unset, .unset] [])
  refine own_go (fun _ => XS.aloadN X2.here hx rfl (hb hby d4_7) rfl rfl) ?_
  show own_G p e below Φ T2 (mkF m 8 #[.val (.ref a1), .val (.ref ob2), .unset, .unset, .unset, .unset] [(.ref a1)])
  have f3 : Fld Z h2 a1 "com/example/edgewarden/edgewarden/graph/Likeness" "m_aClasses" "[I" (.ref ar) := F_m_aClasses_a1.ext E2
  obtain ⟨T4, X4, e4, st4⟩ := getF X2 hx hZ hown (host := "") (Or.inl (wd_15 hw)) Via.refl e2 f3 (g := (mkF m 8 #[.val (.ref a1), .val (.ref ob2), .unset, .unset, .unset, .unset] [(.ref a1)])) rfl rfl (hb hby d4_8)
  refine own_go st4 ?_
  show own_G p e below Φ T4 (mkF m 11 #[.val (.ref a1), .val (.ref ob2), .unset, .unset, .unset, .unset] [(.ref ar)])
  refine own_go (fun _ => XS.astoreN X4.here hx rfl (hb hby d4_11) rfl rfl (l' := #[.val (.ref a1), .val (.ref ob2), .val (.ref ar), .unset, .unset, .unset]) rfl) ?_
  show own_G p e below Φ T4 (mkF m 12 #[.val (.ref a1), .val (.ref ob2), .val (.ref ar), .unset, .unset, .unset] [])
  refine own_go (fun _ => XS.aloadN X4.here hx rfl (hb hby d4_12) rfl rfl) ?_
  show own_G p e below Φ T4 (mkF m 13 #[.val (.ref a1), .val (.ref ob2), .val (.ref ar), .unset, .unset, .unset] [(.ref ar)])
  have f5 : Arv Z h2 ar ka .int (3 : Int32) [(.int v0), (.int v1), (.int v2)] (.int (0 : Int32)) := V_ar.ext E2
  obtain ⟨cl6, Ar6, q6, S6, M6, H6, G6⟩ := id f5
  refine own_go (fun _ => X4.arraylength hx (by rw [e4]; exact Ar6.1) (State.isArrayOf_alike hZ.alike Ar6.2.1) (g := (mkF m 13 #[.val (.ref a1), .val (.ref ob2), .val (.ref ar), .unset, .unset, .unset] [(.ref ar)])) rfl rfl (hb hby d4_13) _) ?_
  rw [len_of S6 M6]
  show own_G p e below Φ T4 (mkF m 14 #[.val (.ref a1), .val (.ref ob2), .val (.ref ar), .unset, .unset, .unset] [(.int (3 : Int32))])
  refine own_go (fun _ => XS.istoreN X4.here hx rfl (hb hby d4_14) rfl (l' := #[.val (.ref a1), .val (.ref ob2), .val (.ref ar), .val (.int (3 : Int32)), .unset, .unset]) rfl) ?_
  show own_G p e below Φ T4 (mkF m 15 #[.val (.ref a1), .val (.ref ob2), .val (.ref ar), .val (.int (3 : Int32)), .unset, .unset] [])
  refine own_go (fun _ => XS.iconst X4.here hx rfl (hb hby d4_15)) ?_
  show own_G p e below Φ T4 (mkF m 16 #[.val (.ref a1), .val (.ref ob2), .val (.ref ar), .val (.int (3 : Int32)), .unset, .unset] [(.int (0 : Int32))])
  refine own_go (fun _ => XS.istore X4.here hx rfl (hb hby d4_16) rfl (l' := #[.val (.ref a1), .val (.ref ob2), .val (.ref ar), .val (.int (3 : Int32)), .val (.int (0 : Int32)), .unset]) rfl) ?_
  show own_G p e below Φ T4 (mkF m 18 #[.val (.ref a1), .val (.ref ob2), .val (.ref ar), .val (.int (3 : Int32)), .val (.int (0 : Int32)), .unset] [])
  refine own_go (fun _ => XS.iload X4.here hx rfl (hb hby d4_18) rfl) ?_
  show own_G p e below Φ T4 (mkF m 20 #[.val (.ref a1), .val (.ref ob2), .val (.ref ar), .val (.int (3 : Int32)), .val (.int (0 : Int32)), .unset] [(.int (0 : Int32))])
  refine own_go (fun _ => XS.iloadN X4.here hx rfl (hb hby d4_20) rfl) ?_
  show own_G p e below Φ T4 (mkF m 21 #[.val (.ref a1), .val (.ref ob2), .val (.ref ar), .val (.int (3 : Int32)), .val (.int (0 : Int32)), .unset] [(.int (3 : Int32)), (.int (0 : Int32))])
  refine own_go (fun _ => XS.icmpNo X4.here hx rfl (hb hby d4_21) rfl (Jvm.Free.XT.ii_ge_f (by decide : ((0 : Int32) < (3 : Int32))))) ?_
  show own_G p e below Φ T4 (mkF m 24 #[.val (.ref a1), .val (.ref ob2), .val (.ref ar), .val (.int (3 : Int32)), .val (.int (0 : Int32)), .unset] [])
  refine own_go (fun _ => XS.aloadN X4.here hx rfl (hb hby d4_24) rfl rfl) ?_
  show own_G p e below Φ T4 (mkF m 25 #[.val (.ref a1), .val (.ref ob2), .val (.ref ar), .val (.int (3 : Int32)), .val (.int (0 : Int32)), .unset] [(.ref ar)])
  refine own_go (fun _ => XS.iload X4.here hx rfl (hb hby d4_25) rfl) ?_
  show own_G p e below Φ T4 (mkF m 27 #[.val (.ref a1), .val (.ref ob2), .val (.ref ar), .val (.int (3 : Int32)), .val (.int (0 : Int32)), .unset] [(.int (0 : Int32)), (.ref ar)])
  obtain ⟨cl7, Ar7, q7, S7, M7, H7, G7⟩ := id f5
  have hin7 : ¬ ((0 : Int32) < 0 ∨ cl7.slots.size ≤ ((0 : Int32)).toNatClampNeg) := inb_of S7 ⟨by decide, by decide⟩
  refine own_go (fun _ => X4.iaload hx (j := (0 : Int32)) (v := (.int v0)) (by rw [e4]; exact Ar7.1) (State.isArrayOf_alike hZ.alike Ar7.2.1) Ar7.2.2 hin7 (H7.at hin7 rfl) (g := (mkF m 27 #[.val (.ref a1), .val (.ref ob2), .val (.ref ar), .val (.int (3 : Int32)), .val (.int (0 : Int32)), .unset] [(.int (0 : Int32)), (.ref ar)])) rfl rfl (hb hby d4_27) _) ?_
  show own_G p e below Φ T4 (mkF m 28 #[.val (.ref a1), .val (.ref ob2), .val (.ref ar), .val (.int (3 : Int32)), .val (.int (0 : Int32)), .unset] [(.int v0)])
  refine own_go (fun _ => XS.istore X4.here hx rfl (hb hby d4_28) rfl (l' := #[.val (.ref a1), .val (.ref ob2), .val (.ref ar), .val (.int (3 : Int32)), .val (.int (0 : Int32)), .val (.int v0)]) rfl) ?_
  show own_G p e below Φ T4 (mkF m 30 #[.val (.ref a1), .val (.ref ob2), .val (.ref ar), .val (.int (3 : Int32)), .val (.int (0 : Int32)), .val (.int v0)] [])
  refine own_go (fun _ => XS.aloadN X4.here hx rfl (hb hby d4_30) rfl rfl) ?_
  show own_G p e below Φ T4 (mkF m 31 #[.val (.ref a1), .val (.ref ob2), .val (.ref ar), .val (.int (3 : Int32)), .val (.int (0 : Int32)), .val (.int v0)] [(.ref ob2)])
  refine own_go (fun _ => XS.iload X4.here hx rfl (hb hby d4_31) rfl) ?_
  show own_G p e below Φ T4 (mkF m 33 #[.val (.ref a1), .val (.ref ob2), .val (.ref ar), .val (.int (3 : Int32)), .val (.int (0 : Int32)), .val (.int v0)] [(.int v0), (.ref ob2)])
  refine own_go (fun _ => Jvm.Free.XT.dup2 X4.here hx rfl (hb hby d4_33) rfl rfl rfl) ?_
  show own_G p e below Φ T4 (mkF m 34 #[.val (.ref a1), .val (.ref ob2), .val (.ref ar), .val (.int (3 : Int32)), .val (.int (0 : Int32)), .val (.int v0)] [(.int v0), (.ref ob2), (.int v0), (.ref ob2)])
  obtain ⟨cl8, Ar8, q8, S8, M8, H8, G8⟩ := id V2
  have hin8 : ¬ (v0 < 0 ∨ cl8.slots.size ≤ (v0).toNatClampNeg) := inb_of S8 hv0
  refine own_go (fun _ => X4.iaload hx (j := v0) (v := (.int ((own_zeros cnt).getD v0.toNatClampNeg 0))) (by rw [e4]; exact Ar8.1) (State.isArrayOf_alike hZ.alike Ar8.2.1) Ar8.2.2 hin8 (H8.at hin8 (own_vs_at _ _)) (g := (mkF m 34 #[.val (.ref a1), .val (.ref ob2), .val (.ref ar), .val (.int (3 : Int32)), .val (.int (0 : Int32)), .val (.int v0)] [(.int v0), (.ref ob2), (.int v0), (.ref ob2)])) rfl rfl (hb hby d4_34) _) ?_
  show own_G p e below Φ T4 (mkF m 35 #[.val (.ref a1), .val (.ref ob2), .val (.ref ar), .val (.int (3 : Int32)), .val (.int (0 : Int32)), .val (.int v0)] [(.int ((own_zeros cnt).getD v0.toNatClampNeg 0)), (.int v0), (.ref ob2)])
  refine own_go (fun _ => XS.iconst X4.here hx rfl (hb hby d4_35)) ?_
  show own_G p e below Φ T4 (mkF m 36 #[.val (.ref a1), .val (.ref ob2), .val (.ref ar), .val (.int (3 : Int32)), .val (.int (0 : Int32)), .val (.int v0)] [(.int (1 : Int32)), (.int ((own_zeros cnt).getD v0.toNatClampNeg 0)), (.int v0), (.ref ob2)])
  refine own_go (fun _ => XS.iadd X4.here hx rfl (hb hby d4_36) rfl) ?_
  show own_G p e below Φ T4 (mkF m 37 #[.val (.ref a1), .val (.ref ob2), .val (.ref ar), .val (.int (3 : Int32)), .val (.int (0 : Int32)), .val (.int v0)] [(.int (((own_zeros cnt).getD v0.toNatClampNeg 0) + (1 : Int32))), (.int v0), (.ref ob2)])
  obtain ⟨cl9, Ar9, q9, S9, M9, H9, G9⟩ := id V2
  have hin9 : ¬ (v0 < 0 ∨ cl9.slots.size ≤ (v0).toNatClampNeg) := inb_of S9 hv0
  obtain ⟨T9, h9, X9, e9, W9, st9⟩ := stI X4 hx hZ e4 Ar9 (j := v0) hin9 (g := (mkF m 37 #[.val (.ref a1), .val (.ref ob2), .val (.ref ar), .val (.int (3 : Int32)), .val (.int (0 : Int32)), .val (.int v0)] [(.int (((own_zeros cnt).getD v0.toNatClampNeg 0) + (1 : Int32))), (.int v0), (.ref ob2)])) rfl rfl (hb hby d4_37)
  refine own_go st9 ?_
  have V9 : Arv Z h9 ob2 ka2 .int cnt (own_vs (own_inc (own_zeros cnt) v0)) (.int (0 : Int32)) := own_vs_set _ _ _ ▸ Arv.set Ar9 q9 S9 M9 H9 G9 rfl W9 _ rfl (by simp only [own_vs_len, own_inc_len, own_zeros_len]; exact own_clamp hv0)
  have N9 := Fr.snoc X9 N0 g_ob2
  have K9 := K2.wr W9 (Or.inr sz_ob2)
  have Zp9 : n0 ≤ h9.size := Nat.le_trans Zp2 (Keep.of_wr W9).1
  show own_G p e below Φ T9 (mkF m 38 #[.val (.ref a1), .val (.ref ob2), .val (.ref ar), .val (.int (3 : Int32)), .val (.int (0 : Int32)), .val (.int v0)] [])
  refine own_go (fun _ => XS.iinc X9.here hx rfl (hb hby d4_38) rfl (l' := #[.val (.ref a1), .val (.ref ob2), .val (.ref ar), .val (.int (3 : Int32)), .val (.int (1 : Int32)), .val (.int v0)]) rfl) ?_
  show own_G p e below Φ T9 (mkF m 41 #[.val (.ref a1), .val (.ref ob2), .val (.ref ar), .val (.int (3 : Int32)), .val (.int (1 : Int32)), .val (.int v0)] [])
  refine own_go (fun _ => XS.goto X9.here hx rfl (pc0 := 41) (pc' := 18) rfl (hb hby d4_41) (by decide) (by decide)) ?_
  show own_G p e below Φ T9 (mkF m 18 #[.val (.ref a1), .val (.ref ob2), .val (.ref ar), .val (.int (3 : Int32)), .val (.int (1 : Int32)), .val (.int v0)] [])
  refine own_go (fun _ => XS.iload X9.here hx rfl (hb hby d4_18) rfl) ?_
  show own_G p e below Φ T9 (mkF m 20 #[.val (.ref a1), .val (.ref ob2), .val (.ref ar), .val (.int (3 : Int32)), .val (.int (1 : Int32)), .val (.int v0)] [(.int (1 : Int32))])
  refine own_go (fun _ => XS.iloadN X9.here hx rfl (hb hby d4_20) rfl) ?_
  show own_G p e below Φ T9 (mkF m 21 #[.val (.ref a1), .val (.ref ob2), .val (.ref ar), .val (.int (3 : Int32)), .val (.int (1 : Int32)), .val (.int v0)] [(.int (3 : Int32)), (.int (1 : Int32))])
  refine own_go (fun _ => XS.icmpNo X9.here hx rfl (hb hby d4_21) rfl (Jvm.Free.XT.ii_ge_f (by decide : ((1 : Int32) < (3 : Int32))))) ?_
  show own_G p e below Φ T9 (mkF m 24 #[.val (.ref a1), .val (.ref ob2), .val (.ref ar), .val (.int (3 : Int32)), .val (.int (1 : Int32)), .val (.int v0)] [])
  refine own_go (fun _ => XS.aloadN X9.here hx rfl (hb hby d4_24) rfl rfl) ?_
  show own_G p e below Φ T9 (mkF m 25 #[.val (.ref a1), .val (.ref ob2), .val (.ref ar), .val (.int (3 : Int32)), .val (.int (1 : Int32)), .val (.int v0)] [(.ref ar)])
  refine own_go (fun _ => XS.iload X9.here hx rfl (hb hby d4_25) rfl) ?_
  show own_G p e below Φ T9 (mkF m 27 #[.val (.ref a1), .val (.ref ob2), .val (.ref ar), .val (.int (3 : Int32)), .val (.int (1 : Int32)), .val (.int v0)] [(.int (1 : Int32)), (.ref ar)])
  have f10 : Arv Z h9 ar ka .int (3 : Int32) [(.int v0), (.int v1), (.int v2)] (.int (0 : Int32)) := f5.other W9 ne_ar_ob2
  obtain ⟨cl11, Ar11, q11, S11, M11, H11, G11⟩ := id f10
  have hin11 : ¬ ((1 : Int32) < 0 ∨ cl11.slots.size ≤ ((1 : Int32)).toNatClampNeg) := inb_of S11 ⟨by decide, by decide⟩
  refine own_go (fun _ => X9.iaload hx (j := (1 : Int32)) (v := (.int v1)) (by rw [e9]; exact Ar11.1) (State.isArrayOf_alike hZ.alike Ar11.2.1) Ar11.2.2 hin11 (H11.at hin11 rfl) (g := (mkF m 27 #[.val (.ref a1), .val (.ref ob2), .val (.ref ar), .val (.int (3 : Int32)), .val (.int (1 : Int32)), .val (.int v0)] [(.int (1 : Int32)), (.ref ar)])) rfl rfl (hb hby d4_27) _) ?_
  show own_G p e below Φ T9 (mkF m 28 #[.val (.ref a1), .val (.ref ob2), .val (.ref ar), .val (.int (3 : Int32)), .val (.int (1 : Int32)), .val (.int v0)] [(.int v1)])
  refine own_go (fun _ => XS.istore X9.here hx rfl (hb hby d4_28) rfl (l' := #[.val (.ref a1), .val (.ref ob2), .val (.ref ar), .val (.int (3 : Int32)), .val (.int (1 : Int32)), .val (.int v1)]) rfl) ?_
  show own_G p e below Φ T9 (mkF m 30 #[.val (.ref a1), .val (.ref ob2), .val (.ref ar), .val (.int (3 : Int32)), .val (.int (1 : Int32)), .val (.int v1)] [])
  refine own_go (fun _ => XS.aloadN X9.here hx rfl (hb hby d4_30) rfl rfl) ?_
  show own_G p e below Φ T9 (mkF m 31 #[.val (.ref a1), .val (.ref ob2), .val (.ref ar), .val (.int (3 : Int32)), .val (.int (1 : Int32)), .val (.int v1)] [(.ref ob2)])
  refine own_go (fun _ => XS.iload X9.here hx rfl (hb hby d4_31) rfl) ?_
  show own_G p e below Φ T9 (mkF m 33 #[.val (.ref a1), .val (.ref ob2), .val (.ref ar), .val (.int (3 : Int32)), .val (.int (1 : Int32)), .val (.int v1)] [(.int v1), (.ref ob2)])
  refine own_go (fun _ => Jvm.Free.XT.dup2 X9.here hx rfl (hb hby d4_33) rfl rfl rfl) ?_
  show own_G p e below Φ T9 (mkF m 34 #[.val (.ref a1), .val (.ref ob2), .val (.ref ar), .val (.int (3 : Int32)), .val (.int (1 : Int32)), .val (.int v1)] [(.int v1), (.ref ob2), (.int v1), (.ref ob2)])
  obtain ⟨cl12, Ar12, q12, S12, M12, H12, G12⟩ := id V9
  have hin12 : ¬ (v1 < 0 ∨ cl12.slots.size ≤ (v1).toNatClampNeg) := inb_of S12 hv1
  refine own_go (fun _ => X9.iaload hx (j := v1) (v := (.int ((own_inc (own_zeros cnt) v0).getD v1.toNatClampNeg 0))) (by rw [e9]; exact Ar12.1) (State.isArrayOf_alike hZ.alike Ar12.2.1) Ar12.2.2 hin12 (H12.at hin12 (own_vs_at _ _)) (g := (mkF m 34 #[.val (.ref a1), .val (.ref ob2), .val (.ref ar), .val (.int (3 : Int32)), .val (.int (1 : Int32)), .val (.int v1)] [(.int v1), (.ref ob2), (.int v1), (.ref ob2)])) rfl rfl (hb hby d4_34) _) ?_
  show own_G p e below Φ T9 (mkF m 35 #[.val (.ref a1), .val (.ref ob2), .val (.ref ar), .val (.int (3 : Int32)), .val (.int (1 : Int32)), .val (.int v1)] [(.int ((own_inc (own_zeros cnt) v0).getD v1.toNatClampNeg 0)), (.int v1), (.ref ob2)])
  refine own_go (fun _ => XS.iconst X9.here hx rfl (hb hby d4_35)) ?_
  show own_G p e below Φ T9 (mkF m 36 #[.val (.ref a1), .val (.ref ob2), .val (.ref ar), .val (.int (3 : Int32)), .val (.int (1 : Int32)), .val (.int v1)] [(.int (1 : Int32)), (.int ((own_inc (own_zeros cnt) v0).getD v1.toNatClampNeg 0)), (.int v1), (.ref ob2)])
  refine own_go (fun _ => XS.iadd X9.here hx rfl (hb hby d4_36) rfl) ?_
  show own_G p e below Φ T9 (mkF m 37 #[.val (.ref a1), .val (.ref ob2), .val (.ref ar), .val (.int (3 : Int32)), .val (.int (1 : Int32)), .val (.int v1)] [(.int (((own_inc (own_zeros cnt) v0).getD v1.toNatClampNeg 0) + (1 : Int32))), (.int v1), (.ref ob2)])
  obtain ⟨cl13, Ar13, q13, S13, M13, H13, G13⟩ := id V9
  have hin13 : ¬ (v1 < 0 ∨ cl13.slots.size ≤ (v1).toNatClampNeg) := inb_of S13 hv1
  obtain ⟨T13, h13, X13, e13, W13, st13⟩ := stI X9 hx hZ e9 Ar13 (j := v1) hin13 (g := (mkF m 37 #[.val (.ref a1), .val (.ref ob2), .val (.ref ar), .val (.int (3 : Int32)), .val (.int (1 : Int32)), .val (.int v1)] [(.int (((own_inc (own_zeros cnt) v0).getD v1.toNatClampNeg 0) + (1 : Int32))), (.int v1), (.ref ob2)])) rfl rfl (hb hby d4_37)
  refine own_go st13 ?_
  have V13 : Arv Z h13 ob2 ka2 .int cnt (own_vs (own_inc (own_inc (own_zeros cnt) v0) v1)) (.int (0 : Int32)) := own_vs_set _ _ _ ▸ Arv.set Ar13 q13 S13 M13 H13 G13 rfl W13 _ rfl (by simp only [own_vs_len, own_inc_len, own_zeros_len]; exact own_clamp hv1)
  have N13 := Fr.snoc X13 N9 g_ob2
  have K13 := K9.wr W13 (Or.inr sz_ob2)
  have Zp13 : n0 ≤ h13.size := Nat.le_trans Zp9 (Keep.of_wr W13).1
  show own_G p e below Φ T13 (mkF m 38 #[.val (.ref a1), .val (.ref ob2), .val (.ref ar), .val (.int (3 : Int32)), .val (.int (1 : Int32)), .val (.int v1)] [])
  refine own_go (fun _ => XS.iinc X13.here hx rfl (hb hby d4_38) rfl (l' := #[.val (.ref a1), .val (.ref ob2), .val (.ref ar), .val (.int (3 : Int32)), .val (.int (2 : Int32)), .val (.int v1)]) rfl) ?_
  show own_G p e below Φ T13 (mkF m 41 #[.val (.ref a1), .val (.ref ob2), .val (.ref ar), .val (.int (3 : Int32)), .val (.int (2 : Int32)), .val (.int v1)] [])
  refine own_go (fun _ => XS.goto X13.here hx rfl (pc0 := 41) (pc' := 18) rfl (hb hby d4_41) (by decide) (by decide)) ?_
  show own_G p e below Φ T13 (mkF m 18 #[.val (.ref a1), .val (.ref ob2), .val (.ref ar), .val (.int (3 : Int32)), .val (.int (2 : Int32)), .val (.int v1)] [])
  refine own_go (fun _ => XS.iload X13.here hx rfl (hb hby d4_18) rfl) ?_
  show own_G p e below Φ T13 (mkF m 20 #[.val (.ref a1), .val (.ref ob2), .val (.ref ar), .val (.int (3 : Int32)), .val (.int (2 : Int32)), .val (.int v1)] [(.int (2 : Int32))])
  refine own_go (fun _ => XS.iloadN X13.here hx rfl (hb hby d4_20) rfl) ?_
  show own_G p e below Φ T13 (mkF m 21 #[.val (.ref a1), .val (.ref ob2), .val (.ref ar), .val (.int (3 : Int32)), .val (.int (2 : Int32)), .val (.int v1)] [(.int (3 : Int32)), (.int (2 : Int32))])
  refine own_go (fun _ => XS.icmpNo X13.here hx rfl (hb hby d4_21) rfl (Jvm.Free.XT.ii_ge_f (by decide : ((2 : Int32) < (3 : Int32))))) ?_
  show own_G p e below Φ T13 (mkF m 24 #[.val (.ref a1), .val (.ref ob2), .val (.ref ar), .val (.int (3 : Int32)), .val (.int (2 : Int32)), .val (.int v1)] [])
  refine own_go (fun _ => XS.aloadN X13.here hx rfl (hb hby d4_24) rfl rfl) ?_
  show own_G p e below Φ T13 (mkF m 25 #[.val (.ref a1), .val (.ref ob2), .val (.ref ar), .val (.int (3 : Int32)), .val (.int (2 : Int32)), .val (.int v1)] [(.ref ar)])
  refine own_go (fun _ => XS.iload X13.here hx rfl (hb hby d4_25) rfl) ?_
  show own_G p e below Φ T13 (mkF m 27 #[.val (.ref a1), .val (.ref ob2), .val (.ref ar), .val (.int (3 : Int32)), .val (.int (2 : Int32)), .val (.int v1)] [(.int (2 : Int32)), (.ref ar)])
  have f14 : Arv Z h13 ar ka .int (3 : Int32) [(.int v0), (.int v1), (.int v2)] (.int (0 : Int32)) := f10.other W13 ne_ar_ob2
  obtain ⟨cl15, Ar15, q15, S15, M15, H15, G15⟩ := id f14
  have hin15 : ¬ ((2 : Int32) < 0 ∨ cl15.slots.size ≤ ((2 : Int32)).toNatClampNeg) := inb_of S15 ⟨by decide, by decide⟩
  refine own_go (fun _ => X13.iaload hx (j := (2 : Int32)) (v := (.int v2)) (by rw [e13]; exact Ar15.1) (State.isArrayOf_alike hZ.alike Ar15.2.1) Ar15.2.2 hin15 (H15.at hin15 rfl) (g := (mkF m 27 #[.val (.ref a1), .val (.ref ob2), .val (.ref ar), .val (.int (3 : Int32)), .val (.int (2 : Int32)), .val (.int v1)] [(.int (2 : Int32)), (.ref ar)])) rfl rfl (hb hby d4_27) _) ?_
  show own_G p e below Φ T13 (mkF m 28 #[.val (.ref a1), .val (.ref ob2), .val (.ref ar), .val (.int (3 : Int32)), .val (.int (2 : Int32)), .val (.int v1)] [(.int v2)])
  refine own_go (fun _ => XS.istore X13.here hx rfl (hb hby d4_28) rfl (l' := #[.val (.ref a1), .val (.ref ob2), .val (.ref ar), .val (.int (3 : Int32)), .val (.int (2 : Int32)), .val (.int v2)]) rfl) ?_
  show own_G p e below Φ T13 (mkF m 30 #[.val (.ref a1), .val (.ref ob2), .val (.ref ar), .val (.int (3 : Int32)), .val (.int (2 : Int32)), .val (.int v2)] [])
  refine own_go (fun _ => XS.aloadN X13.here hx rfl (hb hby d4_30) rfl rfl) ?_
  show own_G p e below Φ T13 (mkF m 31 #[.val (.ref a1), .val (.ref ob2), .val (.ref ar), .val (.int (3 : Int32)), .val (.int (2 : Int32)), .val (.int v2)] [(.ref ob2)])
  refine own_go (fun _ => XS.iload X13.here hx rfl (hb hby d4_31) rfl) ?_
  show own_G p e below Φ T13 (mkF m 33 #[.val (.ref a1), .val (.ref ob2), .val (.ref ar), .val (.int (3 : Int32)), .val (.int (2 : Int32)), .val (.int v2)] [(.int v2), (.ref ob2)])
  refine own_go (fun _ => Jvm.Free.XT.dup2 X13.here hx rfl (hb hby d4_33) rfl rfl rfl) ?_
  show own_G p e below Φ T13 (mkF m 34 #[.val (.ref a1), .val (.ref ob2), .val (.ref ar), .val (.int (3 : Int32)), .val (.int (2 : Int32)), .val (.int v2)] [(.int v2), (.ref ob2), (.int v2), (.ref ob2)])
  obtain ⟨cl16, Ar16, q16, S16, M16, H16, G16⟩ := id V13
  have hin16 : ¬ (v2 < 0 ∨ cl16.slots.size ≤ (v2).toNatClampNeg) := inb_of S16 hv2
  refine own_go (fun _ => X13.iaload hx (j := v2) (v := (.int ((own_inc (own_inc (own_zeros cnt) v0) v1).getD v2.toNatClampNeg 0))) (by rw [e13]; exact Ar16.1) (State.isArrayOf_alike hZ.alike Ar16.2.1) Ar16.2.2 hin16 (H16.at hin16 (own_vs_at _ _)) (g := (mkF m 34 #[.val (.ref a1), .val (.ref ob2), .val (.ref ar), .val (.int (3 : Int32)), .val (.int (2 : Int32)), .val (.int v2)] [(.int v2), (.ref ob2), (.int v2), (.ref ob2)])) rfl rfl (hb hby d4_34) _) ?_
  show own_G p e below Φ T13 (mkF m 35 #[.val (.ref a1), .val (.ref ob2), .val (.ref ar), .val (.int (3 : Int32)), .val (.int (2 : Int32)), .val (.int v2)] [(.int ((own_inc (own_inc (own_zeros cnt) v0) v1).getD v2.toNatClampNeg 0)), (.int v2), (.ref ob2)])
  refine own_go (fun _ => XS.iconst X13.here hx rfl (hb hby d4_35)) ?_
  show own_G p e below Φ T13 (mkF m 36 #[.val (.ref a1), .val (.ref ob2), .val (.ref ar), .val (.int (3 : Int32)), .val (.int (2 : Int32)), .val (.int v2)] [(.int (1 : Int32)), (.int ((own_inc (own_inc (own_zeros cnt) v0) v1).getD v2.toNatClampNeg 0)), (.int v2), (.ref ob2)])
  refine own_go (fun _ => XS.iadd X13.here hx rfl (hb hby d4_36) rfl) ?_
  show own_G p e below Φ T13 (mkF m 37 #[.val (.ref a1), .val (.ref ob2), .val (.ref ar), .val (.int (3 : Int32)), .val (.int (2 : Int32)), .val (.int v2)] [(.int (((own_inc (own_inc (own_zeros cnt) v0) v1).getD v2.toNatClampNeg 0) + (1 : Int32))), (.int v2), (.ref ob2)])
  obtain ⟨cl17, Ar17, q17, S17, M17, H17, G17⟩ := id V13
  have hin17 : ¬ (v2 < 0 ∨ cl17.slots.size ≤ (v2).toNatClampNeg) := inb_of S17 hv2
  obtain ⟨T17, h17, X17, e17, W17, st17⟩ := stI X13 hx hZ e13 Ar17 (j := v2) hin17 (g := (mkF m 37 #[.val (.ref a1), .val (.ref ob2), .val (.ref ar), .val (.int (3 : Int32)), .val (.int (2 : Int32)), .val (.int v2)] [(.int (((own_inc (own_inc (own_zeros cnt) v0) v1).getD v2.toNatClampNeg 0) + (1 : Int32))), (.int v2), (.ref ob2)])) rfl rfl (hb hby d4_37)
  refine own_go st17 ?_
  have V17 : Arv Z h17 ob2 ka2 .int cnt (own_vs (own_inc (own_inc (own_inc (own_zeros cnt) v0) v1) v2)) (.int (0 : Int32)) := own_vs_set _ _ _ ▸ Arv.set Ar17 q17 S17 M17 H17 G17 rfl W17 _ rfl (by simp only [own_vs_len, own_inc_len, own_zeros_len]; exact own_clamp hv2)
  have N17 := Fr.snoc X17 N13 g_ob2
  have K17 := K13.wr W17 (Or.inr sz_ob2)
  have Zp17 : n0 ≤ h17.size := Nat.le_trans Zp13 (Keep.of_wr W17).1
  show own_G p e below Φ T17 (mkF m 38 #[.val (.ref a1), .val (.ref ob2), .val (.ref ar), .val (.int (3 : Int32)), .val (.int (2 : Int32)), .val (.int v2)] [])
  refine own_go (fun _ => XS.iinc X17.here hx rfl (hb hby d4_38) rfl (l' := #[.val (.ref a1), .val (.ref ob2), .val (.ref ar), .val (.int (3 : Int32)), .val (.int (3 : Int32)), .val (.int v2)]) rfl) ?_
  show own_G p e below Φ T17 (mkF m 41 #[.val (.ref a1), .val (.ref ob2), .val (.ref ar), .val (.int (3 : Int32)), .val (.int (3 : Int32)), .val (.int v2)] [])
  refine own_go (fun _ => XS.goto X17.here hx rfl (pc0 := 41) (pc' := 18) rfl (hb hby d4_41) (by decide) (by decide)) ?_
  show own_G p e below Φ T17 (mkF m 18 #[.val (.ref a1), .val (.ref ob2), .val (.ref ar), .val (.int (3 : Int32)), .val (.int (3 : Int32)), .val (.int v2)] [])
  refine own_go (fun _ => XS.iload X17.here hx rfl (hb hby d4_18) rfl) ?_
  show own_G p e below Φ T17 (mkF m 20 #[.val (.ref a1), .val (.ref ob2), .val (.ref ar), .val (.int (3 : Int32)), .val (.int (3 : Int32)), .val (.int v2)] [(.int (3 : Int32))])
  refine own_go (fun _ => XS.iloadN X17.here hx rfl (hb hby d4_20) rfl) ?_
  show own_G p e below Φ T17 (mkF m 21 #[.val (.ref a1), .val (.ref ob2), .val (.ref ar), .val (.int (3 : Int32)), .val (.int (3 : Int32)), .val (.int v2)] [(.int (3 : Int32)), (.int (3 : Int32))])
  refine own_go (fun _ => XS.icmpYes X17.here hx rfl (pc0 := 21) (pc' := 44) rfl (hb hby d4_21) rfl (Jvm.Free.XT.ii_ge_t (by decide : ¬ ((3 : Int32) < (3 : Int32)))) (by decide) (by decide)) ?_
  show own_G p e below Φ T17 (mkF m 44 #[.val (.ref a1), .val (.ref ob2), .val (.ref ar), .val (.int (3 : Int32)), .val (.int (3 : Int32)), .val (.int v2)] [])
  refine own_go (fun _ => XS.aloadN X17.here hx rfl (hb hby d4_44) rfl rfl) ?_
  show own_G p e below Φ T17 (mkF m 45 #[.val (.ref a1), .val (.ref ob2), .val (.ref ar), .val (.int (3 : Int32)), .val (.int (3 : Int32)), .val (.int v2)] [(.ref ob2)])
  rw [hΦ]
  refine own_ret X17 (v := some (.ref ob2)) (fun h => by rw [Bd.returns] at h; cases h) (BodyLoose.notSynchronized Bd) (fun fs hr => retOut X17 hx Bd.returns rfl (Or.inr (Or.inr (Or.inr (Or.inr ⟨rfl, rfl, rfl⟩)))) (hb hby d4_45) hr) ?_ (by decide) (by decide)
  rw [e17]
  exact ⟨ob2, sz_ob2, ka2, rfl, N17, K17, V17⟩
theorem ef_rmS4 (m : MethodId) (a1 : Addr) : entryFrame m #[(.ref a1)] 6 = mkF m 0 #[.val (.ref a1), .unset, .unset, .unset, .unset, .unset] [] := by first | (simp [entryFrame, mkF, argsToLocals, Value.category]; done) | rfl
def Q_rmS4 (Z : State) (a1 : Addr) (ar : Addr) (ka : ClassId) (cnt : Int32) (v0 : Int32) (v1 : Int32) (v2 : Int32) (v3 : Int32) (h0 : Heap) (n0 : Nat) (v : Option Value) (h : Heap) (L : List Loc) : Prop := ∃ b : Addr, h0.size ≤ b ∧ ∃ kb : ClassId, v = some (.ref b) ∧ Fr n0 L ∧ Keep h0 h [] ∧ Arv Z h b kb .int cnt (own_vs (own_inc (own_inc (own_inc (own_inc (own_zeros cnt) v0) v1) v2) v3)) (.int (0 : Int32))
set_option maxRecDepth 65536 in
set_option maxHeartbeats 40000000 in
theorem rmS4 (l : Launch) (Z : State) (a0 : Array Value) (hw : ∀ d ∈ tables_1, d.before a0 Z = true) (ws : List Jvm.Cond) (a1 : Addr) (ar : Addr) (ka : ClassId) (cnt : Int32) (v0 : Int32) (v1 : Int32) (v2 : Int32) (v3 : Int32) (h0 : Heap) (n0 : Nat) (Z0 : n0 ≤ h0.size) (F_m_nClassCount_a1 : Fld Z h0 a1 "com/example/edgewarden/edgewarden/graph/Likeness" "m_nClassCount" "I" (.int cnt)) (F_m_aClasses_a1 : Fld Z h0 a1 "com/example/edgewarden/edgewarden/graph/Likeness" "m_aClasses" "[I" (.ref ar)) (V_ar : Arv Z h0 ar ka .int (4 : Int32) [(.int v0), (.int v1), (.int v2), (.int v3)] (.int (0 : Int32))) (hc0 : ¬ cnt < 0) (hc5 : cnt.toNatClampNeg ≤ 5) (hv0 : ¬ v0 < 0 ∧ v0 < cnt) (hv1 : ¬ v1 < 0 ∧ v1 < cnt) (hv2 : ¬ v2 < 0 ∧ v2 < cnt) (hv3 : ¬ v3 < 0 ∧ v3 < cnt) :
    MetFree l (⟨"com/example/edgewarden/edgewarden/graph/Likeness", "getClassSizes", "()[I"⟩ : MethodName) (head1 (Jvm.Cond.code (⟨"com/example/edgewarden/edgewarden/graph/Likeness", "getClassSizes", "()[I"⟩ : MethodName) prog_57_method_6_code 6 (some (.array .int)) :: ws) ({ frames := 0, cells := 1, slots := 5, locals := 0 } : Room)) (fun a U => a = #[(.ref a1)] ∧ Z.Warmed39 U.vm ∧ U.heap = h0) (fun _ _ _ _ _ => True) (fun _ U o U' => ∃ v L, o = .returned v ∧ Q_rmS4 Z a1 ar ka cnt v0 v1 v2 v3 h0 n0 v U'.heap L ∧ FrameEnd U o U' L ({ frames := 0, cells := 1, slots := 5, locals := 0 } : Room).cells ({ frames := 0, cells := 1, slots := 5, locals := 0 } : Room).slots) := by
  refine MetFree.of_bodySF (plainFor_of_name pn_0) hisR ?_
  intro p e s m args below meth c s₁ Bd hml0 hP hK
  obtain ⟨rfl, hZ, hh⟩ := hP
  have hx := Bd.exec
  have hby := Bd.bytes
  have hml : c.maxLocals = 6 := hml0
  have hown : s.vm.findClass "com/example/edgewarden/edgewarden/graph/Likeness" = some m.cls := findClass_of_methodNamed Bd.named
  have hnm := (name_of_methodNamed Bd.named Bd.method).1
  have X0 : Stand p l e ({ frames := 0, cells := 1, slots := 5, locals := 0 } : Room) s m #[(.ref a1)] below meth c s₁ [] 0 0 := Stand.of_body Bd
  have e0 : s₁.heap = h0 := by rw [← hh, Bd.state]; rfl
  have N0 := Fr.nil n0
  have K0 : Keep h0 h0 [] := Keep.refl _ _
  suffices G0 : own_G p e below (own_E s below (Q_rmS4 Z a1 ar ka cnt v0 v1 v2 v3 h0 n0) ({ frames := 0, cells := 1, slots := 5, locals := 0 } : Room).cells ({ frames := 0, cells := 1, slots := 5, locals := 0 } : Room).slots) s₁ (mkF m 0 #[.val (.ref a1), .unset, .unset, .unset, .unset, .unset] []) by
    obtain ⟨zt, zst, zo, zq1, zq2, zq3⟩ := G0
    exact ⟨zt, zo, castTop (ef_rmS4 m a1) zst, zq1, zq2, zq3⟩
  obtain ⟨Φ, hΦ⟩ : ∃ Φ, Φ = own_E s below (Q_rmS4 Z a1 ar ka cnt v0 v1 v2 v3 h0 n0) ({ frames := 0, cells := 1, slots := 5, locals := 0 } : Room).cells ({ frames := 0, cells := 1, slots := 5, locals := 0 } : Room).slots := ⟨_, rfl⟩
  rw [← hΦ]
  show own_G p e below Φ s₁ (mkF m 0 #[.val (.ref a1), .unset, .unset, .unset, .unset, .unset] [])
  refine own_go (fun _ => XS.aloadN X0.here hx rfl (hb hby d4_0) rfl rfl) ?_
  show own_G p e below Φ s₁ (mkF m 1 #[.val (.ref a1), .unset, .unset, .unset, .unset, .unset] [(.ref a1)])
  obtain ⟨T1, X1, e1, st1⟩ := getF X0 hx hZ hown (host := "") (Or.inl (wd_17 hw)) Via.refl e0 F_m_nClassCount_a1 (g := (mkF m 1 #[.val (.ref a1), .unset, .unset, .unset, .unset, .unset] [(.ref a1)])) rfl rfl (hb hby d4_1)
  refine own_go st1 ?_
  show own_G p e below Φ T1 (mkF m 4 #[.val (.ref a1), .unset, .unset, .unset, .unset, .unset] [(.int cnt)])
  obtain ⟨T2, h2, ka2, X2, e2, E2, A2, st2⟩ := newP (aty := .int) X1 hx hZ (wd_5 hw) e1 (g := (mkF m 4 #[.val (.ref a1), .unset, .unset, .unset, .unset, .unset] [(.int cnt)])) rfl (hb hby d4_4) rfl hc0 (cap := 5) hc5 (by decide) (by decide) (by decide)
  obtain ⟨ob2, g2⟩ : ∃ z, z = h0.size := ⟨_, rfl⟩
  rw [← g2] at A2 st2
  have ne_a1_ob2 : a1 ≠ ob2 := Nat.ne_of_lt (Nat.lt_of_lt_of_le F_m_nClassCount_a1.lt (Nat.le_of_eq g2.symm))
  have ne_ar_ob2 : ar ≠ ob2 := Nat.ne_of_lt (Nat.lt_of_lt_of_le V_ar.lt (Nat.le_of_eq g2.symm))
  have V2 : Arv Z h2 ob2 ka2 .int cnt (own_vs (own_zeros cnt)) (.int (0 : Int32)) := (Arv.new A2 hc0).pad (own_pad _)
  have g_ob2 : n0 ≤ ob2 := Nat.le_trans Z0 (Nat.le_of_eq g2.symm)
  have sz_ob2 : h0.size ≤ ob2 := Nat.le_trans K0.1 (Nat.le_of_eq g2.symm)
  have K2 := K0.ext E2
  have Zp2 : n0 ≤ h2.size := Nat.le_trans Z0 E2.1
  refine own_go st2 ?_
  show own_G p e below Φ T2 (mkF m 6 #[.val (.ref a1), .unset, .unset, .unset, .unset, .unset] [(.ref ob2)])
  refine own_go (fun _ => XS.astoreN X2.here hx rfl (hb hby d4_6) rfl rfl (l' := #[.val (.ref a1), .val (.ref ob2), .unset, .unset, .unset, .unset]) rfl) ?_
  show own_G p e below Φ T2 (mkF m 7 #[.val (.ref a1), .val (.ref ob2), .unset, .unset, .unset, .unset] [])
  refine own_go (fun _ => XS.aloadN X2.here hx rfl (hb hby d4_7) rfl rfl) ?_
  show own_G p e below Φ T2 (mkF m 8 #[.val (.ref a1), .val (.ref ob2), .unset, .unset, .unset, .unset] [(.ref a1)])
  have f3 : Fld Z h2 a1 "com/example/edgewarden/edgewarden/graph/Likeness" "m_aClasses" "[I" (.ref ar) := F_m_aClasses_a1.ext E2
  obtain ⟨T4, X4, e4, st4⟩ := getF X2 hx hZ hown (host := "") (Or.inl (wd_15 hw)) Via.refl e2 f3 (g := (mkF m 8 #[.val (.ref a1), .val (.ref ob2), .unset, .unset, .unset, .unset] [(.ref a1)])) rfl rfl (hb hby d4_8)
  refine own_go st4 ?_
  show own_G p e below Φ T4 (mkF m 11 #[.val (.ref a1), .val (.ref ob2), .unset, .unset, .unset, .unset] [(.ref ar)])
  refine own_go (fun _ => XS.astoreN X4.here hx rfl (hb hby d4_11) rfl rfl (l' := #[.val (.ref a1), .val (.ref ob2), .val (.ref ar), .unset, .unset, .unset]) rfl) ?_
  show own_G p e below Φ T4 (mkF m 12 #[.val (.ref a1), .val (.ref ob2), .val (.ref ar), .unset, .unset, .unset] [])
  refine own_go (fun _ => XS.aloadN X4.here hx rfl (hb hby d4_12) rfl rfl) ?_
  show own_G p e below Φ T4 (mkF m 13 #[.val (.ref a1), .val (.ref ob2), .val (.ref ar), .unset, .unset, .unset] [(.ref ar)])
  have f5 : Arv Z h2 ar ka .int (4 : Int32) [(.int v0), (.int v1), (.int v2), (.int v3)] (.int (0 : Int32)) := V_ar.ext E2
  obtain ⟨cl6, Ar6, q6, S6, M6, H6, G6⟩ := id f5
  refine own_go (fun _ => X4.arraylength hx (by rw [e4]; exact Ar6.1) (State.isArrayOf_alike hZ.alike Ar6.2.1) (g := (mkF m 13 #[.val (.ref a1), .val (.ref ob2), .val (.ref ar), .unset, .unset, .unset] [(.ref ar)])) rfl rfl (hb hby d4_13) _) ?_
  rw [len_of S6 M6]
  show own_G p e below Φ T4 (mkF m 14 #[.val (.ref a1), .val (.ref ob2), .val (.ref ar), .unset, .unset, .unset] [(.int (4 : Int32))])
  refine own_go (fun _ => XS.istoreN X4.here hx rfl (hb hby d4_14) rfl (l' := #[.val (.ref a1), .val (.ref ob2), .val (.ref ar), .val (.int (4 : Int32)), .unset, .unset]) rfl) ?_
  show own_G p e below Φ T4 (mkF m 15 #[.val (.ref a1), .val (.ref ob2), .val (.ref ar), .val (.int (4 : Int32)), .unset, .unset] [])
  refine own_go (fun _ => XS.iconst X4.here hx rfl (hb hby d4_15)) ?_
  show own_G p e below Φ T4 (mkF m 16 #[.val (.ref a1), .val (.ref ob2), .val (.ref ar), .val (.int (4 : Int32)), .unset, .unset] [(.int (0 : Int32))])
  refine own_go (fun _ => XS.istore X4.here hx rfl (hb hby d4_16) rfl (l' := #[.val (.ref a1), .val (.ref ob2), .val (.ref ar), .val (.int (4 : Int32)), .val (.int (0 : Int32)), .unset]) rfl) ?_
  show own_G p e below Φ T4 (mkF m 18 #[.val (.ref a1), .val (.ref ob2), .val (.ref ar), .val (.int (4 : Int32)), .val (.int (0 : Int32)), .unset] [])
  refine own_go (fun _ => XS.iload X4.here hx rfl (hb hby d4_18) rfl) ?_
  show own_G p e below Φ T4 (mkF m 20 #[.val (.ref a1), .val (.ref ob2), .val (.ref ar), .val (.int (4 : Int32)), .val (.int (0 : Int32)), .unset] [(.int (0 : Int32))])
  refine own_go (fun _ => XS.iloadN X4.here hx rfl (hb hby d4_20) rfl) ?_
  show own_G p e below Φ T4 (mkF m 21 #[.val (.ref a1), .val (.ref ob2), .val (.ref ar), .val (.int (4 : Int32)), .val (.int (0 : Int32)), .unset] [(.int (4 : Int32)), (.int (0 : Int32))])
  refine own_go (fun _ => XS.icmpNo X4.here hx rfl (hb hby d4_21) rfl (Jvm.Free.XT.ii_ge_f (by decide : ((0 : Int32) < (4 : Int32))))) ?_
  show own_G p e below Φ T4 (mkF m 24 #[.val (.ref a1), .val (.ref ob2), .val (.ref ar), .val (.int (4 : Int32)), .val (.int (0 : Int32)), .unset] [])
  refine own_go (fun _ => XS.aloadN X4.here hx rfl (hb hby d4_24) rfl rfl) ?_
  show own_G p e below Φ T4 (mkF m 25 #[.val (.ref a1), .val (.ref ob2), .val (.ref ar), .val (.int (4 : Int32)), .val (.int (0 : Int32)), .unset] [(.ref ar)])
  refine own_go (fun _ => XS.iload X4.here hx rfl (hb hby d4_25) rfl) ?_
  show own_G p e below Φ T4 (mkF m 27 #[.val (.ref a1), .val (.ref ob2), .val (.ref ar), .val (.int (4 : Int32)), .val (.int (0 : Int32)), .unset] [(.int (0 : Int32)), (.ref ar)])
  obtain ⟨cl7, Ar7, q7, S7, M7, H7, G7⟩ := id f5
  have hin7 : ¬ ((0 : Int32) < 0 ∨ cl7.slots.size ≤ ((0 : Int32)).toNatClampNeg) := inb_of S7 ⟨by decide, by decide⟩
  refine own_go (fun _ => X4.iaload hx (j := (0 : Int32)) (v := (.int v0)) (by rw [e4]; exact Ar7.1) (State.isArrayOf_alike hZ.alike Ar7.2.1) Ar7.2.2 hin7 (H7.at hin7 rfl) (g := (mkF m 27 #[.val (.ref a1), .val (.ref ob2), .val (.ref ar), .val (.int (4 : Int32)), .val (.int (0 : Int32)), .unset] [(.int (0 : Int32)), (.ref ar)])) rfl rfl (hb hby d4_27) _) ?_
  show own_G p e below Φ T4 (mkF m 28 #[.val (.ref a1), .val (.ref ob2), .val (.ref ar), .val (.int (4 : Int32)), .val (.int (0 : Int32)), .unset] [(.int v0)])
  refine own_go (fun _ => XS.istore X4.here hx rfl (hb hby d4_28) rfl (l' := #[.val (.ref a1), .val (.ref ob2), .val (.ref ar), .val (.int (4 : Int32)), .val (.int (0 : Int32)), .val (.int v0)]) rfl) ?_
  show own_G p e below Φ T4 (mkF m 30 #[.val (.ref a1), .val (.ref ob2), .val (.ref ar), .val (.int (4 : Int32)), .val (.int (0 : Int32)), .val (.int v0)] [])
  refine own_go (fun _ => XS.aloadN X4.here hx rfl (hb hby d4_30) rfl rfl) ?_
  show own_G p e below Φ T4 (mkF m 31 #[.val (.ref a1), .val (.ref ob2), .val (.ref ar), .val (.int (4 : Int32)), .val (.int (0 : Int32)), .val (.int v0)] [(.ref ob2)])
  refine own_go (fun _ => XS.iload X4.here hx rfl (hb hby d4_31) rfl) ?_
  show own_G p e below Φ T4 (mkF m 33 #[.val (.ref a1), .val (.ref ob2), .val (.ref ar), .val (.int (4 : Int32)), .val (.int (0 : Int32)), .val (.int v0)] [(.int v0), (.ref ob2)])
  refine own_go (fun _ => Jvm.Free.XT.dup2 X4.here hx rfl (hb hby d4_33) rfl rfl rfl) ?_
  show own_G p e below Φ T4 (mkF m 34 #[.val (.ref a1), .val (.ref ob2), .val (.ref ar), .val (.int (4 : Int32)), .val (.int (0 : Int32)), .val (.int v0)] [(.int v0), (.ref ob2), (.int v0), (.ref ob2)])
  obtain ⟨cl8, Ar8, q8, S8, M8, H8, G8⟩ := id V2
  have hin8 : ¬ (v0 < 0 ∨ cl8.slots.size ≤ (v0).toNatClampNeg) := inb_of S8 hv0
  refine own_go (fun _ => X4.iaload hx (j := v0) (v := (.int ((own_zeros cnt).getD v0.toNatClampNeg 0))) (by rw [e4]; exact Ar8.1) (State.isArrayOf_alike hZ.alike Ar8.2.1) Ar8.2.2 hin8 (H8.at hin8 (own_vs_at _ _)) (g := (mkF m 34 #[.val (.ref a1), .val (.ref ob2), .val (.ref ar), .val (.int (4 : Int32)), .val (.int (0 : Int32)), .val (.int v0)] [(.int v0), (.ref ob2), (.int v0), (.ref ob2)])) rfl rfl (hb hby d4_34) _) ?_
  show own_G p e below Φ T4 (mkF m 35 #[.val (.ref a1), .val (.ref ob2), .val (.ref ar), .val (.int (4 : Int32)), .val (.int (0 : Int32)), .val (.int v0)] [(.int ((own_zeros cnt).getD v0.toNatClampNeg 0)), (.int v0), (.ref ob2)])
  refine own_go (fun _ => XS.iconst X4.here hx rfl (hb hby d4_35)) ?_
  show own_G p e below Φ T4 (mkF m 36 #[.val (.ref a1), .val (.ref ob2), .val (.ref ar), .val (.int (4 : Int32)), .val (.int (0 : Int32)), .val (.int v0)] [(.int (1 : Int32)), (.int ((own_zeros cnt).getD v0.toNatClampNeg 0)), (.int v0), (.ref ob2)])
  refine own_go (fun _ => XS.iadd X4.here hx rfl (hb hby d4_36) rfl) ?_
  show own_G p e below Φ T4 (mkF m 37 #[.val (.ref a1), .val (.ref ob2), .val (.ref ar), .val (.int (4 : Int32)), .val (.int (0 : Int32)), .val (.int v0)] [(.int (((own_zeros cnt).getD v0.toNatClampNeg 0) + (1 : Int32))), (.int v0), (.ref ob2)])
  obtain ⟨cl9, Ar9, q9, S9, M9, H9, G9⟩ := id V2
  have hin9 : ¬ (v0 < 0 ∨ cl9.slots.size ≤ (v0).toNatClampNeg) := inb_of S9 hv0
  obtain ⟨T9, h9, X9, e9, W9, st9⟩ := stI X4 hx hZ e4 Ar9 (j := v0) hin9 (g := (mkF m 37 #[.val (.ref a1), .val (.ref ob2), .val (.ref ar), .val (.int (4 : Int32)), .val (.int (0 : Int32)), .val (.int v0)] [(.int (((own_zeros cnt).getD v0.toNatClampNeg 0) + (1 : Int32))), (.int v0), (.ref ob2)])) rfl rfl (hb hby d4_37)
  refine own_go st9 ?_
  have V9 : Arv Z h9 ob2 ka2 .int cnt (own_vs (own_inc (own_zeros cnt) v0)) (.int (0 : Int32)) := own_vs_set _ _ _ ▸ Arv.set Ar9 q9 S9 M9 H9 G9 rfl W9 _ rfl (by simp only [own_vs_len, own_inc_len, own_zeros_len]; exact own_clamp hv0)
  have N9 := Fr.snoc X9 N0 g_ob2
  have K9 := K2.wr W9 (Or.inr sz_ob2)
  have Zp9 : n0 ≤ h9.size := Nat.le_trans Zp2 (Keep.of_wr W9).1
  show own_G p e below Φ T9 (mkF m 38 #[.val (.ref a1), .val (.ref ob2), .val (.ref ar), .val (.int (4 : Int32)), .val (.int (0 : Int32)), .val (.int v0)] [])
  refine own_go (fun _ => XS.iinc X9.here hx rfl (hb hby d4_38) rfl (l' := #[.val (.ref a1), .val (.ref ob2), .val (.ref ar), .val (.int (4 : Int32)), .val (.int (1 : Int32)), .val (.int v0)]) rfl) ?_
  show own_G p e below Φ T9 (mkF m 41 #[.val (.ref a1), .val (.ref ob2), .val (.ref ar), .val (.int (4 : Int32)), .val (.int (1 : Int32)), .val (.int v0)] [])
  refine own_go (fun _ => XS.goto X9.here hx rfl (pc0 := 41) (pc' := 18) rfl (hb hby d4_41) (by decide) (by decide)) ?_
  show own_G p e below Φ T9 (mkF m 18 #[.val (.ref a1), .val (.ref ob2), .val (.ref ar), .val (.int (4 : Int32)), .val (.int (1 : Int32)), .val (.int v0)] [])
  refine own_go (fun _ => XS.iload X9.here hx rfl (hb hby d4_18) rfl) ?_
  show own_G p e below Φ T9 (mkF m 20 #[.val (.ref a1), .val (.ref ob2), .val (.ref ar), .val (.int (4 : Int32)), .val (.int (1 : Int32)), .val (.int v0)] [(.int (1 : Int32))])
  refine own_go (fun _ => XS.iloadN X9.here hx rfl (hb hby d4_20) rfl) ?_
  show own_G p e below Φ T9 (mkF m 21 #[.val (.ref a1), .val (.ref ob2), .val (.ref ar), .val (.int (4 : Int32)), .val (.int (1 : Int32)), .val (.int v0)] [(.int (4 : Int32)), (.int (1 : Int32))])
  refine own_go (fun _ => XS.icmpNo X9.here hx rfl (hb hby d4_21) rfl (Jvm.Free.XT.ii_ge_f (by decide : ((1 : Int32) < (4 : Int32))))) ?_
  show own_G p e below Φ T9 (mkF m 24 #[.val (.ref a1), .val (.ref ob2), .val (.ref ar), .val (.int (4 : Int32)), .val (.int (1 : Int32)), .val (.int v0)] [])
  refine own_go (fun _ => XS.aloadN X9.here hx rfl (hb hby d4_24) rfl rfl) ?_
  show own_G p e below Φ T9 (mkF m 25 #[.val (.ref a1), .val (.ref ob2), .val (.ref ar), .val (.int (4 : Int32)), .val (.int (1 : Int32)), .val (.int v0)] [(.ref ar)])
  refine own_go (fun _ => XS.iload X9.here hx rfl (hb hby d4_25) rfl) ?_
  show own_G p e below Φ T9 (mkF m 27 #[.val (.ref a1), .val (.ref ob2), .val (.ref ar), .val (.int (4 : Int32)), .val (.int (1 : Int32)), .val (.int v0)] [(.int (1 : Int32)), (.ref ar)])
  have f10 : Arv Z h9 ar ka .int (4 : Int32) [(.int v0), (.int v1), (.int v2), (.int v3)] (.int (0 : Int32)) := f5.other W9 ne_ar_ob2
  obtain ⟨cl11, Ar11, q11, S11, M11, H11, G11⟩ := id f10
  have hin11 : ¬ ((1 : Int32) < 0 ∨ cl11.slots.size ≤ ((1 : Int32)).toNatClampNeg) := inb_of S11 ⟨by decide, by decide⟩
  refine own_go (fun _ => X9.iaload hx (j := (1 : Int32)) (v := (.int v1)) (by rw [e9]; exact Ar11.1) (State.isArrayOf_alike hZ.alike Ar11.2.1) Ar11.2.2 hin11 (H11.at hin11 rfl) (g := (mkF m 27 #[.val (.ref a1), .val (.ref ob2), .val (.ref ar), .val (.int (4 : Int32)), .val (.int (1 : Int32)), .val (.int v0)] [(.int (1 : Int32)), (.ref ar)])) rfl rfl (hb hby d4_27) _) ?_
  show own_G p e below Φ T9 (mkF m 28 #[.val (.ref a1), .val (.ref ob2), .val (.ref ar), .val (.int (4 : Int32)), .val (.int (1 : Int32)), .val (.int v0)] [(.int v1)])
  refine own_go (fun _ => XS.istore X9.here hx rfl (hb hby d4_28) rfl (l' := #[.val (.ref a1), .val (.ref ob2), .val (.ref ar), .val (.int (4 : Int32)), .val (.int (1 : Int32)), .val (.int v1)]) rfl) ?_
  show own_G p e below Φ T9 (mkF m 30 #[.val (.ref a1), .val (.ref ob2), .val (.ref ar), .val (.int (4 : Int32)), .val (.int (1 : Int32)), .val (.int v1)] [])
  refine own_go (fun _ => XS.aloadN X9.here hx rfl (hb hby d4_30) rfl rfl) ?_
  show own_G p e below Φ T9 (mkF m 31 #[.val (.ref a1), .val (.ref ob2), .val (.ref ar), .val (.int (4 : Int32)), .val (.int (1 : Int32)), .val (.int v1)] [(.ref ob2)])
  refine own_go (fun _ => XS.iload X9.here hx rfl (hb hby d4_31) rfl) ?_
  show own_G p e below Φ T9 (mkF m 33 #[.val (.ref a1), .val (.ref ob2), .val (.ref ar), .val (.int (4 : Int32)), .val (.int (1 : Int32)), .val (.int v1)] [(.int v1), (.ref ob2)])
  refine own_go (fun _ => Jvm.Free.XT.dup2 X9.here hx rfl (hb hby d4_33) rfl rfl rfl) ?_
  show own_G p e below Φ T9 (mkF m 34 #[.val (.ref a1), .val (.ref ob2), .val (.ref ar), .val (.int (4 : Int32)), .val (.int (1 : Int32)), .val (.int v1)] [(.int v1), (.ref ob2), (.int v1), (.ref ob2)])
  obtain ⟨cl12, Ar12, q12, S12, M12, H12, G12⟩ := id V9
  have hin12 : ¬ (v1 < 0 ∨ cl12.slots.size ≤ (v1).toNatClampNeg) := inb_of S12 hv1
  refine own_go (fun _ => X9.iaload hx (j := v1) (v := (.int ((own_inc (own_zeros cnt) v0).getD v1.toNatClampNeg 0))) (by rw [e9]; exact Ar12.1) (State.isArrayOf_alike hZ.alike Ar12.2.1) Ar12.2.2 hin12 (H12.at hin12 (own_vs_at _ _)) (g := (mkF m 34 #[.val (.ref a1), .val (.ref ob2), .val (.ref ar), .val (.int (4 : Int32)), .val (.int (1 : Int32)), .val (.int v1)] [(.int v1), (.ref ob2), (.int v1), (.ref ob2)])) rfl rfl (hb hby d4_34) _) ?_
  show own_G p e below Φ T9 (mkF m 35 #[.val (.ref a1), .val (.ref ob2), .val (.ref ar), .val (.int (4 : Int32)), .val (.int (1 : Int32)), .val (.int v1)] [(.int ((own_inc (own_zeros cnt) v0).getD v1.toNatClampNeg 0)), (.int v1), (.ref ob2)])
  refine own_go (fun _ => XS.iconst X9.here hx rfl (hb hby d4_35)) ?_
  show own_G p e below Φ T9 (mkF m 36 #[.val (.ref a1), .val (.ref ob2), .val (.ref ar), .val (.int (4 : Int32)), .val (.int (1 : Int32)), .val (.int v1)] [(.int (1 : Int32)), (.int ((own_inc (own_zeros cnt) v0).getD v1.toNatClampNeg 0)), (.int v1), (.ref ob2)])
  refine own_go (fun _ => XS.iadd X9.here hx rfl (hb hby d4_36) rfl) ?_
  show own_G p e below Φ T9 (mkF m 37 #[.val (.ref a1), .val (.ref ob2), .val (.ref ar), .val (.int (4 : Int32)), .val (.int (1 : Int32)), .val (.int v1)] [(.int (((own_inc (own_zeros cnt) v0).getD v1.toNatClampNeg 0) + (1 : Int32))), (.int v1), (.ref ob2)])
  obtain ⟨cl13, Ar13, q13, S13, M13, H13, G13⟩ := id V9
  have hin13 : ¬ (v1 < 0 ∨ cl13.slots.size ≤ (v1).toNatClampNeg) := inb_of S13 hv1
  obtain ⟨T13, h13, X13, e13, W13, st13⟩ := stI X9 hx hZ e9 Ar13 (j := v1) hin13 (g := (mkF m 37 #[.val (.ref a1), .val (.ref ob2), .val (.ref ar), .val (.int (4 : Int32)), .val (.int (1 : Int32)), .val (.int v1)] [(.int (((own_inc (own_zeros cnt) v0).getD v1.toNatClampNeg 0) + (1 : Int32))), (.int v1), (.ref ob2)])) rfl rfl (hb hby d4_37)
  refine own_go st13 ?_
  have V13 : Arv Z h13 ob2 ka2 .int cnt (own_vs (own_inc (own_inc (own_zeros cnt) v0) v1)) (.int (0 : Int32)) := own_vs_set _ _ _ ▸ Arv.set Ar13 q13 S13 M13 H13 G13 rfl W13 _ rfl (by simp only [own_vs_len, own_inc_len, own_zeros_len]; exact own_clamp hv1)
  have N13 := Fr.snoc X13 N9 g_ob2
  have K13 := K9.wr W13 (Or.inr sz_ob2)
  have Zp13 : n0 ≤ h13.size := Nat.le_trans Zp9 (Keep.of_wr W13).1
  show own_G p e below Φ T13 (mkF m 38 #[.val (.ref a1), .val (.ref ob2), .val (.ref ar), .val (.int (4 : Int32)), .val (.int (1 : Int32)), .val (.int v1)] [])
  refine own_go (fun _ => XS.iinc X13.here hx rfl (hb hby d4_38) rfl (l' := #[.val (.ref a1), .val (.ref ob2), .val (.ref ar), .val (.int (4 : Int32)), .val (.int (2 : Int32)), .val (.int v1)]) rfl) ?_
  show own_G p e below Φ T13 (mkF m 41 #[.val (.ref a1), .val (.ref ob2), .val (.ref ar), .val (.int (4 : Int32)), .val (.int (2 : Int32)), .val (.int v1)] [])
  refine own_go (fun _ => XS.goto X13.here hx rfl (pc0 := 41) (pc' := 18) rfl (hb hby d4_41) (by decide) (by decide)) ?_
  show own_G p e below Φ T13 (mkF m 18 #[.val (.ref a1), .val (.ref ob2), .val (.ref ar), .val (.int (4 : Int32)), .val (.int (2 : Int32)), .val (.int v1)] [])
  refine own_go (fun _ => XS.iload X13.here hx rfl (hb hby d4_18) rfl) ?_
  show own_G p e below Φ T13 (mkF m 20 #[.val (.ref a1), .val (.ref ob2), .val (.ref ar), .val (.int (4 : Int32)), .val (.int (2 : Int32)), .val (.int v1)] [(.int (2 : Int32))])
  refine own_go (fun _ => XS.iloadN X13.here hx rfl (hb hby d4_20) rfl) ?_
  show own_G p e below Φ T13 (mkF m 21 #[.val (.ref a1), .val (.ref ob2), .val (.ref ar), .val (.int (4 : Int32)), .val (.int (2 : Int32)), .val (.int v1)] [(.int (4 : Int32)), (.int (2 : Int32))])
  refine own_go (fun _ => XS.icmpNo X13.here hx rfl (hb hby d4_21) rfl (Jvm.Free.XT.ii_ge_f (by decide : ((2 : Int32) < (4 : Int32))))) ?_
  show own_G p e below Φ T13 (mkF m 24 #[.val (.ref a1), .val (.ref ob2), .val (.ref ar), .val (.int (4 : Int32)), .val (.int (2 : Int32)), .val (.int v1)] [])
  refine own_go (fun _ => XS.aloadN X13.here hx rfl (hb hby d4_24) rfl rfl) ?_
  show own_G p e below Φ T13 (mkF m 25 #[.val (.ref a1), .val (.ref ob2), .val (.ref ar), .val (.int (4 : Int32)), .val (.int (2 : Int32)), .val (.int v1)] [(.ref ar)])
  refine own_go (fun _ => XS.iload X13.here hx rfl (hb hby d4_25) rfl) ?_
  show own_G p e below Φ T13 (mkF m 27 #[.val (.ref a1), .val (.ref ob2), .val (.ref ar), .val (.int (4 : Int32)), .val (.int (2 : Int32)), .val (.int v1)] [(.int (2 : Int32)), (.ref ar)])
  have f14 : Arv Z h13 ar ka .int (4 : Int32) [(.int v0), (.int v1), (.int v2), (.int v3)] (.int (0 : Int32)) := f10.other W13 ne_ar_ob2
  obtain ⟨cl15, Ar15, q15, S15, M15, H15, G15⟩ := id f14
  have hin15 : ¬ ((2 : Int32) < 0 ∨ cl15.slots.size ≤ ((2 : Int32)).toNatClampNeg) := inb_of S15 ⟨by decide, by decide⟩
  refine own_go (fun _ => X13.iaload hx (j := (2 : Int32)) (v := (.int v2)) (by rw [e13]; exact Ar15.1) (State.isArrayOf_alike hZ.alike Ar15.2.1) Ar15.2.2 hin15 (H15.at hin15 rfl) (g := (mkF m 27 #[.val (.ref a1), .val (.ref ob2), .val (.ref ar), .val (.int (4 : Int32)), .val (.int (2 : Int32)), .val (.int v1)] [(.int (2 : Int32)), (.ref ar)])) rfl rfl (hb hby d4_27) _) ?_
  show own_G p e below Φ T13 (mkF m 28 #[.val (.ref a1), .val (.ref ob2), .val (.ref ar), .val (.int (4 : Int32)), .val (.int (2 : Int32)), .val (.int v1)] [(.int v2)])
  refine own_go (fun _ => XS.istore X13.here hx rfl (hb hby d4_28) rfl (l' := #[.val (.ref a1), .val (.ref ob2), .val (.ref ar), .val (.int (4 : Int32)), .val (.int (2 : Int32)), .val (.int v2)]) rfl) ?_
  show own_G p e below Φ T13 (mkF m 30 #[.val (.ref a1), .val (.ref ob2), .val (.ref ar), .val (.int (4 : Int32)), .val (.int (2 : Int32)), .val (.int v2)] [])
  refine own_go (fun _ => XS.aloadN X13.here hx rfl (hb hby d4_30) rfl rfl) ?_
  show own_G p e below Φ T13 (mkF m 31 #[.val (.ref a1), .val (.ref ob2), .val (.ref ar), .val (.int (4 : Int32)), .val (.int (2 : Int32)), .val (.int v2)] [(.ref ob2)])
  refine own_go (fun _ => XS.iload X13.here hx rfl (hb hby d4_31) rfl) ?_
  show own_G p e below Φ T13 (mkF m 33 #[.val (.ref a1), .val (.ref ob2), .val (.ref ar), .val (.int (4 : Int32)), .val (.int (2 : Int32)), .val (.int v2)] [(.int v2), (.ref ob2)])
  refine own_go (fun _ => Jvm.Free.XT.dup2 X13.here hx rfl (hb hby d4_33) rfl rfl rfl) ?_
  show own_G p e below Φ T13 (mkF m 34 #[.val (.ref a1), .val (.ref ob2), .val (.ref ar), .val (.int (4 : Int32)), .val (.int (2 : Int32)), .val (.int v2)] [(.int v2), (.ref ob2), (.int v2), (.ref ob2)])
  obtain ⟨cl16, Ar16, q16, S16, M16, H16, G16⟩ := id V13
  have hin16 : ¬ (v2 < 0 ∨ cl16.slots.size ≤ (v2).toNatClampNeg) := inb_of S16 hv2
  refine own_go (fun _ => X13.iaload hx (j := v2) (v := (.int ((own_inc (own_inc (own_zeros cnt) v0) v1).getD v2.toNatClampNeg 0))) (by rw [e13]; exact Ar16.1) (State.isArrayOf_alike hZ.alike Ar16.2.1) Ar16.2.2 hin16 (H16.at hin16 (own_vs_at _ _)) (g := (mkF m 34 #[.val (.ref a1), .val (.ref ob2), .val (.ref ar), .val (.int (4 : Int32)), .val (.int (2 : Int32)), .val (.int v2)] [(.int v2), (.ref ob2), (.int v2), (.ref ob2)])) rfl rfl (hb hby d4_34) _) ?_
  show own_G p e below Φ T13 (mkF m 35 #[.val (.ref a1), .val (.ref ob2), .val (.ref ar), .val (.int (4 : Int32)), .val (.int (2 : Int32)), .val (.int v2)] [(.int ((own_inc (own_inc (own_zeros cnt) v0) v1).getD v2.toNatClampNeg 0)), (.int v2), (.ref ob2)])
  refine own_go (fun _ => XS.iconst X13.here hx rfl (hb hby d4_35)) ?_
  show own_G p e below Φ T13 (mkF m 36 #[.val (.ref a1), .val (.ref ob2), .val (.ref ar), .val (.int (4 : Int32)), .val (.int (2 : Int32)), .val (.int v2)] [(.int (1 : Int32)), (.int ((own_inc (own_inc (own_zeros cnt) v0) v1).getD v2.toNatClampNeg 0)), (.int v2), (.ref ob2)])
  refine own_go (fun _ => XS.iadd X13.here hx rfl (hb hby d4_36) rfl) ?_
  show own_G p e below Φ T13 (mkF m 37 #[.val (.ref a1), .val (.ref ob2), .val (.ref ar), .val (.int (4 : Int32)), .val (.int (2 : Int32)), .val (.int v2)] [(.int (((own_inc (own_inc (own_zeros cnt) v0) v1).getD v2.toNatClampNeg 0) + (1 : Int32))), (.int v2), (.ref ob2)])
  obtain ⟨cl17, Ar17, q17, S17, M17, H17, G17⟩ := id V13
  have hin17 : ¬ (v2 < 0 ∨ cl17.slots.size ≤ (v2).toNatClampNeg) := inb_of S17 hv2
  obtain ⟨T17, h17, X17, e17, W17, st17⟩ := stI X13 hx hZ e13 Ar17 (j := v2) hin17 (g := (mkF m 37 #[.val (.ref a1), .val (.ref ob2), .val (.ref ar), .val (.int (4 : Int32)), .val (.int (2 : Int32)), .val (.int v2)] [(.int (((own_inc (own_inc (own_zeros cnt) v0) v1).getD v2.toNatClampNeg 0) + (1 : Int32))), (.int v2), (.ref ob2)])) rfl rfl (hb hby d4_37)
  refine own_go st17 ?_
  have V17 : Arv Z h17 ob2 ka2 .int cnt (own_vs (own_inc (own_inc (own_inc (own_zeros cnt) v0) v1) v2)) (.int (0 : Int32)) := own_vs_set _ _ _ ▸ Arv.set Ar17 q17 S17 M17 H17 G17 rfl W17 _ rfl (by simp only [own_vs_len, own_inc_len, own_zeros_len]; exact own_clamp hv2)
  have N17 := Fr.snoc X17 N13 g_ob2
  have K17 := K13.wr W17 (Or.inr sz_ob2)
  have Zp17 : n0 ≤ h17.size := Nat.le_trans Zp13 (Keep.of_wr W17).1
  show own_G p e below Φ T17 (mkF m 38 #[.val (.ref a1), .val (.ref ob2), .val (.ref ar), .val (.int (4 : Int32)), .val (.int (2 : Int32)), .val (.int v2)] [])
  refine own_go (fun _ => XS.iinc X17.here hx rfl (hb hby d4_38) rfl (l' := #[.val (.ref a1), .val (.ref ob2), .val (.ref ar), .val (.int (4 : Int32)), .val (.int (3 : Int32)), .val (.int v2)]) rfl) ?_
  show own_G p e below Φ T17 (mkF m 41 #[.val (.ref a1), .val (.ref ob2), .val (.ref ar), .val (.int (4 : Int32)), .val (.int (3 : Int32)), .val (.int v2)] [])
  refine own_go (fun _ => XS.goto X17.here hx rfl (pc0 := 41) (pc' := 18) rfl (hb hby d4_41) (by decide) (by decide)) ?_
  show own_G p e below Φ T17 (mkF m 18 #[.val (.ref a1), .val (.ref ob2), .val (.ref ar), .val (.int (4 : Int32)), .val (.int (3 : Int32)), .val (.int v2)] [])
  refine own_go (fun _ => XS.iload X17.here hx rfl (hb hby d4_18) rfl) ?_
  show own_G p e below Φ T17 (mkF m 20 #[.val (.ref a1), .val (.ref ob2), .val (.ref ar), .val (.int (4 : Int32)), .val (.int (3 : Int32)), .val (.int v2)] [(.int (3 : Int32))])
  refine own_go (fun _ => XS.iloadN X17.here hx rfl (hb hby d4_20) rfl) ?_
  show own_G p e below Φ T17 (mkF m 21 #[.val (.ref a1), .val (.ref ob2), .val (.ref ar), .val (.int (4 : Int32)), .val (.int (3 : Int32)), .val (.int v2)] [(.int (4 : Int32)), (.int (3 : Int32))])
  refine own_go (fun _ => XS.icmpNo X17.here hx rfl (hb hby d4_21) rfl (Jvm.Free.XT.ii_ge_f (by decide : ((3 : Int32) < (4 : Int32))))) ?_
  show own_G p e below Φ T17 (mkF m 24 #[.val (.ref a1), .val (.ref ob2), .val (.ref ar), .val (.int (4 : Int32)), .val (.int (3 : Int32)), .val (.int v2)] [])
  refine own_go (fun _ => XS.aloadN X17.here hx rfl (hb hby d4_24) rfl rfl) ?_
  show own_G p e below Φ T17 (mkF m 25 #[.val (.ref a1), .val (.ref ob2), .val (.ref ar), .val (.int (4 : Int32)), .val (.int (3 : Int32)), .val (.int v2)] [(.ref ar)])
  refine own_go (fun _ => XS.iload X17.here hx rfl (hb hby d4_25) rfl) ?_
  show own_G p e below Φ T17 (mkF m 27 #[.val (.ref a1), .val (.ref ob2), .val (.ref ar), .val (.int (4 : Int32)), .val (.int (3 : Int32)), .val (.int v2)] [(.int (3 : Int32)), (.ref ar)])
  have f18 : Arv Z h17 ar ka .int (4 : Int32) [(.int v0), (.int v1), (.int v2), (.int v3)] (.int (0 : Int32)) := f14.other W17 ne_ar_ob2
  obtain ⟨cl19, Ar19, q19, S19, M19, H19, G19⟩ := id f18
  have hin19 : ¬ ((3 : Int32) < 0 ∨ cl19.slots.size ≤ ((3 : Int32)).toNatClampNeg) := inb_of S19 ⟨by decide, by decide⟩
  refine own_go (fun _ => X17.iaload hx (j := (3 : Int32)) (v := (.int v3)) (by rw [e17]; exact Ar19.1) (State.isArrayOf_alike hZ.alike Ar19.2.1) Ar19.2.2 hin19 (H19.at hin19 rfl) (g := (mkF m 27 #[.val (.ref a1), .val (.ref ob2), .val (.ref ar), .val (.int (4 : Int32)), .val (.int (3 : Int32)), .val (.int v2)] [(.int (3 : Int32)), (.ref ar)])) rfl rfl (hb hby d4_27) _) ?_
  show own_G p e below Φ T17 (mkF m 28 #[.val (.ref a1), .val (.ref ob2), .val (.ref ar), .val (.int (4 : Int32)), .val (.int (3 : Int32)), .val (.int v2)] [(.int v3)])
  refine own_go (fun _ => XS.istore X17.here hx rfl (hb hby d4_28) rfl (l' := #[.val (.ref a1), .val (.ref ob2), .val (.ref ar), .val (.int (4 : Int32)), .val (.int (3 : Int32)), .val (.int v3)]) rfl) ?_
  show own_G p e below Φ T17 (mkF m 30 #[.val (.ref a1), .val (.ref ob2), .val (.ref ar), .val (.int (4 : Int32)), .val (.int (3 : Int32)), .val (.int v3)] [])
  refine own_go (fun _ => XS.aloadN X17.here hx rfl (hb hby d4_30) rfl rfl) ?_
  show own_G p e below Φ T17 (mkF m 31 #[.val (.ref a1), .val (.ref ob2), .val (.ref ar), .val (.int (4 : Int32)), .val (.int (3 : Int32)), .val (.int v3)] [(.ref ob2)])
  refine own_go (fun _ => XS.iload X17.here hx rfl (hb hby d4_31) rfl) ?_
  show own_G p e below Φ T17 (mkF m 33 #[.val (.ref a1), .val (.ref ob2), .val (.ref ar), .val (.int (4 : Int32)), .val (.int (3 : Int32)), .val (.int v3)] [(.int v3), (.ref ob2)])
  refine own_go (fun _ => Jvm.Free.XT.dup2 X17.here hx rfl (hb hby d4_33) rfl rfl rfl) ?_
  show own_G p e below Φ T17 (mkF m 34 #[.val (.ref a1), .val (.ref ob2), .val (.ref ar), .val (.int (4 : Int32)), .val (.int (3 : Int32)), .val (.int v3)] [(.int v3), (.ref ob2), (.int v3), (.ref ob2)])
  obtain ⟨cl20, Ar20, q20, S20, M20, H20, G20⟩ := id V17
  have hin20 : ¬ (v3 < 0 ∨ cl20.slots.size ≤ (v3).toNatClampNeg) := inb_of S20 hv3
  refine own_go (fun _ => X17.iaload hx (j := v3) (v := (.int ((own_inc (own_inc (own_inc (own_zeros cnt) v0) v1) v2).getD v3.toNatClampNeg 0))) (by rw [e17]; exact Ar20.1) (State.isArrayOf_alike hZ.alike Ar20.2.1) Ar20.2.2 hin20 (H20.at hin20 (own_vs_at _ _)) (g := (mkF m 34 #[.val (.ref a1), .val (.ref ob2), .val (.ref ar), .val (.int (4 : Int32)), .val (.int (3 : Int32)), .val (.int v3)] [(.int v3), (.ref ob2), (.int v3), (.ref ob2)])) rfl rfl (hb hby d4_34) _) ?_
  show own_G p e below Φ T17 (mkF m 35 #[.val (.ref a1), .val (.ref ob2), .val (.ref ar), .val (.int (4 : Int32)), .val (.int (3 : Int32)), .val (.int v3)] [(.int ((own_inc (own_inc (own_inc (own_zeros cnt) v0) v1) v2).getD v3.toNatClampNeg 0)), (.int v3), (.ref ob2)])
  refine own_go (fun _ => XS.iconst X17.here hx rfl (hb hby d4_35)) ?_
  show own_G p e below Φ T17 (mkF m 36 #[.val (.ref a1), .val (.ref ob2), .val (.ref ar), .val (.int (4 : Int32)), .val (.int (3 : Int32)), .val (.int v3)] [(.int (1 : Int32)), (.int ((own_inc (own_inc (own_inc (own_zeros cnt) v0) v1) v2).getD v3.toNatClampNeg 0)), (.int v3), (.ref ob2)])
  refine own_go (fun _ => XS.iadd X17.here hx rfl (hb hby d4_36) rfl) ?_
  show own_G p e below Φ T17 (mkF m 37 #[.val (.ref a1), .val (.ref ob2), .val (.ref ar), .val (.int (4 : Int32)), .val (.int (3 : Int32)), .val (.int v3)] [(.int (((own_inc (own_inc (own_inc (own_zeros cnt) v0) v1) v2).getD v3.toNatClampNeg 0) + (1 : Int32))), (.int v3), (.ref ob2)])
  obtain ⟨cl21, Ar21, q21, S21, M21, H21, G21⟩ := id V17
  have hin21 : ¬ (v3 < 0 ∨ cl21.slots.size ≤ (v3).toNatClampNeg) := inb_of S21 hv3
  obtain ⟨T21, h21, X21, e21, W21, st21⟩ := stI X17 hx hZ e17 Ar21 (j := v3) hin21 (g := (mkF m 37 #[.val (.ref a1), .val (.ref ob2), .val (.ref ar), .val (.int (4 : Int32)), .val (.int (3 : Int32)), .val (.int v3)] [(.int (((own_inc (own_inc (own_inc (own_zeros cnt) v0) v1) v2).getD v3.toNatClampNeg 0) + (1 : Int32))), (.int v3), (.ref ob2)])) rfl rfl (hb hby d4_37)
  refine own_go st21 ?_
  have V21 : Arv Z h21 ob2 ka2 .int cnt (own_vs (own_inc (own_inc (own_inc (own_inc (own_zeros cnt) v0) v1) v2) v3)) (.int (0 : Int32)) := own_vs_set _ _ _ ▸ Arv.set Ar21 q21 S21 M21 H21 G21 rfl W21 _ rfl (by simp only [own_vs_len, own_inc_len, own_zeros_len]; exact own_clamp hv3)
  have N21 := Fr.snoc X21 N17 g_ob2
  have K21 := K17.wr W21 (Or.inr sz_ob2)
  have Zp21 : n0 ≤ h21.size := Nat.le_trans Zp17 (Keep.of_wr W21).1
  show own_G p e below Φ T21 (mkF m 38 #[.val (.ref a1), .val (.ref ob2), .val (.ref ar), .val (.int (4 : Int32)), .val (.int (3 : Int32)), .val (.int v3)] [])
  refine own_go (fun _ => XS.iinc X21.here hx rfl (hb hby d4_38) rfl (l' := #[.val (.ref a1), .val (.ref ob2), .val (.ref ar), .val (.int (4 : Int32)), .val (.int (4 : Int32)), .val (.int v3)]) rfl) ?_
  show own_G p e below Φ T21 (mkF m 41 #[.val (.ref a1), .val (.ref ob2), .val (.ref ar), .val (.int (4 : Int32)), .val (.int (4 : Int32)), .val (.int v3)] [])
  refine own_go (fun _ => XS.goto X21.here hx rfl (pc0 := 41) (pc' := 18) rfl (hb hby d4_41) (by decide) (by decide)) ?_
  show own_G p e below Φ T21 (mkF m 18 #[.val (.ref a1), .val (.ref ob2), .val (.ref ar), .val (.int (4 : Int32)), .val (.int (4 : Int32)), .val (.int v3)] [])
  refine own_go (fun _ => XS.iload X21.here hx rfl (hb hby d4_18) rfl) ?_
  show own_G p e below Φ T21 (mkF m 20 #[.val (.ref a1), .val (.ref ob2), .val (.ref ar), .val (.int (4 : Int32)), .val (.int (4 : Int32)), .val (.int v3)] [(.int (4 : Int32))])
  refine own_go (fun _ => XS.iloadN X21.here hx rfl (hb hby d4_20) rfl) ?_
  show own_G p e below Φ T21 (mkF m 21 #[.val (.ref a1), .val (.ref ob2), .val (.ref ar), .val (.int (4 : Int32)), .val (.int (4 : Int32)), .val (.int v3)] [(.int (4 : Int32)), (.int (4 : Int32))])
  refine own_go (fun _ => XS.icmpYes X21.here hx rfl (pc0 := 21) (pc' := 44) rfl (hb hby d4_21) rfl (Jvm.Free.XT.ii_ge_t (by decide : ¬ ((4 : Int32) < (4 : Int32)))) (by decide) (by decide)) ?_
  show own_G p e below Φ T21 (mkF m 44 #[.val (.ref a1), .val (.ref ob2), .val (.ref ar), .val (.int (4 : Int32)), .val (.int (4 : Int32)), .val (.int v3)] [])
  refine own_go (fun _ => XS.aloadN X21.here hx rfl (hb hby d4_44) rfl rfl) ?_
  show own_G p e below Φ T21 (mkF m 45 #[.val (.ref a1), .val (.ref ob2), .val (.ref ar), .val (.int (4 : Int32)), .val (.int (4 : Int32)), .val (.int v3)] [(.ref ob2)])
  rw [hΦ]
  refine own_ret X21 (v := some (.ref ob2)) (fun h => by rw [Bd.returns] at h; cases h) (BodyLoose.notSynchronized Bd) (fun fs hr => retOut X21 hx Bd.returns rfl (Or.inr (Or.inr (Or.inr (Or.inr ⟨rfl, rfl, rfl⟩)))) (hb hby d4_45) hr) ?_ (by decide) (by decide)
  rw [e21]
  exact ⟨ob2, sz_ob2, ka2, rfl, N21, K21, V21⟩
theorem d6_0 : decode method_3_code 0 = .ok (.iconst 0, 1) := by decide +kernel
theorem d6_1 : decode method_3_code 1 = .ok (.istore 6, 2) := by decide +kernel
theorem d6_3 : decode method_3_code 3 = .ok (.iload_n 1, 1) := by decide +kernel
theorem d6_4 : decode method_3_code 4 = .ok (.ifCond .le 11, 3) := by decide +kernel
theorem d6_15 : decode method_3_code 15 = .ok (.iload_n 1, 1) := by decide +kernel
theorem d6_16 : decode method_3_code 16 = .ok (.iconst 1, 1) := by decide +kernel
theorem d6_17 : decode method_3_code 17 = .ok (.if_icmp .le 11, 3) := by decide +kernel
theorem d6_28 : decode method_3_code 28 = .ok (.iload_n 1, 1) := by decide +kernel
theorem d6_29 : decode method_3_code 29 = .ok (.iconst 2, 1) := by decide +kernel
theorem d6_30 : decode method_3_code 30 = .ok (.if_icmp .le 12, 3) := by decide +kernel
theorem d6_42 : decode method_3_code 42 = .ok (.iload_n 1, 1) := by decide +kernel
theorem d6_43 : decode method_3_code 43 = .ok (.iconst 3, 1) := by decide +kernel
theorem d6_44 : decode method_3_code 44 = .ok (.if_icmp .le 12, 3) := by decide +kernel
theorem d6_56 : decode method_3_code 56 = .ok (.iload 6, 2) := by decide +kernel
theorem d6_58 : decode method_3_code 58 = .ok (.ireturn, 1) := by decide +kernel
theorem d6_47 : decode method_3_code 47 = .ok (.iload 5, 2) := by decide +kernel
theorem d6_49 : decode method_3_code 49 = .ok (.iload_n 0, 1) := by decide +kernel
theorem d6_50 : decode method_3_code 50 = .ok (.if_icmp .ne 6, 3) := by decide +kernel
theorem d6_53 : decode method_3_code 53 = .ok (.iinc 6 1, 3) := by decide +kernel
theorem d6_33 : decode method_3_code 33 = .ok (.iload 4, 2) := by decide +kernel
theorem d6_35 : decode method_3_code 35 = .ok (.iload_n 0, 1) := by decide +kernel
theorem d6_36 : decode method_3_code 36 = .ok (.if_icmp .ne 6, 3) := by decide +kernel
theorem d6_39 : decode method_3_code 39 = .ok (.iinc 6 1, 3) := by decide +kernel
theorem d6_20 : decode method_3_code 20 = .ok (.iload_n 3, 1) := by decide +kernel
theorem d6_21 : decode method_3_code 21 = .ok (.iload_n 0, 1) := by decide +kernel
theorem d6_22 : decode method_3_code 22 = .ok (.if_icmp .ne 6, 3) := by decide +kernel
theorem d6_25 : decode method_3_code 25 = .ok (.iinc 6 1, 3) := by decide +kernel
theorem d6_7 : decode method_3_code 7 = .ok (.iload_n 2, 1) := by decide +kernel
theorem d6_8 : decode method_3_code 8 = .ok (.iload_n 0, 1) := by decide +kernel
theorem d6_9 : decode method_3_code 9 = .ok (.if_icmp .ne 6, 3) := by decide +kernel
theorem d6_12 : decode method_3_code 12 = .ok (.iinc 6 1, 3) := by decide +kernel
theorem pn_1 : plainName "com/example/edgewarden/edgewarden/graph/LikenessGetClassSizesPinLaw" = true := by first | (simp [plainName, overriddenIn]; done) | decide +kernel
theorem ef_rmN (m : MethodId) (p0 : Int32) (p1 : Int32) (p2 : Int32) (p3 : Int32) (p4 : Int32) (p5 : Int32) : entryFrame m #[(.int p0), (.int p1), (.int p2), (.int p3), (.int p4), (.int p5)] 7 = mkF m 0 #[.val (.int p0), .val (.int p1), .val (.int p2), .val (.int p3), .val (.int p4), .val (.int p5), .unset] [] := by first | (simp [entryFrame, mkF, argsToLocals, Value.category]; done) | rfl
def Q_rmN (Z : State) (p0 : Int32) (p1 : Int32) (p2 : Int32) (p3 : Int32) (p4 : Int32) (p5 : Int32) (h0 : Heap) (n0 : Nat) (v : Option Value) (h : Heap) (L : List Loc) : Prop := v = some (.int (own_cnt p0 p1 p2 p3 p4 p5)) ∧ Fr n0 L ∧ h = h0
set_option maxRecDepth 65536 in
set_option maxHeartbeats 40000000 in
theorem rmN (l : Launch) (Z : State) (a0 : Array Value) (hw : ∀ d ∈ tables_1, d.before a0 Z = true) (ws : List Jvm.Cond) (p0 : Int32) (p1 : Int32) (p2 : Int32) (p3 : Int32) (p4 : Int32) (p5 : Int32) (h0 : Heap) (n0 : Nat) (Z0 : n0 ≤ h0.size)  :
    MetFree l (⟨"com/example/edgewarden/edgewarden/graph/LikenessGetClassSizesPinLaw", "cnt", "(IIIIII)I"⟩ : MethodName) (head1 (Jvm.Cond.code (⟨"com/example/edgewarden/edgewarden/graph/LikenessGetClassSizesPinLaw", "cnt", "(IIIIII)I"⟩ : MethodName) method_3_code 7 (some .int) :: ws) ({ frames := 0, cells := 0, slots := 0, locals := 0 } : Room)) (fun a U => a = #[(.int p0), (.int p1), (.int p2), (.int p3), (.int p4), (.int p5)] ∧ Z.Warmed39 U.vm ∧ U.heap = h0) (fun _ _ _ _ _ => True) (fun _ U o U' => ∃ v L, o = .returned v ∧ Q_rmN Z p0 p1 p2 p3 p4 p5 h0 n0 v U'.heap L ∧ FrameEnd U o U' L ({ frames := 0, cells := 0, slots := 0, locals := 0 } : Room).cells ({ frames := 0, cells := 0, slots := 0, locals := 0 } : Room).slots) := by
  refine MetFree.of_bodySF (plainFor_of_name pn_1) hisR ?_
  intro p e s m args below meth c s₁ Bd hml0 hP hK
  obtain ⟨rfl, hZ, hh⟩ := hP
  have hx := Bd.exec
  have hby := Bd.bytes
  have hml : c.maxLocals = 7 := hml0
  have hown : s.vm.findClass "com/example/edgewarden/edgewarden/graph/LikenessGetClassSizesPinLaw" = some m.cls := findClass_of_methodNamed Bd.named
  have hnm := (name_of_methodNamed Bd.named Bd.method).1
  have X0 : Stand p l e ({ frames := 0, cells := 0, slots := 0, locals := 0 } : Room) s m #[(.int p0), (.int p1), (.int p2), (.int p3), (.int p4), (.int p5)] below meth c s₁ [] 0 0 := Stand.of_body Bd
  have e0 : s₁.heap = h0 := by rw [← hh, Bd.state]; rfl
  have N0 := Fr.nil n0
  suffices G0 : own_G p e below (own_E s below (Q_rmN Z p0 p1 p2 p3 p4 p5 h0 n0) ({ frames := 0, cells := 0, slots := 0, locals := 0 } : Room).cells ({ frames := 0, cells := 0, slots := 0, locals := 0 } : Room).slots) s₁ (mkF m 0 #[.val (.int p0), .val (.int p1), .val (.int p2), .val (.int p3), .val (.int p4), .val (.int p5), .unset] []) by
    obtain ⟨zt, zst, zo, zq1, zq2, zq3⟩ := G0
    exact ⟨zt, zo, castTop (ef_rmN m p0 p1 p2 p3 p4 p5) zst, zq1, zq2, zq3⟩
  obtain ⟨Φ, hΦ⟩ : ∃ Φ, Φ = own_E s below (Q_rmN Z p0 p1 p2 p3 p4 p5 h0 n0) ({ frames := 0, cells := 0, slots := 0, locals := 0 } : Room).cells ({ frames := 0, cells := 0, slots := 0, locals := 0 } : Room).slots := ⟨_, rfl⟩
  rw [← hΦ]
  show own_G p e below Φ s₁ (mkF m 0 #[.val (.int p0), .val (.int p1), .val (.int p2), .val (.int p3), .val (.int p4), .val (.int p5), .unset] [])
  refine own_go (fun _ => XS.iconst X0.here hx rfl (hb hby d6_0)) ?_
  show own_G p e below Φ s₁ (mkF m 1 #[.val (.int p0), .val (.int p1), .val (.int p2), .val (.int p3), .val (.int p4), .val (.int p5), .unset] [(.int (0 : Int32))])
  refine own_go (fun _ => XS.istore X0.here hx rfl (hb hby d6_1) rfl (l' := #[.val (.int p0), .val (.int p1), .val (.int p2), .val (.int p3), .val (.int p4), .val (.int p5), .val (.int (0 : Int32))]) rfl) ?_
  show own_G p e below Φ s₁ (mkF m 3 #[.val (.int p0), .val (.int p1), .val (.int p2), .val (.int p3), .val (.int p4), .val (.int p5), .val (.int (0 : Int32))] [])
  refine own_go (fun _ => XS.iloadN X0.here hx rfl (hb hby d6_3) rfl) ?_
  show own_G p e below Φ s₁ (mkF m 4 #[.val (.int p0), .val (.int p1), .val (.int p2), .val (.int p3), .val (.int p4), .val (.int p5), .val (.int (0 : Int32))] [(.int p1)])
  have hJ15_1 : ∀ (T' : State), own_Al X0 T' → T'.heap = h0 → ∀ (s1 : Int32), (s1 = own_stp 0 p1 0 p2 p0) → own_G p e below Φ T' (mkF m 15 #[.val (.int p0), .val (.int p1), .val (.int p2), .val (.int p3), .val (.int p4), .val (.int p5), .val (.int s1)] []) := by
    intro T1 X1' e1 s1 h_s1
    have X1 : Stand _ _ _ _ _ _ _ _ _ _ T1 _ _ _ := X1'
    show own_G p e below Φ T1 (mkF m 15 #[.val (.int p0), .val (.int p1), .val (.int p2), .val (.int p3), .val (.int p4), .val (.int p5), .val (.int s1)] [])
    refine own_go (fun _ => XS.iloadN X1.here hx rfl (hb hby d6_15) rfl) ?_
    show own_G p e below Φ T1 (mkF m 16 #[.val (.int p0), .val (.int p1), .val (.int p2), .val (.int p3), .val (.int p4), .val (.int p5), .val (.int s1)] [(.int p1)])
    refine own_go (fun _ => XS.iconst X1.here hx rfl (hb hby d6_16)) ?_
    show own_G p e below Φ T1 (mkF m 17 #[.val (.int p0), .val (.int p1), .val (.int p2), .val (.int p3), .val (.int p4), .val (.int p5), .val (.int s1)] [(.int (1 : Int32)), (.int p1)])
    have hJ28_2 : ∀ (T' : State), own_Al X1 T' → T'.heap = h0 → ∀ (s2 : Int32), (s2 = own_stp s1 p1 1 p3 p0) → own_G p e below Φ T' (mkF m 28 #[.val (.int p0), .val (.int p1), .val (.int p2), .val (.int p3), .val (.int p4), .val (.int p5), .val (.int s2)] []) := by
      intro T2 X2' e2 s2 h_s2
      have X2 : Stand _ _ _ _ _ _ _ _ _ _ T2 _ _ _ := X2'
      show own_G p e below Φ T2 (mkF m 28 #[.val (.int p0), .val (.int p1), .val (.int p2), .val (.int p3), .val (.int p4), .val (.int p5), .val (.int s2)] [])
      refine own_go (fun _ => XS.iloadN X2.here hx rfl (hb hby d6_28) rfl) ?_
      show own_G p e below Φ T2 (mkF m 29 #[.val (.int p0), .val (.int p1), .val (.int p2), .val (.int p3), .val (.int p4), .val (.int p5), .val (.int s2)] [(.int p1)])
      refine own_go (fun _ => XS.iconst X2.here hx rfl (hb hby d6_29)) ?_
      show own_G p e below Φ T2 (mkF m 30 #[.val (.int p0), .val (.int p1), .val (.int p2), .val (.int p3), .val (.int p4), .val (.int p5), .val (.int s2)] [(.int (2 : Int32)), (.int p1)])
      have hJ42_3 : ∀ (T' : State), own_Al X2 T' → T'.heap = h0 → ∀ (s3 : Int32), (s3 = own_stp s2 p1 2 p4 p0) → own_G p e below Φ T' (mkF m 42 #[.val (.int p0), .val (.int p1), .val (.int p2), .val (.int p3), .val (.int p4), .val (.int p5), .val (.int s3)] []) := by
        intro T3 X3' e3 s3 h_s3
        have X3 : Stand _ _ _ _ _ _ _ _ _ _ T3 _ _ _ := X3'
        show own_G p e below Φ T3 (mkF m 42 #[.val (.int p0), .val (.int p1), .val (.int p2), .val (.int p3), .val (.int p4), .val (.int p5), .val (.int s3)] [])
        refine own_go (fun _ => XS.iloadN X3.here hx rfl (hb hby d6_42) rfl) ?_
        show own_G p e below Φ T3 (mkF m 43 #[.val (.int p0), .val (.int p1), .val (.int p2), .val (.int p3), .val (.int p4), .val (.int p5), .val (.int s3)] [(.int p1)])
        refine own_go (fun _ => XS.iconst X3.here hx rfl (hb hby d6_43)) ?_
        show own_G p e below Φ T3 (mkF m 44 #[.val (.int p0), .val (.int p1), .val (.int p2), .val (.int p3), .val (.int p4), .val (.int p5), .val (.int s3)] [(.int (3 : Int32)), (.int p1)])
        have hJ56_4 : ∀ (T' : State), own_Al X3 T' → T'.heap = h0 → ∀ (s4 : Int32), (s4 = own_stp s3 p1 3 p5 p0) → own_G p e below Φ T' (mkF m 56 #[.val (.int p0), .val (.int p1), .val (.int p2), .val (.int p3), .val (.int p4), .val (.int p5), .val (.int s4)] []) := by
          intro T4 X4' e4 s4 h_s4
          have X4 : Stand _ _ _ _ _ _ _ _ _ _ T4 _ _ _ := X4'
          show own_G p e below Φ T4 (mkF m 56 #[.val (.int p0), .val (.int p1), .val (.int p2), .val (.int p3), .val (.int p4), .val (.int p5), .val (.int s4)] [])
          refine own_go (fun _ => XS.iload X4.here hx rfl (hb hby d6_56) rfl) ?_
          show own_G p e below Φ T4 (mkF m 58 #[.val (.int p0), .val (.int p1), .val (.int p2), .val (.int p3), .val (.int p4), .val (.int p5), .val (.int s4)] [(.int s4)])
          rw [hΦ]
          refine own_ret X4 (v := some (.int s4)) (fun h => by rw [Bd.returns] at h; cases h) (BodyLoose.notSynchronized Bd) (fun fs hr => retOut X4 hx Bd.returns rfl (Or.inl ⟨rfl, Or.inl rfl, _, rfl⟩) (hb hby d6_58) hr) ?_ (by decide) (by decide)
          rw [e4]
          exact ⟨(by rw [h_s4, h_s3, h_s2, h_s1]; rfl), N0, rfl⟩
        by_cases hc44 : (3 : Int32) < p1
        · refine own_go (fun _ => XS.icmpNo X3.here hx rfl (hb hby d6_44) rfl (Jvm.Free.XT.ii_le_f hc44)) ?_
          show own_G p e below Φ T3 (mkF m 47 #[.val (.int p0), .val (.int p1), .val (.int p2), .val (.int p3), .val (.int p4), .val (.int p5), .val (.int s3)] [])
          refine own_go (fun _ => XS.iload X3.here hx rfl (hb hby d6_47) rfl) ?_
          show own_G p e below Φ T3 (mkF m 49 #[.val (.int p0), .val (.int p1), .val (.int p2), .val (.int p3), .val (.int p4), .val (.int p5), .val (.int s3)] [(.int p5)])
          refine own_go (fun _ => XS.iloadN X3.here hx rfl (hb hby d6_49) rfl) ?_
          show own_G p e below Φ T3 (mkF m 50 #[.val (.int p0), .val (.int p1), .val (.int p2), .val (.int p3), .val (.int p4), .val (.int p5), .val (.int s3)] [(.int p0), (.int p5)])
          by_cases hc50 : p5 = p0
          · refine own_go (fun _ => XS.icmpNo X3.here hx rfl (hb hby d6_50) rfl (Jvm.Free.XT.ii_ne_f hc50)) ?_
            show own_G p e below Φ T3 (mkF m 53 #[.val (.int p0), .val (.int p1), .val (.int p2), .val (.int p3), .val (.int p4), .val (.int p5), .val (.int s3)] [])
            refine own_go (fun _ => XS.iinc X3.here hx rfl (hb hby d6_53) rfl (l' := #[.val (.int p0), .val (.int p1), .val (.int p2), .val (.int p3), .val (.int p4), .val (.int p5), .val (.int (s3 + (1 : Int32)))]) rfl) ?_
            exact hJ56_4 _ X3 e3 _ (by simp [own_stp, hc44, hc50])
          · refine own_go (fun _ => XS.icmpYes X3.here hx rfl (pc0 := 50) (pc' := 56) rfl (hb hby d6_50) rfl (Jvm.Free.XT.ii_ne_t hc50) (by decide) (by decide)) ?_
            exact hJ56_4 _ X3 e3 _ (by simp [own_stp, hc44, hc50])
        · refine own_go (fun _ => XS.icmpYes X3.here hx rfl (pc0 := 44) (pc' := 56) rfl (hb hby d6_44) rfl (Jvm.Free.XT.ii_le_t hc44) (by decide) (by decide)) ?_
          exact hJ56_4 _ X3 e3 _ (by simp [own_stp, hc44])
      by_cases hc30 : (2 : Int32) < p1
      · refine own_go (fun _ => XS.icmpNo X2.here hx rfl (hb hby d6_30) rfl (Jvm.Free.XT.ii_le_f hc30)) ?_
        show own_G p e below Φ T2 (mkF m 33 #[.val (.int p0), .val (.int p1), .val (.int p2), .val (.int p3), .val (.int p4), .val (.int p5), .val (.int s2)] [])
        refine own_go (fun _ => XS.iload X2.here hx rfl (hb hby d6_33) rfl) ?_
        show own_G p e below Φ T2 (mkF m 35 #[.val (.int p0), .val (.int p1), .val (.int p2), .val (.int p3), .val (.int p4), .val (.int p5), .val (.int s2)] [(.int p4)])
        refine own_go (fun _ => XS.iloadN X2.here hx rfl (hb hby d6_35) rfl) ?_
        show own_G p e below Φ T2 (mkF m 36 #[.val (.int p0), .val (.int p1), .val (.int p2), .val (.int p3), .val (.int p4), .val (.int p5), .val (.int s2)] [(.int p0), (.int p4)])
        by_cases hc36 : p4 = p0
        · refine own_go (fun _ => XS.icmpNo X2.here hx rfl (hb hby d6_36) rfl (Jvm.Free.XT.ii_ne_f hc36)) ?_
          show own_G p e below Φ T2 (mkF m 39 #[.val (.int p0), .val (.int p1), .val (.int p2), .val (.int p3), .val (.int p4), .val (.int p5), .val (.int s2)] [])
          refine own_go (fun _ => XS.iinc X2.here hx rfl (hb hby d6_39) rfl (l' := #[.val (.int p0), .val (.int p1), .val (.int p2), .val (.int p3), .val (.int p4), .val (.int p5), .val (.int (s2 + (1 : Int32)))]) rfl) ?_
          exact hJ42_3 _ X2 e2 _ (by simp [own_stp, hc30, hc36])
        · refine own_go (fun _ => XS.icmpYes X2.here hx rfl (pc0 := 36) (pc' := 42) rfl (hb hby d6_36) rfl (Jvm.Free.XT.ii_ne_t hc36) (by decide) (by decide)) ?_
          exact hJ42_3 _ X2 e2 _ (by simp [own_stp, hc30, hc36])
      · refine own_go (fun _ => XS.icmpYes X2.here hx rfl (pc0 := 30) (pc' := 42) rfl (hb hby d6_30) rfl (Jvm.Free.XT.ii_le_t hc30) (by decide) (by decide)) ?_
        exact hJ42_3 _ X2 e2 _ (by simp [own_stp, hc30])
    by_cases hc17 : (1 : Int32) < p1
    · refine own_go (fun _ => XS.icmpNo X1.here hx rfl (hb hby d6_17) rfl (Jvm.Free.XT.ii_le_f hc17)) ?_
      show own_G p e below Φ T1 (mkF m 20 #[.val (.int p0), .val (.int p1), .val (.int p2), .val (.int p3), .val (.int p4), .val (.int p5), .val (.int s1)] [])
      refine own_go (fun _ => XS.iloadN X1.here hx rfl (hb hby d6_20) rfl) ?_
      show own_G p e below Φ T1 (mkF m 21 #[.val (.int p0), .val (.int p1), .val (.int p2), .val (.int p3), .val (.int p4), .val (.int p5), .val (.int s1)] [(.int p3)])
      refine own_go (fun _ => XS.iloadN X1.here hx rfl (hb hby d6_21) rfl) ?_
      show own_G p e below Φ T1 (mkF m 22 #[.val (.int p0), .val (.int p1), .val (.int p2), .val (.int p3), .val (.int p4), .val (.int p5), .val (.int s1)] [(.int p0), (.int p3)])
      by_cases hc22 : p3 = p0
      · refine own_go (fun _ => XS.icmpNo X1.here hx rfl (hb hby d6_22) rfl (Jvm.Free.XT.ii_ne_f hc22)) ?_
        show own_G p e below Φ T1 (mkF m 25 #[.val (.int p0), .val (.int p1), .val (.int p2), .val (.int p3), .val (.int p4), .val (.int p5), .val (.int s1)] [])
        refine own_go (fun _ => XS.iinc X1.here hx rfl (hb hby d6_25) rfl (l' := #[.val (.int p0), .val (.int p1), .val (.int p2), .val (.int p3), .val (.int p4), .val (.int p5), .val (.int (s1 + (1 : Int32)))]) rfl) ?_
        exact hJ28_2 _ X1 e1 _ (by simp [own_stp, hc17, hc22])
      · refine own_go (fun _ => XS.icmpYes X1.here hx rfl (pc0 := 22) (pc' := 28) rfl (hb hby d6_22) rfl (Jvm.Free.XT.ii_ne_t hc22) (by decide) (by decide)) ?_
        exact hJ28_2 _ X1 e1 _ (by simp [own_stp, hc17, hc22])
    · refine own_go (fun _ => XS.icmpYes X1.here hx rfl (pc0 := 17) (pc' := 28) rfl (hb hby d6_17) rfl (Jvm.Free.XT.ii_le_t hc17) (by decide) (by decide)) ?_
      exact hJ28_2 _ X1 e1 _ (by simp [own_stp, hc17])
  by_cases hc4 : (0 : Int32) < p1
  · refine own_go (fun _ => XS.ifNo X0.here hx rfl (hb hby d6_4) rfl (Jvm.Free.XT.i0_le_f hc4)) ?_
    show own_G p e below Φ s₁ (mkF m 7 #[.val (.int p0), .val (.int p1), .val (.int p2), .val (.int p3), .val (.int p4), .val (.int p5), .val (.int (0 : Int32))] [])
    refine own_go (fun _ => XS.iloadN X0.here hx rfl (hb hby d6_7) rfl) ?_
    show own_G p e below Φ s₁ (mkF m 8 #[.val (.int p0), .val (.int p1), .val (.int p2), .val (.int p3), .val (.int p4), .val (.int p5), .val (.int (0 : Int32))] [(.int p2)])
    refine own_go (fun _ => XS.iloadN X0.here hx rfl (hb hby d6_8) rfl) ?_
    show own_G p e below Φ s₁ (mkF m 9 #[.val (.int p0), .val (.int p1), .val (.int p2), .val (.int p3), .val (.int p4), .val (.int p5), .val (.int (0 : Int32))] [(.int p0), (.int p2)])
    by_cases hc9 : p2 = p0
    · refine own_go (fun _ => XS.icmpNo X0.here hx rfl (hb hby d6_9) rfl (Jvm.Free.XT.ii_ne_f hc9)) ?_
      show own_G p e below Φ s₁ (mkF m 12 #[.val (.int p0), .val (.int p1), .val (.int p2), .val (.int p3), .val (.int p4), .val (.int p5), .val (.int (0 : Int32))] [])
      refine own_go (fun _ => XS.iinc X0.here hx rfl (hb hby d6_12) rfl (l' := #[.val (.int p0), .val (.int p1), .val (.int p2), .val (.int p3), .val (.int p4), .val (.int p5), .val (.int (1 : Int32))]) rfl) ?_
      exact hJ15_1 _ X0 e0 _ (by simp [own_stp, hc4, hc9])
    · refine own_go (fun _ => XS.icmpYes X0.here hx rfl (pc0 := 9) (pc' := 15) rfl (hb hby d6_9) rfl (Jvm.Free.XT.ii_ne_t hc9) (by decide) (by decide)) ?_
      exact hJ15_1 _ X0 e0 _ (by simp [own_stp, hc4, hc9])
  · refine own_go (fun _ => XS.ifYes X0.here hx rfl (pc0 := 4) (pc' := 15) rfl (hb hby d6_4) rfl (Jvm.Free.XT.i0_le_t hc4) (by decide) (by decide)) ?_
    exact hJ15_1 _ X0 e0 _ (by simp [own_stp, hc4])
theorem d5_0 : decode method_4_code 0 = .ok (.iload_n 2, 1) := by decide +kernel
theorem d5_1 : decode method_4_code 1 = .ok (.aload_n 0, 1) := by decide +kernel
theorem d5_2 : decode method_4_code 2 = .ok (.arraylength, 1) := by decide +kernel
theorem d5_3 : decode method_4_code 3 = .ok (.if_icmp .lt 5, 3) := by decide +kernel
theorem d5_8 : decode method_4_code 8 = .ok (.iload_n 2, 1) := by decide +kernel
theorem d5_9 : decode method_4_code 9 = .ok (.iload_n 3, 1) := by decide +kernel
theorem d5_10 : decode method_4_code 10 = .ok (.iload 4, 2) := by decide +kernel
theorem d5_12 : decode method_4_code 12 = .ok (.iload 5, 2) := by decide +kernel
theorem d5_14 : decode method_4_code 14 = .ok (.iload 6, 2) := by decide +kernel
theorem d5_16 : decode method_4_code 16 = .ok (.iload 7, 2) := by decide +kernel
theorem d5_18 : decode method_4_code 18 = .ok (.invokestatic 29, 3) := by decide +kernel
theorem wd_29 {Z : State} {a0 : Array Value} (hw : ∀ d ∈ tables_1, d.before a0 Z = true) : ((Jvm.Cond.methodLink "com/example/edgewarden/edgewarden/graph/LikenessGetClassSizesPinLaw" (29 : Nat) ({ cls := "com/example/edgewarden/edgewarden/graph/LikenessGetClassSizesPinLaw", name := "cnt", desc := "(IIIIII)I" } : Jvm.MethodName)) : Jvm.Cond).before a0 Z = true := hw _ (List.mem_of_getElem? (i := 29) rfl)
theorem wd_31 {Z : State} {a0 : Array Value} (hw : ∀ d ∈ tables_1, d.before a0 Z = true) : ((Jvm.Cond.code ({ cls := "com/example/edgewarden/edgewarden/graph/LikenessGetClassSizesPinLaw", name := "cnt", desc := "(IIIIII)I" } : Jvm.MethodName) method_3_code (7 : Nat) (Option.some Jvm.ClassFile.FieldType.int)) : Jvm.Cond).before a0 Z = true := hw _ (List.mem_of_getElem? (i := 31) rfl)
theorem wd_26 {Z : State} {a0 : Array Value} (hw : ∀ d ∈ tables_1, d.before a0 Z = true) : ((Jvm.Cond.initialized "com/example/edgewarden/edgewarden/graph/LikenessGetClassSizesPinLaw") : Jvm.Cond).before a0 Z = true := hw _ (List.mem_of_getElem? (i := 26) rfl)
theorem pd_1 : parseMethodDescriptor "(IIIIII)I" = some ⟨[.int, .int, .int, .int, .int, .int], some .int⟩ := by decide +kernel
theorem wd_30 {Z : State} {a0 : Array Value} (hw : ∀ d ∈ tables_1, d.before a0 Z = true) : ((Jvm.Cond.static ({ cls := "com/example/edgewarden/edgewarden/graph/LikenessGetClassSizesPinLaw", name := "cnt", desc := "(IIIIII)I" } : Jvm.MethodName)) : Jvm.Cond).before a0 Z = true := hw _ (List.mem_of_getElem? (i := 30) rfl)
theorem d5_21 : decode method_4_code 21 = .ok (.istore 8, 2) := by decide +kernel
theorem d5_23 : decode method_4_code 23 = .ok (.aload_n 0, 1) := by decide +kernel
theorem d5_24 : decode method_4_code 24 = .ok (.iload_n 2, 1) := by decide +kernel
theorem d5_25 : decode method_4_code 25 = .ok (.iaload, 1) := by decide +kernel
theorem d5_26 : decode method_4_code 26 = .ok (.iload 8, 2) := by decide +kernel
theorem d5_28 : decode method_4_code 28 = .ok (.if_icmp .ne 15, 3) := by decide +kernel
theorem d5_31 : decode method_4_code 31 = .ok (.aload_n 1, 1) := by decide +kernel
theorem d5_32 : decode method_4_code 32 = .ok (.iload_n 2, 1) := by decide +kernel
theorem d5_33 : decode method_4_code 33 = .ok (.iaload, 1) := by decide +kernel
theorem d5_34 : decode method_4_code 34 = .ok (.iload 8, 2) := by decide +kernel
theorem d5_36 : decode method_4_code 36 = .ok (.if_icmp .ne 7, 3) := by decide +kernel
theorem d5_39 : decode method_4_code 39 = .ok (.iconst 1, 1) := by decide +kernel
theorem d5_40 : decode method_4_code 40 = .ok (.goto 4, 3) := by decide +kernel
theorem d5_44 : decode method_4_code 44 = .ok (.ireturn, 1) := by decide +kernel
theorem d5_6 : decode method_4_code 6 = .ok (.iconst 1, 1) := by decide +kernel
theorem d5_7 : decode method_4_code 7 = .ok (.ireturn, 1) := by decide +kernel
theorem ef_rmK (m : MethodId) (r1 : Addr) (r2 : Addr) (p0 : Int32) (p1 : Int32) (p2 : Int32) (p3 : Int32) (p4 : Int32) (p5 : Int32) : entryFrame m #[(.ref r1), (.ref r2), (.int p0), (.int p1), (.int p2), (.int p3), (.int p4), (.int p5)] 9 = mkF m 0 #[.val (.ref r1), .val (.ref r2), .val (.int p0), .val (.int p1), .val (.int p2), .val (.int p3), .val (.int p4), .val (.int p5), .unset] [] := by first | (simp [entryFrame, mkF, argsToLocals, Value.category]; done) | rfl
def Q_rmK (Z : State) (r1 : Addr) (r2 : Addr) (k1 : ClassId) (k2 : ClassId) (z : Int32) (LL : List Int32) (p0 : Int32) (p1 : Int32) (p2 : Int32) (p3 : Int32) (p4 : Int32) (p5 : Int32) (h0 : Heap) (n0 : Nat) (v : Option Value) (h : Heap) (L : List Loc) : Prop := v = some (.int (1 : Int32)) ∧ Fr n0 L ∧ h = h0
set_option maxRecDepth 65536 in
set_option maxHeartbeats 40000000 in
theorem rmK (l : Launch) (Z : State) (a0 : Array Value) (hw : ∀ d ∈ tables_1, d.before a0 Z = true) (ws : List Jvm.Cond) (r1 : Addr) (r2 : Addr) (k1 : ClassId) (k2 : ClassId) (z : Int32) (LL : List Int32) (p0 : Int32) (p1 : Int32) (p2 : Int32) (p3 : Int32) (p4 : Int32) (p5 : Int32) (h0 : Heap) (n0 : Nat) (Z0 : n0 ≤ h0.size) (V_r1 : Arv Z h0 r1 k1 .int z (own_vs LL) (.int (0 : Int32))) (V_r2 : Arv Z h0 r2 k2 .int z (own_vs LL) (.int (0 : Int32))) (hk0 : ¬ p0 < 0) (hcn : p0 < z → LL.getD p0.toNatClampNeg 0 = own_cnt p0 p1 p2 p3 p4 p5) :
    MetFree l (⟨"com/example/edgewarden/edgewarden/graph/LikenessGetClassSizesPinLaw", "sizeOk", "([I[IIIIIII)Z"⟩ : MethodName) (head1 (Jvm.Cond.code (⟨"com/example/edgewarden/edgewarden/graph/LikenessGetClassSizesPinLaw", "sizeOk", "([I[IIIIIII)Z"⟩ : MethodName) method_4_code 9 (some .boolean) :: ws) ({ frames := 1, cells := 0, slots := 0, locals := 18 } : Room)) (fun a U => a = #[(.ref r1), (.ref r2), (.int p0), (.int p1), (.int p2), (.int p3), (.int p4), (.int p5)] ∧ Z.Warmed39 U.vm ∧ U.heap = h0) (fun _ _ _ _ _ => True) (fun _ U o U' => ∃ v L, o = .returned v ∧ Q_rmK Z r1 r2 k1 k2 z LL p0 p1 p2 p3 p4 p5 h0 n0 v U'.heap L ∧ FrameEnd U o U' L ({ frames := 1, cells := 0, slots := 0, locals := 18 } : Room).cells ({ frames := 1, cells := 0, slots := 0, locals := 18 } : Room).slots) := by
  refine MetFree.of_bodySF (plainFor_of_name pn_1) hisR ?_
  intro p e s m args below meth c s₁ Bd hml0 hP hK
  obtain ⟨rfl, hZ, hh⟩ := hP
  have hx := Bd.exec
  have hby := Bd.bytes
  have hml : c.maxLocals = 9 := hml0
  have hown : s.vm.findClass "com/example/edgewarden/edgewarden/graph/LikenessGetClassSizesPinLaw" = some m.cls := findClass_of_methodNamed Bd.named
  have hnm := (name_of_methodNamed Bd.named Bd.method).1
  have X0 : Stand p l e ({ frames := 1, cells := 0, slots := 0, locals := 18 } : Room) s m #[(.ref r1), (.ref r2), (.int p0), (.int p1), (.int p2), (.int p3), (.int p4), (.int p5)] below meth c s₁ [] 0 0 := Stand.of_body Bd
  have e0 : s₁.heap = h0 := by rw [← hh, Bd.state]; rfl
  have N0 := Fr.nil n0
  suffices G0 : own_G p e below (own_E s below (Q_rmK Z r1 r2 k1 k2 z LL p0 p1 p2 p3 p4 p5 h0 n0) ({ frames := 1, cells := 0, slots := 0, locals := 18 } : Room).cells ({ frames := 1, cells := 0, slots := 0, locals := 18 } : Room).slots) s₁ (mkF m 0 #[.val (.ref r1), .val (.ref r2), .val (.int p0), .val (.int p1), .val (.int p2), .val (.int p3), .val (.int p4), .val (.int p5), .unset] []) by
    obtain ⟨zt, zst, zo, zq1, zq2, zq3⟩ := G0
    exact ⟨zt, zo, castTop (ef_rmK m r1 r2 p0 p1 p2 p3 p4 p5) zst, zq1, zq2, zq3⟩
  obtain ⟨Φ, hΦ⟩ : ∃ Φ, Φ = own_E s below (Q_rmK Z r1 r2 k1 k2 z LL p0 p1 p2 p3 p4 p5 h0 n0) ({ frames := 1, cells := 0, slots := 0, locals := 18 } : Room).cells ({ frames := 1, cells := 0, slots := 0, locals := 18 } : Room).slots := ⟨_, rfl⟩
  rw [← hΦ]
  show own_G p e below Φ s₁ (mkF m 0 #[.val (.ref r1), .val (.ref r2), .val (.int p0), .val (.int p1), .val (.int p2), .val (.int p3), .val (.int p4), .val (.int p5), .unset] [])
  refine own_go (fun _ => XS.iloadN X0.here hx rfl (hb hby d5_0) rfl) ?_
  show own_G p e below Φ s₁ (mkF m 1 #[.val (.ref r1), .val (.ref r2), .val (.int p0), .val (.int p1), .val (.int p2), .val (.int p3), .val (.int p4), .val (.int p5), .unset] [(.int p0)])
  refine own_go (fun _ => XS.aloadN X0.here hx rfl (hb hby d5_1) rfl rfl) ?_
  show own_G p e below Φ s₁ (mkF m 2 #[.val (.ref r1), .val (.ref r2), .val (.int p0), .val (.int p1), .val (.int p2), .val (.int p3), .val (.int p4), .val (.int p5), .unset] [(.ref r1), (.int p0)])
  obtain ⟨cl1, Ar1, q1, S1, M1, H1, G1⟩ := id V_r1
  refine own_go (fun _ => X0.arraylength hx (by rw [e0]; exact Ar1.1) (State.isArrayOf_alike hZ.alike Ar1.2.1) (g := (mkF m 2 #[.val (.ref r1), .val (.ref r2), .val (.int p0), .val (.int p1), .val (.int p2), .val (.int p3), .val (.int p4), .val (.int p5), .unset] [(.ref r1), (.int p0)])) rfl rfl (hb hby d5_2) _) ?_
  rw [len_of S1 M1]
  show own_G p e below Φ s₁ (mkF m 3 #[.val (.ref r1), .val (.ref r2), .val (.int p0), .val (.int p1), .val (.int p2), .val (.int p3), .val (.int p4), .val (.int p5), .unset] [(.int z), (.int p0)])
  by_cases hc3 : p0 < z
  · refine own_go (fun _ => XS.icmpYes X0.here hx rfl (pc0 := 3) (pc' := 8) rfl (hb hby d5_3) rfl (Jvm.Free.XT.ii_lt_t hc3) (by decide) (by decide)) ?_
    show own_G p e below Φ s₁ (mkF m 8 #[.val (.ref r1), .val (.ref r2), .val (.int p0), .val (.int p1), .val (.int p2), .val (.int p3), .val (.int p4), .val (.int p5), .unset] [])
    refine own_go (fun _ => XS.iloadN X0.here hx rfl (hb hby d5_8) rfl) ?_
    show own_G p e below Φ s₁ (mkF m 9 #[.val (.ref r1), .val (.ref r2), .val (.int p0), .val (.int p1), .val (.int p2), .val (.int p3), .val (.int p4), .val (.int p5), .unset] [(.int p0)])
    refine own_go (fun _ => XS.iloadN X0.here hx rfl (hb hby d5_9) rfl) ?_
    show own_G p e below Φ s₁ (mkF m 10 #[.val (.ref r1), .val (.ref r2), .val (.int p0), .val (.int p1), .val (.int p2), .val (.int p3), .val (.int p4), .val (.int p5), .unset] [(.int p1), (.int p0)])
    refine own_go (fun _ => XS.iload X0.here hx rfl (hb hby d5_10) rfl) ?_
    show own_G p e below Φ s₁ (mkF m 12 #[.val (.ref r1), .val (.ref r2), .val (.int p0), .val (.int p1), .val (.int p2), .val (.int p3), .val (.int p4), .val (.int p5), .unset] [(.int p2), (.int p1), (.int p0)])
    refine own_go (fun _ => XS.iload X0.here hx rfl (hb hby d5_12) rfl) ?_
    show own_G p e below Φ s₁ (mkF m 14 #[.val (.ref r1), .val (.ref r2), .val (.int p0), .val (.int p1), .val (.int p2), .val (.int p3), .val (.int p4), .val (.int p5), .unset] [(.int p3), (.int p2), (.int p1), (.int p0)])
    refine own_go (fun _ => XS.iload X0.here hx rfl (hb hby d5_14) rfl) ?_
    show own_G p e below Φ s₁ (mkF m 16 #[.val (.ref r1), .val (.ref r2), .val (.int p0), .val (.int p1), .val (.int p2), .val (.int p3), .val (.int p4), .val (.int p5), .unset] [(.int p4), (.int p3), (.int p2), (.int p1), (.int p0)])
    refine own_go (fun _ => XS.iload X0.here hx rfl (hb hby d5_16) rfl) ?_
    show own_G p e below Φ s₁ (mkF m 18 #[.val (.ref r1), .val (.ref r2), .val (.int p0), .val (.int p1), .val (.int p2), .val (.int p3), .val (.int p4), .val (.int p5), .unset] [(.int p5), (.int p4), (.int p3), (.int p2), (.int p1), (.int p0)])
    obtain ⟨_, _, ⟨T2, zL2, zk2, zn2⟩, -, X2, ⟨Lc2, hQ2, l2, y2, z2⟩, st2⟩ := Jvm.LawKit.callS X0 hx (y := (⟨"com/example/edgewarden/edgewarden/graph/LikenessGetClassSizesPinLaw", "cnt", "(IIIIII)I"⟩ : MethodName)) hown (mvT hZ (wd_29 hw)) (mvT hZ (wd_30 hw)) (mvT hZ (wd_26 hw)) (mvT hZ (wd_31 hw)) (by decide) (backOf (W := 0) (rmN l Z a0 hw [] p0 p1 p2 p3 p4 p5 h0 n0 Z0 ) hZ (wd_31 hw) (wd_26 hw) (by decide) (by decide)) (g := (mkF m 18 #[.val (.ref r1), .val (.ref r2), .val (.int p0), .val (.int p1), .val (.int p2), .val (.int p3), .val (.int p4), .val (.int p5), .unset] [(.int p5), (.int p4), (.int p3), (.int p2), (.int p1), (.int p0)])) rfl (by rw [hml]; rfl) (argsL := [(.int p0), (.int p1), (.int p2), (.int p3), (.int p4), (.int p5)]) (rest := []) (lenOf pd_1 rfl) rfl (by show 2 * 0 + _ ≤ _; exact Nat.le_of_eq rfl) (hb hby d5_18) (fun _ _ => ⟨rfl, e0, (by decide : 0 + 0 ≤ _), (by decide : 0 + 0 ≤ _)⟩)
    dsimp only [Pt.U, Pt.locs, Pt.cells, Pt.slots] at X2 l2 y2 z2 st2 hQ2
    subst l2 y2 z2
    obtain ⟨rfl, N2q, hs2⟩ := hQ2
    have N2 := Fr.app N0 N2q
    refine own_go st2 ?_
    show own_G p e below Φ T2 (mkF m 21 #[.val (.ref r1), .val (.ref r2), .val (.int p0), .val (.int p1), .val (.int p2), .val (.int p3), .val (.int p4), .val (.int p5), .unset] [(.int (own_cnt p0 p1 p2 p3 p4 p5))])
    refine own_go (fun _ => XS.istore X2.here hx rfl (hb hby d5_21) rfl (l' := #[.val (.ref r1), .val (.ref r2), .val (.int p0), .val (.int p1), .val (.int p2), .val (.int p3), .val (.int p4), .val (.int p5), .val (.int (own_cnt p0 p1 p2 p3 p4 p5))]) rfl) ?_
    show own_G p e below Φ T2 (mkF m 23 #[.val (.ref r1), .val (.ref r2), .val (.int p0), .val (.int p1), .val (.int p2), .val (.int p3), .val (.int p4), .val (.int p5), .val (.int (own_cnt p0 p1 p2 p3 p4 p5))] [])
    refine own_go (fun _ => XS.aloadN X2.here hx rfl (hb hby d5_23) rfl rfl) ?_
    show own_G p e below Φ T2 (mkF m 24 #[.val (.ref r1), .val (.ref r2), .val (.int p0), .val (.int p1), .val (.int p2), .val (.int p3), .val (.int p4), .val (.int p5), .val (.int (own_cnt p0 p1 p2 p3 p4 p5))] [(.ref r1)])
    refine own_go (fun _ => XS.iloadN X2.here hx rfl (hb hby d5_24) rfl) ?_
    show own_G p e below Φ T2 (mkF m 25 #[.val (.ref r1), .val (.ref r2), .val (.int p0), .val (.int p1), .val (.int p2), .val (.int p3), .val (.int p4), .val (.int p5), .val (.int (own_cnt p0 p1 p2 p3 p4 p5))] [(.int p0), (.ref r1)])
    obtain ⟨cl3, Ar3, q3, S3, M3, H3, G3⟩ := id V_r1
    have hin3 : ¬ (p0 < 0 ∨ cl3.slots.size ≤ (p0).toNatClampNeg) := inb_of S3 ⟨hk0, hc3⟩
    refine own_go (fun _ => X2.iaload hx (j := p0) (v := (.int (own_cnt p0 p1 p2 p3 p4 p5))) (by rw [hs2]; exact Ar3.1) (State.isArrayOf_alike hZ.alike Ar3.2.1) Ar3.2.2 hin3 (H3.at hin3 ((own_vs_at _ _).trans (congrArg Value.int (hcn hc3)))) (g := (mkF m 25 #[.val (.ref r1), .val (.ref r2), .val (.int p0), .val (.int p1), .val (.int p2), .val (.int p3), .val (.int p4), .val (.int p5), .val (.int (own_cnt p0 p1 p2 p3 p4 p5))] [(.int p0), (.ref r1)])) rfl rfl (hb hby d5_25) _) ?_
    show own_G p e below Φ T2 (mkF m 26 #[.val (.ref r1), .val (.ref r2), .val (.int p0), .val (.int p1), .val (.int p2), .val (.int p3), .val (.int p4), .val (.int p5), .val (.int (own_cnt p0 p1 p2 p3 p4 p5))] [(.int (own_cnt p0 p1 p2 p3 p4 p5))])
    refine own_go (fun _ => XS.iload X2.here hx rfl (hb hby d5_26) rfl) ?_
    show own_G p e below Φ T2 (mkF m 28 #[.val (.ref r1), .val (.ref r2), .val (.int p0), .val (.int p1), .val (.int p2), .val (.int p3), .val (.int p4), .val (.int p5), .val (.int (own_cnt p0 p1 p2 p3 p4 p5))] [(.int (own_cnt p0 p1 p2 p3 p4 p5)), (.int (own_cnt p0 p1 p2 p3 p4 p5))])
    refine own_go (fun _ => XS.icmpNo X2.here hx rfl (hb hby d5_28) rfl (Jvm.Free.XT.ii_ne_f (rfl : (own_cnt p0 p1 p2 p3 p4 p5) = (own_cnt p0 p1 p2 p3 p4 p5)))) ?_
    show own_G p e below Φ T2 (mkF m 31 #[.val (.ref r1), .val (.ref r2), .val (.int p0), .val (.int p1), .val (.int p2), .val (.int p3), .val (.int p4), .val (.int p5), .val (.int (own_cnt p0 p1 p2 p3 p4 p5))] [])
    refine own_go (fun _ => XS.aloadN X2.here hx rfl (hb hby d5_31) rfl rfl) ?_
    show own_G p e below Φ T2 (mkF m 32 #[.val (.ref r1), .val (.ref r2), .val (.int p0), .val (.int p1), .val (.int p2), .val (.int p3), .val (.int p4), .val (.int p5), .val (.int (own_cnt p0 p1 p2 p3 p4 p5))] [(.ref r2)])
    refine own_go (fun _ => XS.iloadN X2.here hx rfl (hb hby d5_32) rfl) ?_
    show own_G p e below Φ T2 (mkF m 33 #[.val (.ref r1), .val (.ref r2), .val (.int p0), .val (.int p1), .val (.int p2), .val (.int p3), .val (.int p4), .val (.int p5), .val (.int (own_cnt p0 p1 p2 p3 p4 p5))] [(.int p0), (.ref r2)])
    obtain ⟨cl4, Ar4, q4, S4, M4, H4, G4⟩ := id V_r2
    have hin4 : ¬ (p0 < 0 ∨ cl4.slots.size ≤ (p0).toNatClampNeg) := inb_of S4 ⟨hk0, hc3⟩
    refine own_go (fun _ => X2.iaload hx (j := p0) (v := (.int (own_cnt p0 p1 p2 p3 p4 p5))) (by rw [hs2]; exact Ar4.1) (State.isArrayOf_alike hZ.alike Ar4.2.1) Ar4.2.2 hin4 (H4.at hin4 ((own_vs_at _ _).trans (congrArg Value.int (hcn hc3)))) (g := (mkF m 33 #[.val (.ref r1), .val (.ref r2), .val (.int p0), .val (.int p1), .val (.int p2), .val (.int p3), .val (.int p4), .val (.int p5), .val (.int (own_cnt p0 p1 p2 p3 p4 p5))] [(.int p0), (.ref r2)])) rfl rfl (hb hby d5_33) _) ?_
    show own_G p e below Φ T2 (mkF m 34 #[.val (.ref r1), .val (.ref r2), .val (.int p0), .val (.int p1), .val (.int p2), .val (.int p3), .val (.int p4), .val (.int p5), .val (.int (own_cnt p0 p1 p2 p3 p4 p5))] [(.int (own_cnt p0 p1 p2 p3 p4 p5))])
    refine own_go (fun _ => XS.iload X2.here hx rfl (hb hby d5_34) rfl) ?_
    show own_G p e below Φ T2 (mkF m 36 #[.val (.ref r1), .val (.ref r2), .val (.int p0), .val (.int p1), .val (.int p2), .val (.int p3), .val (.int p4), .val (.int p5), .val (.int (own_cnt p0 p1 p2 p3 p4 p5))] [(.int (own_cnt p0 p1 p2 p3 p4 p5)), (.int (own_cnt p0 p1 p2 p3 p4 p5))])
    refine own_go (fun _ => XS.icmpNo X2.here hx rfl (hb hby d5_36) rfl (Jvm.Free.XT.ii_ne_f (rfl : (own_cnt p0 p1 p2 p3 p4 p5) = (own_cnt p0 p1 p2 p3 p4 p5)))) ?_
    show own_G p e below Φ T2 (mkF m 39 #[.val (.ref r1), .val (.ref r2), .val (.int p0), .val (.int p1), .val (.int p2), .val (.int p3), .val (.int p4), .val (.int p5), .val (.int (own_cnt p0 p1 p2 p3 p4 p5))] [])
    refine own_go (fun _ => XS.iconst X2.here hx rfl (hb hby d5_39)) ?_
    show own_G p e below Φ T2 (mkF m 40 #[.val (.ref r1), .val (.ref r2), .val (.int p0), .val (.int p1), .val (.int p2), .val (.int p3), .val (.int p4), .val (.int p5), .val (.int (own_cnt p0 p1 p2 p3 p4 p5))] [(.int (1 : Int32))])
    refine own_go (fun _ => XS.goto X2.here hx rfl (pc0 := 40) (pc' := 44) rfl (hb hby d5_40) (by decide) (by decide)) ?_
    show own_G p e below Φ T2 (mkF m 44 #[.val (.ref r1), .val (.ref r2), .val (.int p0), .val (.int p1), .val (.int p2), .val (.int p3), .val (.int p4), .val (.int p5), .val (.int (own_cnt p0 p1 p2 p3 p4 p5))] [(.int (1 : Int32))])
    rw [hΦ]
    refine own_ret X2 (v := some (.int (1 : Int32))) (fun h => by rw [Bd.returns] at h; cases h) (BodyLoose.notSynchronized Bd) (fun fs hr => retN X2 hx (t := .boolean) Bd.returns (by simp) (hb hby d5_44) hr) ?_ (by decide) (by decide)
    rw [hs2]
    exact ⟨rfl, N2, rfl⟩
  · refine own_go (fun _ => XS.icmpNo X0.here hx rfl (hb hby d5_3) rfl (Jvm.Free.XT.ii_lt_f hc3)) ?_
    show own_G p e below Φ s₁ (mkF m 6 #[.val (.ref r1), .val (.ref r2), .val (.int p0), .val (.int p1), .val (.int p2), .val (.int p3), .val (.int p4), .val (.int p5), .unset] [])
    refine own_go (fun _ => XS.iconst X0.here hx rfl (hb hby d5_6)) ?_
    show own_G p e below Φ s₁ (mkF m 7 #[.val (.ref r1), .val (.ref r2), .val (.int p0), .val (.int p1), .val (.int p2), .val (.int p3), .val (.int p4), .val (.int p5), .unset] [(.int (1 : Int32))])
    rw [hΦ]
    refine own_ret X0 (v := some (.int (1 : Int32))) (fun h => by rw [Bd.returns] at h; cases h) (BodyLoose.notSynchronized Bd) (fun fs hr => retN X0 hx (t := .boolean) Bd.returns (by simp) (hb hby d5_7) hr) ?_ (by decide) (by decide)
    rw [e0]
    exact ⟨rfl, N0, rfl⟩
theorem wd_0 {Z : State} {a0 : Array Value} (hw : ∀ d ∈ tables_1, d.before a0 Z = true) : ((Jvm.Cond.constant "com/example/edgewarden/edgewarden/graph/LikenessGetClassSizesPinLaw" (7 : Nat) (2147483647 : Int32)) : Jvm.Cond).before a0 Z = true := hw _ (List.mem_of_getElem? (i := 0) rfl)
theorem wd_1 {Z : State} {a0 : Array Value} (hw : ∀ d ∈ tables_1, d.before a0 Z = true) : ((Jvm.Cond.methodLink "com/example/edgewarden/edgewarden/graph/LikenessGetClassSizesPinLaw" (8 : Nat) ({ cls := "java/lang/Math", name := "max", desc := "(II)I" } : Jvm.MethodName)) : Jvm.Cond).before a0 Z = true := hw _ (List.mem_of_getElem? (i := 1) rfl)
theorem wd_6 {Z : State} {a0 : Array Value} (hw : ∀ d ∈ tables_1, d.before a0 Z = true) : ((Jvm.Cond.classLink "com/example/edgewarden/edgewarden/graph/LikenessGetClassSizesPinLaw" (14 : Nat) "com/example/edgewarden/edgewarden/graph/Likeness") : Jvm.Cond).before a0 Z = true := hw _ (List.mem_of_getElem? (i := 6) rfl)
theorem wd_8 {Z : State} {a0 : Array Value} (hw : ∀ d ∈ tables_1, d.before a0 Z = true) : ((Jvm.Cond.initialized "com/example/edgewarden/edgewarden/graph/Likeness") : Jvm.Cond).before a0 Z = true := hw _ (List.mem_of_getElem? (i := 8) rfl)
theorem wd_9 {Z : State} {a0 : Array Value} (hw : ∀ d ∈ tables_1, d.before a0 Z = true) : ((Jvm.Cond.methodLink "com/example/edgewarden/edgewarden/graph/LikenessGetClassSizesPinLaw" (16 : Nat) ({ cls := "com/example/edgewarden/edgewarden/graph/Likeness", name := "<init>", desc := "([I)V" } : Jvm.MethodName)) : Jvm.Cond).before a0 Z = true := hw _ (List.mem_of_getElem? (i := 9) rfl)
theorem wd_11 {Z : State} {a0 : Array Value} (hw : ∀ d ∈ tables_1, d.before a0 Z = true) : ((Jvm.Cond.code ({ cls := "com/example/edgewarden/edgewarden/graph/Likeness", name := "<init>", desc := "([I)V" } : Jvm.MethodName) prog_57_method_3_code (7 : Nat) (Option.none : Option Jvm.ClassFile.FieldType)) : Jvm.Cond).before a0 Z = true := hw _ (List.mem_of_getElem? (i := 11) rfl)
theorem pd_2 : parseMethodDescriptor "([I)V" = some ⟨[(.array .int)], none⟩ := by decide +kernel
theorem wd_10 {Z : State} {a0 : Array Value} (hw : ∀ d ∈ tables_1, d.before a0 Z = true) : ((Jvm.Cond.instanceMethod ({ cls := "com/example/edgewarden/edgewarden/graph/Likeness", name := "<init>", desc := "([I)V" } : Jvm.MethodName)) : Jvm.Cond).before a0 Z = true := hw _ (List.mem_of_getElem? (i := 10) rfl)
theorem wd_19 {Z : State} {a0 : Array Value} (hw : ∀ d ∈ tables_1, d.before a0 Z = true) : ((Jvm.Cond.methodLink "com/example/edgewarden/edgewarden/graph/LikenessGetClassSizesPinLaw" (19 : Nat) ({ cls := "com/example/edgewarden/edgewarden/graph/Likeness", name := "getClassSizes", desc := "()[I" } : Jvm.MethodName)) : Jvm.Cond).before a0 Z = true := hw _ (List.mem_of_getElem? (i := 19) rfl)
theorem wd_23 {Z : State} {a0 : Array Value} (hw : ∀ d ∈ tables_1, d.before a0 Z = true) : ((Jvm.Cond.code ({ cls := "com/example/edgewarden/edgewarden/graph/Likeness", name := "getClassSizes", desc := "()[I" } : Jvm.MethodName) prog_57_method_6_code (6 : Nat) (Option.some (Jvm.ClassFile.FieldType.array Jvm.ClassFile.FieldType.int))) : Jvm.Cond).before a0 Z = true := hw _ (List.mem_of_getElem? (i := 23) rfl)
theorem pd_3 : parseMethodDescriptor "()[I" = some ⟨[], some (.array .int)⟩ := by decide +kernel
theorem wd_22 {Z : State} {a0 : Array Value} (hw : ∀ d ∈ tables_1, d.before a0 Z = true) : ((Jvm.Cond.selects "com/example/edgewarden/edgewarden/graph/Likeness" ({ cls := "com/example/edgewarden/edgewarden/graph/Likeness", name := "getClassSizes", desc := "()[I" } : Jvm.MethodName) ({ cls := "com/example/edgewarden/edgewarden/graph/Likeness", name := "getClassSizes", desc := "()[I" } : Jvm.MethodName)) : Jvm.Cond).before a0 Z = true := hw _ (List.mem_of_getElem? (i := 22) rfl)
theorem wd_20 {Z : State} {a0 : Array Value} (hw : ∀ d ∈ tables_1, d.before a0 Z = true) : ((Jvm.Cond.declares ({ cls := "com/example/edgewarden/edgewarden/graph/Likeness", name := "getClassSizes", desc := "()[I" } : Jvm.MethodName)) : Jvm.Cond).before a0 Z = true := hw _ (List.mem_of_getElem? (i := 20) rfl)
theorem wd_21 {Z : State} {a0 : Array Value} (hw : ∀ d ∈ tables_1, d.before a0 Z = true) : ((Jvm.Cond.instanceMethod ({ cls := "com/example/edgewarden/edgewarden/graph/Likeness", name := "getClassSizes", desc := "()[I" } : Jvm.MethodName)) : Jvm.Cond).before a0 Z = true := hw _ (List.mem_of_getElem? (i := 21) rfl)
theorem wd_24 {Z : State} {a0 : Array Value} (hw : ∀ d ∈ tables_1, d.before a0 Z = true) : ((Jvm.Cond.methodLink "com/example/edgewarden/edgewarden/graph/LikenessGetClassSizesPinLaw" (23 : Nat) ({ cls := "com/example/edgewarden/edgewarden/graph/LikenessGetClassSizesPinLaw", name := "sizeOk", desc := "([I[IIIIIII)Z" } : Jvm.MethodName)) : Jvm.Cond).before a0 Z = true := hw _ (List.mem_of_getElem? (i := 24) rfl)
theorem wd_27 {Z : State} {a0 : Array Value} (hw : ∀ d ∈ tables_1, d.before a0 Z = true) : ((Jvm.Cond.code ({ cls := "com/example/edgewarden/edgewarden/graph/LikenessGetClassSizesPinLaw", name := "sizeOk", desc := "([I[IIIIIII)Z" } : Jvm.MethodName) method_4_code (9 : Nat) (Option.some Jvm.ClassFile.FieldType.boolean)) : Jvm.Cond).before a0 Z = true := hw _ (List.mem_of_getElem? (i := 27) rfl)
theorem pd_4 : parseMethodDescriptor "([I[IIIIIII)Z" = some ⟨[(.array .int), (.array .int), .int, .int, .int, .int, .int, .int], some .boolean⟩ := by decide +kernel
theorem wd_25 {Z : State} {a0 : Array Value} (hw : ∀ d ∈ tables_1, d.before a0 Z = true) : ((Jvm.Cond.static ({ cls := "com/example/edgewarden/edgewarden/graph/LikenessGetClassSizesPinLaw", name := "sizeOk", desc := "([I[IIIIIII)Z" } : Jvm.MethodName)) : Jvm.Cond).before a0 Z = true := hw _ (List.mem_of_getElem? (i := 25) rfl)
theorem ef_rm0 (m : MethodId) (p0 : Int32) (p1 : Int32) (p2 : Int32) (p3 : Int32) : entryFrame m #[(.int p0), (.int p1), (.int p2), (.int p3)] maxLocals = mkF m 0 #[.val (.int p0), .val (.int p1), .val (.int p2), .val (.int p3), .unset, .unset, .unset, .unset, .unset, .unset, .unset, .unset, .unset, .unset, .unset, .unset] [] := by first | (simp [entryFrame, mkF, argsToLocals, Value.category, maxLocals]; done) | rfl
def Q_rm0 (Z : State) (p0 : Int32) (p1 : Int32) (p2 : Int32) (p3 : Int32) (h0 : Heap) (n0 : Nat) (v : Option Value) (h : Heap) (L : List Loc) : Prop := v = some (.int (1 : Int32)) ∧ Fr n0 L
set_option maxRecDepth 65536 in
set_option maxHeartbeats 40000000 in
theorem rm0 (l : Launch) (Z : State) (a0 : Array Value) (hw : ∀ d ∈ tables_1, d.before a0 Z = true) (ws : List Jvm.Cond) (p0 : Int32) (p1 : Int32) (p2 : Int32) (p3 : Int32) (h0 : Heap) (n0 : Nat) (Z0 : n0 ≤ h0.size)  :
    MetFree l x (head1 (Jvm.Cond.code x code maxLocals ret :: ws) room_1) (fun a U => a = #[(.int p0), (.int p1), (.int p2), (.int p3)] ∧ Z.Warmed39 U.vm ∧ U.heap = h0) (fun _ _ _ _ _ => True) (fun _ U o U' => ∃ v L, o = .returned v ∧ Q_rm0 Z p0 p1 p2 p3 h0 n0 v U'.heap L ∧ FrameEnd U o U' L room_1.cells room_1.slots) := by
  refine MetFree.of_bodySF (plainFor_of_name pn_1) hisR ?_
  intro p e s m args below meth c s₁ Bd hml0 hP hK
  obtain ⟨rfl, hZ, hh⟩ := hP
  have hx := Bd.exec
  have hby := Bd.bytes
  have hml : c.maxLocals = 16 := hml0
  have hown : s.vm.findClass "com/example/edgewarden/edgewarden/graph/LikenessGetClassSizesPinLaw" = some m.cls := findClass_of_methodNamed Bd.named
  have hnm := (name_of_methodNamed Bd.named Bd.method).1
  have X0 : Stand p l e room_1 s m #[(.int p0), (.int p1), (.int p2), (.int p3)] below meth c s₁ [] 0 0 := Stand.of_body Bd
  have e0 : s₁.heap = h0 := by rw [← hh, Bd.state]; rfl
  have N0 := Fr.nil n0
  suffices G0 : own_G p e below (own_E s below (Q_rm0 Z p0 p1 p2 p3 h0 n0) room_1.cells room_1.slots) s₁ (mkF m 0 #[.val (.int p0), .val (.int p1), .val (.int p2), .val (.int p3), .unset, .unset, .unset, .unset, .unset, .unset, .unset, .unset, .unset, .unset, .unset, .unset] []) by
    obtain ⟨zt, zst, zo, zq1, zq2, zq3⟩ := G0
    exact ⟨zt, zo, castTop (ef_rm0 m p0 p1 p2 p3) zst, zq1, zq2, zq3⟩
  obtain ⟨Φ, hΦ⟩ : ∃ Φ, Φ = own_E s below (Q_rm0 Z p0 p1 p2 p3 h0 n0) room_1.cells room_1.slots := ⟨_, rfl⟩
  rw [← hΦ]
  show own_G p e below Φ s₁ (mkF m 0 #[.val (.int p0), .val (.int p1), .val (.int p2), .val (.int p3), .unset, .unset, .unset, .unset, .unset, .unset, .unset, .unset, .unset, .unset, .unset, .unset] [])
  refine own_go (fun _ => XS.iloadN X0.here hx rfl (hb hby at_0) rfl) ?_
  show own_G p e below Φ s₁ (mkF m 1 #[.val (.int p0), .val (.int p1), .val (.int p2), .val (.int p3), .unset, .unset, .unset, .unset, .unset, .unset, .unset, .unset, .unset, .unset, .unset, .unset] [(.int p0)])
  refine own_go (fun _ => X0.ldcInt hx hown (mvT hZ (wd_0 hw)) (g := (mkF m 1 #[.val (.int p0), .val (.int p1), .val (.int p2), .val (.int p3), .unset, .unset, .unset, .unset, .unset, .unset, .unset, .unset, .unset, .unset, .unset, .unset] [(.int p0)])) rfl (hb hby at_1) _) ?_
  show own_G p e below Φ s₁ (mkF m 3 #[.val (.int p0), .val (.int p1), .val (.int p2), .val (.int p3), .unset, .unset, .unset, .unset, .unset, .unset, .unset, .unset, .unset, .unset, .unset, .unset] [(.int (2147483647 : Int32)), (.int p0)])
  refine own_go (fun _ => XS.iand X0.here hx rfl (hb hby at_3) rfl) ?_
  show own_G p e below Φ s₁ (mkF m 4 #[.val (.int p0), .val (.int p1), .val (.int p2), .val (.int p3), .unset, .unset, .unset, .unset, .unset, .unset, .unset, .unset, .unset, .unset, .unset, .unset] [(.int (p0 &&& (2147483647 : Int32)))])
  refine own_go (fun _ => XS.iconst X0.here hx rfl (hb hby at_4)) ?_
  show own_G p e below Φ s₁ (mkF m 5 #[.val (.int p0), .val (.int p1), .val (.int p2), .val (.int p3), .unset, .unset, .unset, .unset, .unset, .unset, .unset, .unset, .unset, .unset, .unset, .unset] [(.int (5 : Int32)), (.int (p0 &&& (2147483647 : Int32)))])
  refine own_go (fun _ => iremM X0 hx rfl (hb hby at_5) rfl (by decide)) ?_
  show own_G p e below Φ s₁ (mkF m 6 #[.val (.int p0), .val (.int p1), .val (.int p2), .val (.int p3), .unset, .unset, .unset, .unset, .unset, .unset, .unset, .unset, .unset, .unset, .unset, .unset] [(.int ((p0 &&& (2147483647 : Int32)) % (5 : Int32)))])
  refine own_go (fun _ => XS.istore X0.here hx rfl (hb hby at_6) rfl (l' := #[.val (.int p0), .val (.int p1), .val (.int p2), .val (.int p3), .val (.int ((p0 &&& (2147483647 : Int32)) % (5 : Int32))), .unset, .unset, .unset, .unset, .unset, .unset, .unset, .unset, .unset, .unset, .unset]) rfl) ?_
  show own_G p e below Φ s₁ (mkF m 8 #[.val (.int p0), .val (.int p1), .val (.int p2), .val (.int p3), .val (.int ((p0 &&& (2147483647 : Int32)) % (5 : Int32))), .unset, .unset, .unset, .unset, .unset, .unset, .unset, .unset, .unset, .unset, .unset] [])
  generalize hx4_6 : ((p0 &&& (2147483647 : Int32)) % (5 : Int32)) = x4_6
  show own_G p e below Φ s₁ (mkF m 8 #[.val (.int p0), .val (.int p1), .val (.int p2), .val (.int p3), .val (.int x4_6), .unset, .unset, .unset, .unset, .unset, .unset, .unset, .unset, .unset, .unset, .unset] [])
  refine own_go (fun _ => XS.iloadN X0.here hx rfl (hb hby at_8) rfl) ?_
  show own_G p e below Φ s₁ (mkF m 9 #[.val (.int p0), .val (.int p1), .val (.int p2), .val (.int p3), .val (.int x4_6), .unset, .unset, .unset, .unset, .unset, .unset, .unset, .unset, .unset, .unset, .unset] [(.int p1)])
  refine own_go (fun _ => X0.ldcInt hx hown (mvT hZ (wd_0 hw)) (g := (mkF m 9 #[.val (.int p0), .val (.int p1), .val (.int p2), .val (.int p3), .val (.int x4_6), .unset, .unset, .unset, .unset, .unset, .unset, .unset, .unset, .unset, .unset, .unset] [(.int p1)])) rfl (hb hby at_9) _) ?_
  show own_G p e below Φ s₁ (mkF m 11 #[.val (.int p0), .val (.int p1), .val (.int p2), .val (.int p3), .val (.int x4_6), .unset, .unset, .unset, .unset, .unset, .unset, .unset, .unset, .unset, .unset, .unset] [(.int (2147483647 : Int32)), (.int p1)])
  refine own_go (fun _ => XS.iand X0.here hx rfl (hb hby at_11) rfl) ?_
  show own_G p e below Φ s₁ (mkF m 12 #[.val (.int p0), .val (.int p1), .val (.int p2), .val (.int p3), .val (.int x4_6), .unset, .unset, .unset, .unset, .unset, .unset, .unset, .unset, .unset, .unset, .unset] [(.int (p1 &&& (2147483647 : Int32)))])
  refine own_go (fun _ => XS.iconst X0.here hx rfl (hb hby at_12)) ?_
  show own_G p e below Φ s₁ (mkF m 13 #[.val (.int p0), .val (.int p1), .val (.int p2), .val (.int p3), .val (.int x4_6), .unset, .unset, .unset, .unset, .unset, .unset, .unset, .unset, .unset, .unset, .unset] [(.int (2 : Int32)), (.int (p1 &&& (2147483647 : Int32)))])
  refine own_go (fun _ => iremM X0 hx rfl (hb hby at_13) rfl (by decide)) ?_
  show own_G p e below Φ s₁ (mkF m 14 #[.val (.int p0), .val (.int p1), .val (.int p2), .val (.int p3), .val (.int x4_6), .unset, .unset, .unset, .unset, .unset, .unset, .unset, .unset, .unset, .unset, .unset] [(.int ((p1 &&& (2147483647 : Int32)) % (2 : Int32)))])
  refine own_go (fun _ => XS.istore X0.here hx rfl (hb hby at_14) rfl (l' := #[.val (.int p0), .val (.int p1), .val (.int p2), .val (.int p3), .val (.int x4_6), .val (.int ((p1 &&& (2147483647 : Int32)) % (2 : Int32))), .unset, .unset, .unset, .unset, .unset, .unset, .unset, .unset, .unset, .unset]) rfl) ?_
  show own_G p e below Φ s₁ (mkF m 16 #[.val (.int p0), .val (.int p1), .val (.int p2), .val (.int p3), .val (.int x4_6), .val (.int ((p1 &&& (2147483647 : Int32)) % (2 : Int32))), .unset, .unset, .unset, .unset, .unset, .unset, .unset, .unset, .unset, .unset] [])
  generalize hx5_14 : ((p1 &&& (2147483647 : Int32)) % (2 : Int32)) = x5_14
  show own_G p e below Φ s₁ (mkF m 16 #[.val (.int p0), .val (.int p1), .val (.int p2), .val (.int p3), .val (.int x4_6), .val (.int x5_14), .unset, .unset, .unset, .unset, .unset, .unset, .unset, .unset, .unset, .unset] [])
  refine own_go (fun _ => XS.iconst X0.here hx rfl (hb hby at_16)) ?_
  show own_G p e below Φ s₁ (mkF m 17 #[.val (.int p0), .val (.int p1), .val (.int p2), .val (.int p3), .val (.int x4_6), .val (.int x5_14), .unset, .unset, .unset, .unset, .unset, .unset, .unset, .unset, .unset, .unset] [(.int (0 : Int32))])
  refine own_go (fun _ => XS.iload X0.here hx rfl (hb hby at_17) rfl) ?_
  show own_G p e below Φ s₁ (mkF m 19 #[.val (.int p0), .val (.int p1), .val (.int p2), .val (.int p3), .val (.int x4_6), .val (.int x5_14), .unset, .unset, .unset, .unset, .unset, .unset, .unset, .unset, .unset, .unset] [(.int x5_14), (.int (0 : Int32))])
  obtain ⟨_, _, ⟨T1, zL1, zk1, zn1⟩, -, X1, ⟨Lc1, hQ1, l1, y1, z1⟩, st1⟩ := Jvm.LawKit.callS X0 hx (y := (⟨"java/lang/Math", "max", "(II)I"⟩ : MethodName)) hown (mvT hZ (wd_1 hw)) (mvT hZ (wd_2 hw)) (mvT hZ (wd_3 hw)) (mvT hZ (wd_4 hw)) (by decide) (backOf (W := 0) (rmM l Z a0 hw [] (0 : Int32) x5_14 h0 n0 Z0 ) hZ (wd_4 hw) (wd_3 hw) (by decide) (by decide)) (g := (mkF m 19 #[.val (.int p0), .val (.int p1), .val (.int p2), .val (.int p3), .val (.int x4_6), .val (.int x5_14), .unset, .unset, .unset, .unset, .unset, .unset, .unset, .unset, .unset, .unset] [(.int x5_14), (.int (0 : Int32))])) rfl (by rw [hml]; rfl) (argsL := [(.int (0 : Int32)), (.int x5_14)]) (rest := []) (lenOf pd_0 rfl) rfl (by show 2 * 0 + _ ≤ _; exact Nat.le_of_eq rfl) (hb hby at_19) (fun _ _ => ⟨rfl, e0, (by decide : 0 + 0 ≤ _), (by decide : 0 + 0 ≤ _)⟩)
  dsimp only [Pt.U, Pt.locs, Pt.cells, Pt.slots] at X1 l1 y1 z1 st1 hQ1
  subst l1 y1 z1
  obtain ⟨rfl, N1q, hs1⟩ := hQ1
  have N1 := Fr.app N0 N1q
  refine own_go st1 ?_
  show own_G p e below Φ T1 (mkF m 22 #[.val (.int p0), .val (.int p1), .val (.int p2), .val (.int p3), .val (.int x4_6), .val (.int x5_14), .unset, .unset, .unset, .unset, .unset, .unset, .unset, .unset, .unset, .unset] [(.int (own_max (0 : Int32) x5_14))])
  refine own_go (fun _ => XS.istore X1.here hx rfl (hb hby at_22) rfl (l' := #[.val (.int p0), .val (.int p1), .val (.int p2), .val (.int p3), .val (.int x4_6), .val (.int x5_14), .val (.int (own_max (0 : Int32) x5_14)), .unset, .unset, .unset, .unset, .unset, .unset, .unset, .unset, .unset]) rfl) ?_
  show own_G p e below Φ T1 (mkF m 24 #[.val (.int p0), .val (.int p1), .val (.int p2), .val (.int p3), .val (.int x4_6), .val (.int x5_14), .val (.int (own_max (0 : Int32) x5_14)), .unset, .unset, .unset, .unset, .unset, .unset, .unset, .unset, .unset] [])
  generalize hx6_22 : (own_max (0 : Int32) x5_14) = x6_22
  show own_G p e below Φ T1 (mkF m 24 #[.val (.int p0), .val (.int p1), .val (.int p2), .val (.int p3), .val (.int x4_6), .val (.int x5_14), .val (.int x6_22), .unset, .unset, .unset, .unset, .unset, .unset, .unset, .unset, .unset] [])
  refine own_go (fun _ => XS.iloadN X1.here hx rfl (hb hby at_24) rfl) ?_
  show own_G p e below Φ T1 (mkF m 25 #[.val (.int p0), .val (.int p1), .val (.int p2), .val (.int p3), .val (.int x4_6), .val (.int x5_14), .val (.int x6_22), .unset, .unset, .unset, .unset, .unset, .unset, .unset, .unset, .unset] [(.int p2)])
  refine own_go (fun _ => X1.ldcInt hx hown (mvT hZ (wd_0 hw)) (g := (mkF m 25 #[.val (.int p0), .val (.int p1), .val (.int p2), .val (.int p3), .val (.int x4_6), .val (.int x5_14), .val (.int x6_22), .unset, .unset, .unset, .unset, .unset, .unset, .unset, .unset, .unset] [(.int p2)])) rfl (hb hby at_25) _) ?_
  show own_G p e below Φ T1 (mkF m 27 #[.val (.int p0), .val (.int p1), .val (.int p2), .val (.int p3), .val (.int x4_6), .val (.int x5_14), .val (.int x6_22), .unset, .unset, .unset, .unset, .unset, .unset, .unset, .unset, .unset] [(.int (2147483647 : Int32)), (.int p2)])
  refine own_go (fun _ => XS.iand X1.here hx rfl (hb hby at_27) rfl) ?_
  show own_G p e below Φ T1 (mkF m 28 #[.val (.int p0), .val (.int p1), .val (.int p2), .val (.int p3), .val (.int x4_6), .val (.int x5_14), .val (.int x6_22), .unset, .unset, .unset, .unset, .unset, .unset, .unset, .unset, .unset] [(.int (p2 &&& (2147483647 : Int32)))])
  refine own_go (fun _ => XS.iload X1.here hx rfl (hb hby at_28) rfl) ?_
  show own_G p e below Φ T1 (mkF m 30 #[.val (.int p0), .val (.int p1), .val (.int p2), .val (.int p3), .val (.int x4_6), .val (.int x5_14), .val (.int x6_22), .unset, .unset, .unset, .unset, .unset, .unset, .unset, .unset, .unset] [(.int x6_22), (.int (p2 &&& (2147483647 : Int32)))])
  refine own_go (fun _ => XS.iconst X1.here hx rfl (hb hby at_30)) ?_
  show own_G p e below Φ T1 (mkF m 31 #[.val (.int p0), .val (.int p1), .val (.int p2), .val (.int p3), .val (.int x4_6), .val (.int x5_14), .val (.int x6_22), .unset, .unset, .unset, .unset, .unset, .unset, .unset, .unset, .unset] [(.int (2 : Int32)), (.int x6_22), (.int (p2 &&& (2147483647 : Int32)))])
  refine own_go (fun _ => XS.iadd X1.here hx rfl (hb hby at_31) rfl) ?_
  show own_G p e below Φ T1 (mkF m 32 #[.val (.int p0), .val (.int p1), .val (.int p2), .val (.int p3), .val (.int x4_6), .val (.int x5_14), .val (.int x6_22), .unset, .unset, .unset, .unset, .unset, .unset, .unset, .unset, .unset] [(.int (x6_22 + (2 : Int32))), (.int (p2 &&& (2147483647 : Int32)))])
  refine own_go (fun _ => iremM X1 hx rfl (hb hby at_32) rfl (own_nz1 hx5_14 hx6_22)) ?_
  show own_G p e below Φ T1 (mkF m 33 #[.val (.int p0), .val (.int p1), .val (.int p2), .val (.int p3), .val (.int x4_6), .val (.int x5_14), .val (.int x6_22), .unset, .unset, .unset, .unset, .unset, .unset, .unset, .unset, .unset] [(.int ((p2 &&& (2147483647 : Int32)) % (x6_22 + (2 : Int32))))])
  refine own_go (fun _ => XS.istore X1.here hx rfl (hb hby at_33) rfl (l' := #[.val (.int p0), .val (.int p1), .val (.int p2), .val (.int p3), .val (.int x4_6), .val (.int x5_14), .val (.int x6_22), .val (.int ((p2 &&& (2147483647 : Int32)) % (x6_22 + (2 : Int32)))), .unset, .unset, .unset, .unset, .unset, .unset, .unset, .unset]) rfl) ?_
  show own_G p e below Φ T1 (mkF m 35 #[.val (.int p0), .val (.int p1), .val (.int p2), .val (.int p3), .val (.int x4_6), .val (.int x5_14), .val (.int x6_22), .val (.int ((p2 &&& (2147483647 : Int32)) % (x6_22 + (2 : Int32)))), .unset, .unset, .unset, .unset, .unset, .unset, .unset, .unset] [])
  generalize hx7_33 : ((p2 &&& (2147483647 : Int32)) % (x6_22 + (2 : Int32))) = x7_33
  show own_G p e below Φ T1 (mkF m 35 #[.val (.int p0), .val (.int p1), .val (.int p2), .val (.int p3), .val (.int x4_6), .val (.int x5_14), .val (.int x6_22), .val (.int x7_33), .unset, .unset, .unset, .unset, .unset, .unset, .unset, .unset] [])
  refine own_go (fun _ => XS.iload X1.here hx rfl (hb hby at_35) rfl) ?_
  show own_G p e below Φ T1 (mkF m 37 #[.val (.int p0), .val (.int p1), .val (.int p2), .val (.int p3), .val (.int x4_6), .val (.int x5_14), .val (.int x6_22), .val (.int x7_33), .unset, .unset, .unset, .unset, .unset, .unset, .unset, .unset] [(.int x6_22)])
  refine own_go (fun _ => XS.iload X1.here hx rfl (hb hby at_37) rfl) ?_
  show own_G p e below Φ T1 (mkF m 39 #[.val (.int p0), .val (.int p1), .val (.int p2), .val (.int p3), .val (.int x4_6), .val (.int x5_14), .val (.int x6_22), .val (.int x7_33), .unset, .unset, .unset, .unset, .unset, .unset, .unset, .unset] [(.int x7_33), (.int x6_22)])
  obtain ⟨_, _, ⟨T2, zL2, zk2, zn2⟩, -, X2, ⟨Lc2, hQ2, l2, y2, z2⟩, st2⟩ := Jvm.LawKit.callS X1 hx (y := (⟨"java/lang/Math", "max", "(II)I"⟩ : MethodName)) hown (mvT hZ (wd_1 hw)) (mvT hZ (wd_2 hw)) (mvT hZ (wd_3 hw)) (mvT hZ (wd_4 hw)) (by decide) (backOf (W := 0) (rmM l Z a0 hw [] x6_22 x7_33 h0 n0 Z0 ) hZ (wd_4 hw) (wd_3 hw) (by decide) (by decide)) (g := (mkF m 39 #[.val (.int p0), .val (.int p1), .val (.int p2), .val (.int p3), .val (.int x4_6), .val (.int x5_14), .val (.int x6_22), .val (.int x7_33), .unset, .unset, .unset, .unset, .unset, .unset, .unset, .unset] [(.int x7_33), (.int x6_22)])) rfl (by rw [hml]; rfl) (argsL := [(.int x6_22), (.int x7_33)]) (rest := []) (lenOf pd_0 rfl) rfl (by show 2 * 0 + _ ≤ _; exact Nat.le_of_eq rfl) (hb hby at_39) (fun _ _ => ⟨rfl, hs1, (by decide : 0 + 0 ≤ _), (by decide : 0 + 0 ≤ _)⟩)
  dsimp only [Pt.U, Pt.locs, Pt.cells, Pt.slots] at X2 l2 y2 z2 st2 hQ2
  subst l2 y2 z2
  obtain ⟨rfl, N2q, hs2⟩ := hQ2
  have N2 := Fr.app N1 N2q
  refine own_go st2 ?_
  show own_G p e below Φ T2 (mkF m 42 #[.val (.int p0), .val (.int p1), .val (.int p2), .val (.int p3), .val (.int x4_6), .val (.int x5_14), .val (.int x6_22), .val (.int x7_33), .unset, .unset, .unset, .unset, .unset, .unset, .unset, .unset] [(.int (own_max x6_22 x7_33))])
  refine own_go (fun _ => XS.istore X2.here hx rfl (hb hby at_42) rfl (l' := #[.val (.int p0), .val (.int p1), .val (.int p2), .val (.int p3), .val (.int x4_6), .val (.int x5_14), .val (.int x6_22), .val (.int x7_33), .val (.int (own_max x6_22 x7_33)), .unset, .unset, .unset, .unset, .unset, .unset, .unset]) rfl) ?_
  show own_G p e below Φ T2 (mkF m 44 #[.val (.int p0), .val (.int p1), .val (.int p2), .val (.int p3), .val (.int x4_6), .val (.int x5_14), .val (.int x6_22), .val (.int x7_33), .val (.int (own_max x6_22 x7_33)), .unset, .unset, .unset, .unset, .unset, .unset, .unset] [])
  generalize hx8_42 : (own_max x6_22 x7_33) = x8_42
  show own_G p e below Φ T2 (mkF m 44 #[.val (.int p0), .val (.int p1), .val (.int p2), .val (.int p3), .val (.int x4_6), .val (.int x5_14), .val (.int x6_22), .val (.int x7_33), .val (.int x8_42), .unset, .unset, .unset, .unset, .unset, .unset, .unset] [])
  refine own_go (fun _ => XS.iloadN X2.here hx rfl (hb hby at_44) rfl) ?_
  show own_G p e below Φ T2 (mkF m 45 #[.val (.int p0), .val (.int p1), .val (.int p2), .val (.int p3), .val (.int x4_6), .val (.int x5_14), .val (.int x6_22), .val (.int x7_33), .val (.int x8_42), .unset, .unset, .unset, .unset, .unset, .unset, .unset] [(.int p3)])
  refine own_go (fun _ => X2.ldcInt hx hown (mvT hZ (wd_0 hw)) (g := (mkF m 45 #[.val (.int p0), .val (.int p1), .val (.int p2), .val (.int p3), .val (.int x4_6), .val (.int x5_14), .val (.int x6_22), .val (.int x7_33), .val (.int x8_42), .unset, .unset, .unset, .unset, .unset, .unset, .unset] [(.int p3)])) rfl (hb hby at_45) _) ?_
  show own_G p e below Φ T2 (mkF m 47 #[.val (.int p0), .val (.int p1), .val (.int p2), .val (.int p3), .val (.int x4_6), .val (.int x5_14), .val (.int x6_22), .val (.int x7_33), .val (.int x8_42), .unset, .unset, .unset, .unset, .unset, .unset, .unset] [(.int (2147483647 : Int32)), (.int p3)])
  refine own_go (fun _ => XS.iand X2.here hx rfl (hb hby at_47) rfl) ?_
  show own_G p e below Φ T2 (mkF m 48 #[.val (.int p0), .val (.int p1), .val (.int p2), .val (.int p3), .val (.int x4_6), .val (.int x5_14), .val (.int x6_22), .val (.int x7_33), .val (.int x8_42), .unset, .unset, .unset, .unset, .unset, .unset, .unset] [(.int (p3 &&& (2147483647 : Int32)))])
  refine own_go (fun _ => XS.iload X2.here hx rfl (hb hby at_48) rfl) ?_
  show own_G p e below Φ T2 (mkF m 50 #[.val (.int p0), .val (.int p1), .val (.int p2), .val (.int p3), .val (.int x4_6), .val (.int x5_14), .val (.int x6_22), .val (.int x7_33), .val (.int x8_42), .unset, .unset, .unset, .unset, .unset, .unset, .unset] [(.int x8_42), (.int (p3 &&& (2147483647 : Int32)))])
  refine own_go (fun _ => XS.iconst X2.here hx rfl (hb hby at_50)) ?_
  show own_G p e below Φ T2 (mkF m 51 #[.val (.int p0), .val (.int p1), .val (.int p2), .val (.int p3), .val (.int x4_6), .val (.int x5_14), .val (.int x6_22), .val (.int x7_33), .val (.int x8_42), .unset, .unset, .unset, .unset, .unset, .unset, .unset] [(.int (2 : Int32)), (.int x8_42), (.int (p3 &&& (2147483647 : Int32)))])
  refine own_go (fun _ => XS.iadd X2.here hx rfl (hb hby at_51) rfl) ?_
  show own_G p e below Φ T2 (mkF m 52 #[.val (.int p0), .val (.int p1), .val (.int p2), .val (.int p3), .val (.int x4_6), .val (.int x5_14), .val (.int x6_22), .val (.int x7_33), .val (.int x8_42), .unset, .unset, .unset, .unset, .unset, .unset, .unset] [(.int (x8_42 + (2 : Int32))), (.int (p3 &&& (2147483647 : Int32)))])
  refine own_go (fun _ => iremM X2 hx rfl (hb hby at_52) rfl (own_nz2 hx5_14 hx6_22 hx7_33 hx8_42)) ?_
  show own_G p e below Φ T2 (mkF m 53 #[.val (.int p0), .val (.int p1), .val (.int p2), .val (.int p3), .val (.int x4_6), .val (.int x5_14), .val (.int x6_22), .val (.int x7_33), .val (.int x8_42), .unset, .unset, .unset, .unset, .unset, .unset, .unset] [(.int ((p3 &&& (2147483647 : Int32)) % (x8_42 + (2 : Int32))))])
  refine own_go (fun _ => XS.istore X2.here hx rfl (hb hby at_53) rfl (l' := #[.val (.int p0), .val (.int p1), .val (.int p2), .val (.int p3), .val (.int x4_6), .val (.int x5_14), .val (.int x6_22), .val (.int x7_33), .val (.int x8_42), .val (.int ((p3 &&& (2147483647 : Int32)) % (x8_42 + (2 : Int32)))), .unset, .unset, .unset, .unset, .unset, .unset]) rfl) ?_
  show own_G p e below Φ T2 (mkF m 55 #[.val (.int p0), .val (.int p1), .val (.int p2), .val (.int p3), .val (.int x4_6), .val (.int x5_14), .val (.int x6_22), .val (.int x7_33), .val (.int x8_42), .val (.int ((p3 &&& (2147483647 : Int32)) % (x8_42 + (2 : Int32)))), .unset, .unset, .unset, .unset, .unset, .unset] [])
  generalize hx9_53 : ((p3 &&& (2147483647 : Int32)) % (x8_42 + (2 : Int32))) = x9_53
  show own_G p e below Φ T2 (mkF m 55 #[.val (.int p0), .val (.int p1), .val (.int p2), .val (.int p3), .val (.int x4_6), .val (.int x5_14), .val (.int x6_22), .val (.int x7_33), .val (.int x8_42), .val (.int x9_53), .unset, .unset, .unset, .unset, .unset, .unset] [])
  refine own_go (fun _ => XS.iload X2.here hx rfl (hb hby at_55) rfl) ?_
  show own_G p e below Φ T2 (mkF m 57 #[.val (.int p0), .val (.int p1), .val (.int p2), .val (.int p3), .val (.int x4_6), .val (.int x5_14), .val (.int x6_22), .val (.int x7_33), .val (.int x8_42), .val (.int x9_53), .unset, .unset, .unset, .unset, .unset, .unset] [(.int x8_42)])
  refine own_go (fun _ => XS.iload X2.here hx rfl (hb hby at_57) rfl) ?_
  show own_G p e below Φ T2 (mkF m 59 #[.val (.int p0), .val (.int p1), .val (.int p2), .val (.int p3), .val (.int x4_6), .val (.int x5_14), .val (.int x6_22), .val (.int x7_33), .val (.int x8_42), .val (.int x9_53), .unset, .unset, .unset, .unset, .unset, .unset] [(.int x9_53), (.int x8_42)])
  obtain ⟨_, _, ⟨T3, zL3, zk3, zn3⟩, -, X3, ⟨Lc3, hQ3, l3, y3, z3⟩, st3⟩ := Jvm.LawKit.callS X2 hx (y := (⟨"java/lang/Math", "max", "(II)I"⟩ : MethodName)) hown (mvT hZ (wd_1 hw)) (mvT hZ (wd_2 hw)) (mvT hZ (wd_3 hw)) (mvT hZ (wd_4 hw)) (by decide) (backOf (W := 0) (rmM l Z a0 hw [] x8_42 x9_53 h0 n0 Z0 ) hZ (wd_4 hw) (wd_3 hw) (by decide) (by decide)) (g := (mkF m 59 #[.val (.int p0), .val (.int p1), .val (.int p2), .val (.int p3), .val (.int x4_6), .val (.int x5_14), .val (.int x6_22), .val (.int x7_33), .val (.int x8_42), .val (.int x9_53), .unset, .unset, .unset, .unset, .unset, .unset] [(.int x9_53), (.int x8_42)])) rfl (by rw [hml]; rfl) (argsL := [(.int x8_42), (.int x9_53)]) (rest := []) (lenOf pd_0 rfl) rfl (by show 2 * 0 + _ ≤ _; exact Nat.le_of_eq rfl) (hb hby at_59) (fun _ _ => ⟨rfl, hs2, (by decide : 0 + 0 ≤ _), (by decide : 0 + 0 ≤ _)⟩)
  dsimp only [Pt.U, Pt.locs, Pt.cells, Pt.slots] at X3 l3 y3 z3 st3 hQ3
  subst l3 y3 z3
  obtain ⟨rfl, N3q, hs3⟩ := hQ3
  have N3 := Fr.app N2 N3q
  refine own_go st3 ?_
  show own_G p e below Φ T3 (mkF m 62 #[.val (.int p0), .val (.int p1), .val (.int p2), .val (.int p3), .val (.int x4_6), .val (.int x5_14), .val (.int x6_22), .val (.int x7_33), .val (.int x8_42), .val (.int x9_53), .unset, .unset, .unset, .unset, .unset, .unset] [(.int (own_max x8_42 x9_53))])
  refine own_go (fun _ => XS.istore X3.here hx rfl (hb hby at_62) rfl (l' := #[.val (.int p0), .val (.int p1), .val (.int p2), .val (.int p3), .val (.int x4_6), .val (.int x5_14), .val (.int x6_22), .val (.int x7_33), .val (.int x8_42), .val (.int x9_53), .val (.int (own_max x8_42 x9_53)), .unset, .unset, .unset, .unset, .unset]) rfl) ?_
  show own_G p e below Φ T3 (mkF m 64 #[.val (.int p0), .val (.int p1), .val (.int p2), .val (.int p3), .val (.int x4_6), .val (.int x5_14), .val (.int x6_22), .val (.int x7_33), .val (.int x8_42), .val (.int x9_53), .val (.int (own_max x8_42 x9_53)), .unset, .unset, .unset, .unset, .unset] [])
  generalize hx10_62 : (own_max x8_42 x9_53) = x10_62
  have hall := own_all hx5_14 hx6_22 hx7_33 hx8_42 hx9_53 hx10_62
  show own_G p e below Φ T3 (mkF m 64 #[.val (.int p0), .val (.int p1), .val (.int p2), .val (.int p3), .val (.int x4_6), .val (.int x5_14), .val (.int x6_22), .val (.int x7_33), .val (.int x8_42), .val (.int x9_53), .val (.int x10_62), .unset, .unset, .unset, .unset, .unset] [])
  rcases own_r5 hx4_6 with rfl | rfl | rfl | rfl | rfl
  · show own_G p e below Φ T3 (mkF m 64 #[.val (.int p0), .val (.int p1), .val (.int p2), .val (.int p3), .val (.int (0 : Int32)), .val (.int x5_14), .val (.int x6_22), .val (.int x7_33), .val (.int x8_42), .val (.int x9_53), .val (.int x10_62), .unset, .unset, .unset, .unset, .unset] [])
    refine own_go (fun _ => XS.iload X3.here hx rfl (hb hby at_64) rfl) ?_
    show own_G p e below Φ T3 (mkF m 66 #[.val (.int p0), .val (.int p1), .val (.int p2), .val (.int p3), .val (.int (0 : Int32)), .val (.int x5_14), .val (.int x6_22), .val (.int x7_33), .val (.int x8_42), .val (.int x9_53), .val (.int x10_62), .unset, .unset, .unset, .unset, .unset] [(.int (0 : Int32))])
    obtain ⟨T4, h4, ka4, X4, e4, E4, A4, st4⟩ := newP (aty := .int) X3 hx hZ (wd_5 hw) hs3 (g := (mkF m 66 #[.val (.int p0), .val (.int p1), .val (.int p2), .val (.int p3), .val (.int (0 : Int32)), .val (.int x5_14), .val (.int x6_22), .val (.int x7_33), .val (.int x8_42), .val (.int x9_53), .val (.int x10_62), .unset, .unset, .unset, .unset, .unset] [(.int (0 : Int32))])) rfl (hb hby at_66) rfl (by decide) (cap := 0) (by decide) (by decide) (by decide) (by decide)
    obtain ⟨ob4, g4⟩ : ∃ z, z = h0.size := ⟨_, rfl⟩
    rw [← g4] at A4 st4
    have V4 : Arv Z h4 ob4 ka4 .int (0 : Int32) [] (.int (0 : Int32)) := (Arv.new A4 (by decide)).pad (pad_rep [] (.int (0 : Int32)) 0)
    have g_ob4 : n0 ≤ ob4 := Nat.le_trans Z0 (Nat.le_of_eq g4.symm)
    have Zp4 : n0 ≤ h4.size := Nat.le_trans Z0 E4.1
    refine own_go st4 ?_
    show own_G p e below Φ T4 (mkF m 68 #[.val (.int p0), .val (.int p1), .val (.int p2), .val (.int p3), .val (.int (0 : Int32)), .val (.int x5_14), .val (.int x6_22), .val (.int x7_33), .val (.int x8_42), .val (.int x9_53), .val (.int x10_62), .unset, .unset, .unset, .unset, .unset] [(.ref ob4)])
    refine own_go (fun _ => XS.astore X4.here hx rfl (hb hby at_68) rfl rfl (l' := #[.val (.int p0), .val (.int p1), .val (.int p2), .val (.int p3), .val (.int (0 : Int32)), .val (.int x5_14), .val (.int x6_22), .val (.int x7_33), .val (.int x8_42), .val (.int x9_53), .val (.int x10_62), .val (.ref ob4), .unset, .unset, .unset, .unset]) rfl) ?_
    show own_G p e below Φ T4 (mkF m 70 #[.val (.int p0), .val (.int p1), .val (.int p2), .val (.int p3), .val (.int (0 : Int32)), .val (.int x5_14), .val (.int x6_22), .val (.int x7_33), .val (.int x8_42), .val (.int x9_53), .val (.int x10_62), .val (.ref ob4), .unset, .unset, .unset, .unset] [])
    refine own_go (fun _ => XS.iload X4.here hx rfl (hb hby at_70) rfl) ?_
    show own_G p e below Φ T4 (mkF m 72 #[.val (.int p0), .val (.int p1), .val (.int p2), .val (.int p3), .val (.int (0 : Int32)), .val (.int x5_14), .val (.int x6_22), .val (.int x7_33), .val (.int x8_42), .val (.int x9_53), .val (.int x10_62), .val (.ref ob4), .unset, .unset, .unset, .unset] [(.int (0 : Int32))])
    refine own_go (fun _ => XS.ifYes X4.here hx rfl (pc0 := 72) (pc' := 80) rfl (hb hby at_72) rfl (Jvm.Free.XT.i0_le_t (by decide : ¬ ((0 : Int32) < (0 : Int32)))) (by decide) (by decide)) ?_
    show own_G p e below Φ T4 (mkF m 80 #[.val (.int p0), .val (.int p1), .val (.int p2), .val (.int p3), .val (.int (0 : Int32)), .val (.int x5_14), .val (.int x6_22), .val (.int x7_33), .val (.int x8_42), .val (.int x9_53), .val (.int x10_62), .val (.ref ob4), .unset, .unset, .unset, .unset] [])
    refine own_go (fun _ => XS.iload X4.here hx rfl (hb hby at_80) rfl) ?_
    show own_G p e below Φ T4 (mkF m 82 #[.val (.int p0), .val (.int p1), .val (.int p2), .val (.int p3), .val (.int (0 : Int32)), .val (.int x5_14), .val (.int x6_22), .val (.int x7_33), .val (.int x8_42), .val (.int x9_53), .val (.int x10_62), .val (.ref ob4), .unset, .unset, .unset, .unset] [(.int (0 : Int32))])
    refine own_go (fun _ => XS.iconst X4.here hx rfl (hb hby at_82)) ?_
    show own_G p e below Φ T4 (mkF m 83 #[.val (.int p0), .val (.int p1), .val (.int p2), .val (.int p3), .val (.int (0 : Int32)), .val (.int x5_14), .val (.int x6_22), .val (.int x7_33), .val (.int x8_42), .val (.int x9_53), .val (.int x10_62), .val (.ref ob4), .unset, .unset, .unset, .unset] [(.int (1 : Int32)), (.int (0 : Int32))])
    refine own_go (fun _ => XS.icmpYes X4.here hx rfl (pc0 := 83) (pc' := 92) rfl (hb hby at_83) rfl (Jvm.Free.XT.ii_le_t (by decide : ¬ ((1 : Int32) < (0 : Int32)))) (by decide) (by decide)) ?_
    show own_G p e below Φ T4 (mkF m 92 #[.val (.int p0), .val (.int p1), .val (.int p2), .val (.int p3), .val (.int (0 : Int32)), .val (.int x5_14), .val (.int x6_22), .val (.int x7_33), .val (.int x8_42), .val (.int x9_53), .val (.int x10_62), .val (.ref ob4), .unset, .unset, .unset, .unset] [])
    refine own_go (fun _ => XS.iload X4.here hx rfl (hb hby at_92) rfl) ?_
    show own_G p e below Φ T4 (mkF m 94 #[.val (.int p0), .val (.int p1), .val (.int p2), .val (.int p3), .val (.int (0 : Int32)), .val (.int x5_14), .val (.int x6_22), .val (.int x7_33), .val (.int x8_42), .val (.int x9_53), .val (.int x10_62), .val (.ref ob4), .unset, .unset, .unset, .unset] [(.int (0 : Int32))])
    refine own_go (fun _ => XS.iconst X4.here hx rfl (hb hby at_94)) ?_
    show own_G p e below Φ T4 (mkF m 95 #[.val (.int p0), .val (.int p1), .val (.int p2), .val (.int p3), .val (.int (0 : Int32)), .val (.int x5_14), .val (.int x6_22), .val (.int x7_33), .val (.int x8_42), .val (.int x9_53), .val (.int x10_62), .val (.ref ob4), .unset, .unset, .unset, .unset] [(.int (2 : Int32)), (.int (0 : Int32))])
    refine own_go (fun _ => XS.icmpYes X4.here hx rfl (pc0 := 95) (pc' := 104) rfl (hb hby at_95) rfl (Jvm.Free.XT.ii_le_t (by decide : ¬ ((2 : Int32) < (0 : Int32)))) (by decide) (by decide)) ?_
    show own_G p e below Φ T4 (mkF m 104 #[.val (.int p0), .val (.int p1), .val (.int p2), .val (.int p3), .val (.int (0 : Int32)), .val (.int x5_14), .val (.int x6_22), .val (.int x7_33), .val (.int x8_42), .val (.int x9_53), .val (.int x10_62), .val (.ref ob4), .unset, .unset, .unset, .unset] [])
    refine own_go (fun _ => XS.iload X4.here hx rfl (hb hby at_104) rfl) ?_
    show own_G p e below Φ T4 (mkF m 106 #[.val (.int p0), .val (.int p1), .val (.int p2), .val (.int p3), .val (.int (0 : Int32)), .val (.int x5_14), .val (.int x6_22), .val (.int x7_33), .val (.int x8_42), .val (.int x9_53), .val (.int x10_62), .val (.ref ob4), .unset, .unset, .unset, .unset] [(.int (0 : Int32))])
    refine own_go (fun _ => XS.iconst X4.here hx rfl (hb hby at_106)) ?_
    show own_G p e below Φ T4 (mkF m 107 #[.val (.int p0), .val (.int p1), .val (.int p2), .val (.int p3), .val (.int (0 : Int32)), .val (.int x5_14), .val (.int x6_22), .val (.int x7_33), .val (.int x8_42), .val (.int x9_53), .val (.int x10_62), .val (.ref ob4), .unset, .unset, .unset, .unset] [(.int (3 : Int32)), (.int (0 : Int32))])
    refine own_go (fun _ => XS.icmpYes X4.here hx rfl (pc0 := 107) (pc' := 116) rfl (hb hby at_107) rfl (Jvm.Free.XT.ii_le_t (by decide : ¬ ((3 : Int32) < (0 : Int32)))) (by decide) (by decide)) ?_
    show own_G p e below Φ T4 (mkF m 116 #[.val (.int p0), .val (.int p1), .val (.int p2), .val (.int p3), .val (.int (0 : Int32)), .val (.int x5_14), .val (.int x6_22), .val (.int x7_33), .val (.int x8_42), .val (.int x9_53), .val (.int x10_62), .val (.ref ob4), .unset, .unset, .unset, .unset] [])
    refine own_go (fun _ => XS.iload X4.here hx rfl (hb hby at_116) rfl) ?_
    show own_G p e below Φ T4 (mkF m 118 #[.val (.int p0), .val (.int p1), .val (.int p2), .val (.int p3), .val (.int (0 : Int32)), .val (.int x5_14), .val (.int x6_22), .val (.int x7_33), .val (.int x8_42), .val (.int x9_53), .val (.int x10_62), .val (.ref ob4), .unset, .unset, .unset, .unset] [(.int (0 : Int32))])
    refine own_go (fun _ => XS.ifNo X4.here hx rfl (hb hby at_118) rfl (Jvm.Free.XT.i0_ne_f (by decide : ((0 : Int32) = (0 : Int32))))) ?_
    show own_G p e below Φ T4 (mkF m 121 #[.val (.int p0), .val (.int p1), .val (.int p2), .val (.int p3), .val (.int (0 : Int32)), .val (.int x5_14), .val (.int x6_22), .val (.int x7_33), .val (.int x8_42), .val (.int x9_53), .val (.int x10_62), .val (.ref ob4), .unset, .unset, .unset, .unset] [])
    refine own_go (fun _ => XS.iconst X4.here hx rfl (hb hby at_121)) ?_
    show own_G p e below Φ T4 (mkF m 122 #[.val (.int p0), .val (.int p1), .val (.int p2), .val (.int p3), .val (.int (0 : Int32)), .val (.int x5_14), .val (.int x6_22), .val (.int x7_33), .val (.int x8_42), .val (.int x9_53), .val (.int x10_62), .val (.ref ob4), .unset, .unset, .unset, .unset] [(.int (0 : Int32))])
    refine own_go (fun _ => XS.goto X4.here hx rfl (pc0 := 122) (pc' := 165) rfl (hb hby at_122) (by decide) (by decide)) ?_
    show own_G p e below Φ T4 (mkF m 165 #[.val (.int p0), .val (.int p1), .val (.int p2), .val (.int p3), .val (.int (0 : Int32)), .val (.int x5_14), .val (.int x6_22), .val (.int x7_33), .val (.int x8_42), .val (.int x9_53), .val (.int x10_62), .val (.ref ob4), .unset, .unset, .unset, .unset] [(.int (0 : Int32))])
    refine own_go (fun _ => XS.istore X4.here hx rfl (hb hby at_165) rfl (l' := #[.val (.int p0), .val (.int p1), .val (.int p2), .val (.int p3), .val (.int (0 : Int32)), .val (.int x5_14), .val (.int x6_22), .val (.int x7_33), .val (.int x8_42), .val (.int x9_53), .val (.int x10_62), .val (.ref ob4), .val (.int (0 : Int32)), .unset, .unset, .unset]) rfl) ?_
    show own_G p e below Φ T4 (mkF m 167 #[.val (.int p0), .val (.int p1), .val (.int p2), .val (.int p3), .val (.int (0 : Int32)), .val (.int x5_14), .val (.int x6_22), .val (.int x7_33), .val (.int x8_42), .val (.int x9_53), .val (.int x10_62), .val (.ref ob4), .val (.int (0 : Int32)), .unset, .unset, .unset] [])
    obtain ⟨T5, h5, X5, e5, E5, A5, D5, -, st5⟩ := newO X4 hx hZ hown (wd_6 hw) (wd_7 hw) (wd_8 hw) e4 (g := (mkF m 167 #[.val (.int p0), .val (.int p1), .val (.int p2), .val (.int p3), .val (.int (0 : Int32)), .val (.int x5_14), .val (.int x6_22), .val (.int x7_33), .val (.int x8_42), .val (.int x9_53), .val (.int x10_62), .val (.ref ob4), .val (.int (0 : Int32)), .unset, .unset, .unset] [])) rfl (hb hby at_167) (by decide) (by decide)
    obtain ⟨ob5, g5⟩ : ∃ z, z = h4.size := ⟨_, rfl⟩
    rw [← g5] at A5 D5 st5
    have ne_ob4_ob5 : ob4 ≠ ob5 := Nat.ne_of_lt (Nat.lt_of_lt_of_le V4.lt (Nat.le_of_eq g5.symm))
    have g_ob5 : n0 ≤ ob5 := Nat.le_trans Zp4 (Nat.le_of_eq g5.symm)
    have Zp5 : n0 ≤ h5.size := Nat.le_trans Zp4 E5.1
    refine own_go st5 ?_
    have F_m_aClasses_ob5 : Fld Z h5 ob5 "com/example/edgewarden/edgewarden/graph/Likeness" "m_aClasses" "[I" .null := D5 (Or.inr (wd_16 hw)) (ty := (.array .int)) (by decide)
    have F_m_nClassCount_ob5 : Fld Z h5 ob5 "com/example/edgewarden/edgewarden/graph/Likeness" "m_nClassCount" "I" (.int (0 : Int32)) := D5 (Or.inr (wd_18 hw)) (ty := .int) (by decide)
    show own_G p e below Φ T5 (mkF m 170 #[.val (.int p0), .val (.int p1), .val (.int p2), .val (.int p3), .val (.int (0 : Int32)), .val (.int x5_14), .val (.int x6_22), .val (.int x7_33), .val (.int x8_42), .val (.int x9_53), .val (.int x10_62), .val (.ref ob4), .val (.int (0 : Int32)), .unset, .unset, .unset] [(.ref ob5)])
    refine own_go (fun _ => XS.dup X5.here hx rfl (hb hby at_170) rfl rfl) ?_
    show own_G p e below Φ T5 (mkF m 171 #[.val (.int p0), .val (.int p1), .val (.int p2), .val (.int p3), .val (.int (0 : Int32)), .val (.int x5_14), .val (.int x6_22), .val (.int x7_33), .val (.int x8_42), .val (.int x9_53), .val (.int x10_62), .val (.ref ob4), .val (.int (0 : Int32)), .unset, .unset, .unset] [(.ref ob5), (.ref ob5)])
    refine own_go (fun _ => XS.aload X5.here hx rfl (hb hby at_171) rfl rfl) ?_
    show own_G p e below Φ T5 (mkF m 173 #[.val (.int p0), .val (.int p1), .val (.int p2), .val (.int p3), .val (.int (0 : Int32)), .val (.int x5_14), .val (.int x6_22), .val (.int x7_33), .val (.int x8_42), .val (.int x9_53), .val (.int x10_62), .val (.ref ob4), .val (.int (0 : Int32)), .unset, .unset, .unset] [(.ref ob4), (.ref ob5), (.ref ob5)])
    have f6 : Arv Z h5 ob4 ka4 .int (0 : Int32) [] (.int (0 : Int32)) := V4.ext E5
    obtain ⟨_, _, ⟨T7, zL7, zk7, zn7⟩, -, X7, ⟨Lc7, hQ7, l7, y7, z7⟩, st7⟩ := X5.specialBack hx (y := (⟨"com/example/edgewarden/edgewarden/graph/Likeness", "<init>", "([I)V"⟩ : MethodName)) rfl hown (mvT hZ (wd_9 hw)) (mvT hZ (wd_10 hw)) (mvT hZ (wd_11 hw)) (by decide) (backOf (W := 1) (rmI0 l Z a0 hw [] ob5 ob4 ka4 .null (.int (0 : Int32)) h5 n0 Zp5 A5 F_m_aClasses_ob5 F_m_nClassCount_ob5 g_ob5 f6 ne_ob4_ob5) hZ (wd_11 hw) (wd_8 hw) (by decide) (by decide)) (g := (mkF m 173 #[.val (.int p0), .val (.int p1), .val (.int p2), .val (.int p3), .val (.int (0 : Int32)), .val (.int x5_14), .val (.int x6_22), .val (.int x7_33), .val (.int x8_42), .val (.int x9_53), .val (.int x10_62), .val (.ref ob4), .val (.int (0 : Int32)), .unset, .unset, .unset] [(.ref ob4), (.ref ob5), (.ref ob5)])) rfl (by rw [hml]; rfl) (Steps.refl _) (a := ob5) (argsL := [(.ref ob4)]) (rest := [(.ref ob5)]) (lenOf pd_2 rfl) rfl (by show 2 * 0 + _ ≤ _; exact Nat.le_of_eq rfl) (hb hby at_173) (fun _ _ => ⟨rfl, e5, (by decide : 2 + 0 ≤ _), (by decide : 2 + 0 ≤ _)⟩)
    dsimp only [Pt.U, Pt.locs, Pt.cells, Pt.slots] at X7 l7 y7 z7 st7 hQ7
    subst l7 y7 z7
    obtain ⟨rfl, N7q, Kq7, p7_0, p7_1, p7_2⟩ := hQ7
    have N7 := Fr.app N3 N7q
    refine own_on st7 ?_
    have Zp7 : n0 ≤ T7.heap.size := Nat.le_trans Zp5 Kq7.1
    show own_G p e below Φ T7 (mkF m 176 #[.val (.int p0), .val (.int p1), .val (.int p2), .val (.int p3), .val (.int (0 : Int32)), .val (.int x5_14), .val (.int x6_22), .val (.int x7_33), .val (.int x8_42), .val (.int x9_53), .val (.int x10_62), .val (.ref ob4), .val (.int (0 : Int32)), .unset, .unset, .unset] [(.ref ob5)])
    refine own_go (fun _ => XS.astore X7.here hx rfl (hb hby at_176) rfl rfl (l' := #[.val (.int p0), .val (.int p1), .val (.int p2), .val (.int p3), .val (.int (0 : Int32)), .val (.int x5_14), .val (.int x6_22), .val (.int x7_33), .val (.int x8_42), .val (.int x9_53), .val (.int x10_62), .val (.ref ob4), .val (.int (0 : Int32)), .val (.ref ob5), .unset, .unset]) rfl) ?_
    show own_G p e below Φ T7 (mkF m 178 #[.val (.int p0), .val (.int p1), .val (.int p2), .val (.int p3), .val (.int (0 : Int32)), .val (.int x5_14), .val (.int x6_22), .val (.int x7_33), .val (.int x8_42), .val (.int x9_53), .val (.int x10_62), .val (.ref ob4), .val (.int (0 : Int32)), .val (.ref ob5), .unset, .unset] [])
    refine own_go (fun _ => XS.aload X7.here hx rfl (hb hby at_178) rfl rfl) ?_
    show own_G p e below Φ T7 (mkF m 180 #[.val (.int p0), .val (.int p1), .val (.int p2), .val (.int p3), .val (.int (0 : Int32)), .val (.int x5_14), .val (.int x6_22), .val (.int x7_33), .val (.int x8_42), .val (.int x9_53), .val (.int x10_62), .val (.ref ob4), .val (.int (0 : Int32)), .val (.ref ob5), .unset, .unset] [(.ref ob5)])
    have f8 : Arv Z T7.heap ob4 ka4 .int (0 : Int32) [] (.int (0 : Int32)) := f6.keep Kq7 (ninS ne_ob4_ob5 nin0)
    obtain ⟨cq9, kq9, q9a, q9b, q9c⟩ := isOf hZ rfl p7_0
    obtain ⟨_, _, ⟨T9, zL9, zk9, zn9⟩, -, X9, ⟨Lc9, hQ9, l9, y9, z9⟩, st9⟩ := X7.virtualBack hx (y := (⟨"com/example/edgewarden/edgewarden/graph/Likeness", "getClassSizes", "()[I"⟩ : MethodName)) (z := (⟨"com/example/edgewarden/edgewarden/graph/Likeness", "getClassSizes", "()[I"⟩ : MethodName)) hown (mvT hZ (wd_19 hw)) (mvT hZ (wd_20 hw)) (notFace_of_selects (args := #[]) (mvT hZ (wd_22 hw))) (mvT hZ (wd_22 hw)) (mvT hZ (wd_21 hw)) (by decide) (backOf (W := 0) (rmS0 l Z a0 hw [] ob5 ob4 ka4 (0 : Int32) T7.heap n0 Zp7 p7_2 p7_1 f8 (own_use (P := fun t => ¬ (0 : Int32) < 0) (by decide +kernel) hall) (own_use (P := fun t => ((0 : Int32)).toNatClampNeg ≤ 5) (by decide +kernel) hall)) hZ (wd_23 hw) (wd_8 hw) (by decide) (by decide)) q9a q9c (g := (mkF m 180 #[.val (.int p0), .val (.int p1), .val (.int p2), .val (.int p3), .val (.int (0 : Int32)), .val (.int x5_14), .val (.int x6_22), .val (.int x7_33), .val (.int x8_42), .val (.int x9_53), .val (.int x10_62), .val (.ref ob4), .val (.int (0 : Int32)), .val (.ref ob5), .unset, .unset] [(.ref ob5)])) rfl (by rw [hml]; rfl) (Steps.refl _) (argsL := []) (rest := []) (lenOf pd_3 rfl) rfl (by show 2 * 0 + _ ≤ _; exact Nat.le_of_eq rfl) (hb hby at_180) (fun _ _ => ⟨rfl, rfl, (by decide : 2 + 1 ≤ _), (by decide : 2 + 5 ≤ _)⟩)
    dsimp only [Pt.U, Pt.locs, Pt.cells, Pt.slots] at X9 l9 y9 z9 st9 hQ9
    subst l9 y9 z9
    obtain ⟨b_9, ns_b_9, kb_9, rfl, N9q, Kq9, p9_0⟩ := hQ9
    have N9 := Fr.app N7 N9q
    refine own_on st9 ?_
    have ne_ob4_b_9 : ob4 ≠ b_9 := Nat.ne_of_lt (Nat.lt_of_lt_of_le f8.lt ns_b_9)
    have ne_ob5_b_9 : ob5 ≠ b_9 := Nat.ne_of_lt (Nat.lt_of_lt_of_le p7_0.lt ns_b_9)
    have g_b_9 : n0 ≤ b_9 := Nat.le_trans Zp7 ns_b_9
    have Zp9 : n0 ≤ T9.heap.size := Nat.le_trans Zp7 Kq9.1
    show own_G p e below Φ T9 (mkF m 183 #[.val (.int p0), .val (.int p1), .val (.int p2), .val (.int p3), .val (.int (0 : Int32)), .val (.int x5_14), .val (.int x6_22), .val (.int x7_33), .val (.int x8_42), .val (.int x9_53), .val (.int x10_62), .val (.ref ob4), .val (.int (0 : Int32)), .val (.ref ob5), .unset, .unset] [(.ref b_9)])
    refine own_go (fun _ => XS.astore X9.here hx rfl (hb hby at_183) rfl rfl (l' := #[.val (.int p0), .val (.int p1), .val (.int p2), .val (.int p3), .val (.int (0 : Int32)), .val (.int x5_14), .val (.int x6_22), .val (.int x7_33), .val (.int x8_42), .val (.int x9_53), .val (.int x10_62), .val (.ref ob4), .val (.int (0 : Int32)), .val (.ref ob5), .val (.ref b_9), .unset]) rfl) ?_
    show own_G p e below Φ T9 (mkF m 185 #[.val (.int p0), .val (.int p1), .val (.int p2), .val (.int p3), .val (.int (0 : Int32)), .val (.int x5_14), .val (.int x6_22), .val (.int x7_33), .val (.int x8_42), .val (.int x9_53), .val (.int x10_62), .val (.ref ob4), .val (.int (0 : Int32)), .val (.ref ob5), .val (.ref b_9), .unset] [])
    refine own_go (fun _ => XS.aload X9.here hx rfl (hb hby at_185) rfl rfl) ?_
    show own_G p e below Φ T9 (mkF m 187 #[.val (.int p0), .val (.int p1), .val (.int p2), .val (.int p3), .val (.int (0 : Int32)), .val (.int x5_14), .val (.int x6_22), .val (.int x7_33), .val (.int x8_42), .val (.int x9_53), .val (.int x10_62), .val (.ref ob4), .val (.int (0 : Int32)), .val (.ref ob5), .val (.ref b_9), .unset] [(.ref ob5)])
    have f10 : Fld Z T9.heap ob5 "com/example/edgewarden/edgewarden/graph/Likeness" "m_nClassCount" "I" (.int (0 : Int32)) := p7_2.keep Kq9 nin0
    have f11 : Fld Z T9.heap ob5 "com/example/edgewarden/edgewarden/graph/Likeness" "m_aClasses" "[I" (.ref ob4) := p7_1.keep Kq9 nin0
    have f12 : Arv Z T9.heap ob4 ka4 .int (0 : Int32) [] (.int (0 : Int32)) := f8.keep Kq9 nin0
    have f14 : Exa Z T9.heap ob5 "com/example/edgewarden/edgewarden/graph/Likeness" := p7_0.keep Kq9
    obtain ⟨cq13, kq13, q13a, q13b, q13c⟩ := isOf hZ rfl f14
    obtain ⟨_, _, ⟨T13, zL13, zk13, zn13⟩, -, X13, ⟨Lc13, hQ13, l13, y13, z13⟩, st13⟩ := X9.virtualBack hx (y := (⟨"com/example/edgewarden/edgewarden/graph/Likeness", "getClassSizes", "()[I"⟩ : MethodName)) (z := (⟨"com/example/edgewarden/edgewarden/graph/Likeness", "getClassSizes", "()[I"⟩ : MethodName)) hown (mvT hZ (wd_19 hw)) (mvT hZ (wd_20 hw)) (notFace_of_selects (args := #[]) (mvT hZ (wd_22 hw))) (mvT hZ (wd_22 hw)) (mvT hZ (wd_21 hw)) (by decide) (backOf (W := 0) (rmS0 l Z a0 hw [] ob5 ob4 ka4 (0 : Int32) T9.heap n0 Zp9 f10 f11 f12 (own_use (P := fun t => ¬ (0 : Int32) < 0) (by decide +kernel) hall) (own_use (P := fun t => ((0 : Int32)).toNatClampNeg ≤ 5) (by decide +kernel) hall)) hZ (wd_23 hw) (wd_8 hw) (by decide) (by decide)) q13a q13c (g := (mkF m 187 #[.val (.int p0), .val (.int p1), .val (.int p2), .val (.int p3), .val (.int (0 : Int32)), .val (.int x5_14), .val (.int x6_22), .val (.int x7_33), .val (.int x8_42), .val (.int x9_53), .val (.int x10_62), .val (.ref ob4), .val (.int (0 : Int32)), .val (.ref ob5), .val (.ref b_9), .unset] [(.ref ob5)])) rfl (by rw [hml]; rfl) (Steps.refl _) (argsL := []) (rest := []) (lenOf pd_3 rfl) rfl (by show 2 * 0 + _ ≤ _; exact Nat.le_of_eq rfl) (hb hby at_187) (fun _ _ => ⟨rfl, rfl, (by decide : 3 + 1 ≤ _), (by decide : 7 + 5 ≤ _)⟩)
    dsimp only [Pt.U, Pt.locs, Pt.cells, Pt.slots] at X13 l13 y13 z13 st13 hQ13
    subst l13 y13 z13
    obtain ⟨b_13, ns_b_13, kb_13, rfl, N13q, Kq13, p13_0⟩ := hQ13
    have N13 := Fr.app N9 N13q
    refine own_on st13 ?_
    have ne_ob4_b_13 : ob4 ≠ b_13 := Nat.ne_of_lt (Nat.lt_of_lt_of_le f12.lt ns_b_13)
    have ne_ob5_b_13 : ob5 ≠ b_13 := Nat.ne_of_lt (Nat.lt_of_lt_of_le f14.lt ns_b_13)
    have ne_b_9_b_13 : b_9 ≠ b_13 := Nat.ne_of_lt (Nat.lt_of_lt_of_le p9_0.lt ns_b_13)
    have g_b_13 : n0 ≤ b_13 := Nat.le_trans Zp9 ns_b_13
    have Zp13 : n0 ≤ T13.heap.size := Nat.le_trans Zp9 Kq13.1
    show own_G p e below Φ T13 (mkF m 190 #[.val (.int p0), .val (.int p1), .val (.int p2), .val (.int p3), .val (.int (0 : Int32)), .val (.int x5_14), .val (.int x6_22), .val (.int x7_33), .val (.int x8_42), .val (.int x9_53), .val (.int x10_62), .val (.ref ob4), .val (.int (0 : Int32)), .val (.ref ob5), .val (.ref b_9), .unset] [(.ref b_13)])
    refine own_go (fun _ => XS.astore X13.here hx rfl (hb hby at_190) rfl rfl (l' := #[.val (.int p0), .val (.int p1), .val (.int p2), .val (.int p3), .val (.int (0 : Int32)), .val (.int x5_14), .val (.int x6_22), .val (.int x7_33), .val (.int x8_42), .val (.int x9_53), .val (.int x10_62), .val (.ref ob4), .val (.int (0 : Int32)), .val (.ref ob5), .val (.ref b_9), .val (.ref b_13)]) rfl) ?_
    show own_G p e below Φ T13 (mkF m 192 #[.val (.int p0), .val (.int p1), .val (.int p2), .val (.int p3), .val (.int (0 : Int32)), .val (.int x5_14), .val (.int x6_22), .val (.int x7_33), .val (.int x8_42), .val (.int x9_53), .val (.int x10_62), .val (.ref ob4), .val (.int (0 : Int32)), .val (.ref ob5), .val (.ref b_9), .val (.ref b_13)] [])
    refine own_go (fun _ => XS.aload X13.here hx rfl (hb hby at_192) rfl rfl) ?_
    show own_G p e below Φ T13 (mkF m 194 #[.val (.int p0), .val (.int p1), .val (.int p2), .val (.int p3), .val (.int (0 : Int32)), .val (.int x5_14), .val (.int x6_22), .val (.int x7_33), .val (.int x8_42), .val (.int x9_53), .val (.int x10_62), .val (.ref ob4), .val (.int (0 : Int32)), .val (.ref ob5), .val (.ref b_9), .val (.ref b_13)] [(.ref b_9)])
    refine own_go (fun _ => XS.aload X13.here hx rfl (hb hby at_194) rfl rfl) ?_
    show own_G p e below Φ T13 (mkF m 196 #[.val (.int p0), .val (.int p1), .val (.int p2), .val (.int p3), .val (.int (0 : Int32)), .val (.int x5_14), .val (.int x6_22), .val (.int x7_33), .val (.int x8_42), .val (.int x9_53), .val (.int x10_62), .val (.ref ob4), .val (.int (0 : Int32)), .val (.ref ob5), .val (.ref b_9), .val (.ref b_13)] [(.ref b_13), (.ref b_9)])
    refine own_go (fun _ => Jvm.RoadKit.acmp (g := (mkF m 196 #[.val (.int p0), .val (.int p1), .val (.int p2), .val (.int p3), .val (.int (0 : Int32)), .val (.int x5_14), .val (.int x6_22), .val (.int x7_33), .val (.int x8_42), .val (.int x9_53), .val (.int x10_62), .val (.ref ob4), .val (.int (0 : Int32)), .val (.ref ob5), .val (.ref b_9), .val (.ref b_13)] [(.ref b_13), (.ref b_9)])) X13 hx rfl rfl rfl (pc0 := 196) (pc' := 201) (same := false) rfl (hb hby at_196) rfl (decide_eq_false fun q => ne_b_9_b_13 (Value.ref.inj q)) (by decide) (by decide)) ?_
    show own_G p e below Φ T13 (mkF m 201 #[.val (.int p0), .val (.int p1), .val (.int p2), .val (.int p3), .val (.int (0 : Int32)), .val (.int x5_14), .val (.int x6_22), .val (.int x7_33), .val (.int x8_42), .val (.int x9_53), .val (.int x10_62), .val (.ref ob4), .val (.int (0 : Int32)), .val (.ref ob5), .val (.ref b_9), .val (.ref b_13)] [])
    refine own_go (fun _ => XS.aload X13.here hx rfl (hb hby at_201) rfl rfl) ?_
    show own_G p e below Φ T13 (mkF m 203 #[.val (.int p0), .val (.int p1), .val (.int p2), .val (.int p3), .val (.int (0 : Int32)), .val (.int x5_14), .val (.int x6_22), .val (.int x7_33), .val (.int x8_42), .val (.int x9_53), .val (.int x10_62), .val (.ref ob4), .val (.int (0 : Int32)), .val (.ref ob5), .val (.ref b_9), .val (.ref b_13)] [(.ref b_9)])
    have f15 : Arv Z T13.heap b_9 kb_9 .int (0 : Int32) (own_vs (own_zeros (0 : Int32))) (.int (0 : Int32)) := p9_0.keep Kq13 nin0
    obtain ⟨cl16, Ar16, q16, S16, M16, H16, G16⟩ := id f15
    refine own_go (fun _ => X13.arraylength hx Ar16.1 (State.isArrayOf_alike hZ.alike Ar16.2.1) (g := (mkF m 203 #[.val (.int p0), .val (.int p1), .val (.int p2), .val (.int p3), .val (.int (0 : Int32)), .val (.int x5_14), .val (.int x6_22), .val (.int x7_33), .val (.int x8_42), .val (.int x9_53), .val (.int x10_62), .val (.ref ob4), .val (.int (0 : Int32)), .val (.ref ob5), .val (.ref b_9), .val (.ref b_13)] [(.ref b_9)])) rfl rfl (hb hby at_203) _) ?_
    rw [len_of S16 M16]
    show own_G p e below Φ T13 (mkF m 204 #[.val (.int p0), .val (.int p1), .val (.int p2), .val (.int p3), .val (.int (0 : Int32)), .val (.int x5_14), .val (.int x6_22), .val (.int x7_33), .val (.int x8_42), .val (.int x9_53), .val (.int x10_62), .val (.ref ob4), .val (.int (0 : Int32)), .val (.ref ob5), .val (.ref b_9), .val (.ref b_13)] [(.int (0 : Int32))])
    refine own_go (fun _ => XS.iload X13.here hx rfl (hb hby at_204) rfl) ?_
    show own_G p e below Φ T13 (mkF m 206 #[.val (.int p0), .val (.int p1), .val (.int p2), .val (.int p3), .val (.int (0 : Int32)), .val (.int x5_14), .val (.int x6_22), .val (.int x7_33), .val (.int x8_42), .val (.int x9_53), .val (.int x10_62), .val (.ref ob4), .val (.int (0 : Int32)), .val (.ref ob5), .val (.ref b_9), .val (.ref b_13)] [(.int (0 : Int32)), (.int (0 : Int32))])
    refine own_go (fun _ => XS.icmpNo X13.here hx rfl (hb hby at_206) rfl (Jvm.Free.XT.ii_ne_f (own_use (P := fun t => (0 : Int32) = (0 : Int32)) (by decide +kernel) hall))) ?_
    show own_G p e below Φ T13 (mkF m 209 #[.val (.int p0), .val (.int p1), .val (.int p2), .val (.int p3), .val (.int (0 : Int32)), .val (.int x5_14), .val (.int x6_22), .val (.int x7_33), .val (.int x8_42), .val (.int x9_53), .val (.int x10_62), .val (.ref ob4), .val (.int (0 : Int32)), .val (.ref ob5), .val (.ref b_9), .val (.ref b_13)] [])
    refine own_go (fun _ => XS.aload X13.here hx rfl (hb hby at_209) rfl rfl) ?_
    show own_G p e below Φ T13 (mkF m 211 #[.val (.int p0), .val (.int p1), .val (.int p2), .val (.int p3), .val (.int (0 : Int32)), .val (.int x5_14), .val (.int x6_22), .val (.int x7_33), .val (.int x8_42), .val (.int x9_53), .val (.int x10_62), .val (.ref ob4), .val (.int (0 : Int32)), .val (.ref ob5), .val (.ref b_9), .val (.ref b_13)] [(.ref b_13)])
    obtain ⟨cl17, Ar17, q17, S17, M17, H17, G17⟩ := id p13_0
    refine own_go (fun _ => X13.arraylength hx Ar17.1 (State.isArrayOf_alike hZ.alike Ar17.2.1) (g := (mkF m 211 #[.val (.int p0), .val (.int p1), .val (.int p2), .val (.int p3), .val (.int (0 : Int32)), .val (.int x5_14), .val (.int x6_22), .val (.int x7_33), .val (.int x8_42), .val (.int x9_53), .val (.int x10_62), .val (.ref ob4), .val (.int (0 : Int32)), .val (.ref ob5), .val (.ref b_9), .val (.ref b_13)] [(.ref b_13)])) rfl rfl (hb hby at_211) _) ?_
    rw [len_of S17 M17]
    show own_G p e below Φ T13 (mkF m 212 #[.val (.int p0), .val (.int p1), .val (.int p2), .val (.int p3), .val (.int (0 : Int32)), .val (.int x5_14), .val (.int x6_22), .val (.int x7_33), .val (.int x8_42), .val (.int x9_53), .val (.int x10_62), .val (.ref ob4), .val (.int (0 : Int32)), .val (.ref ob5), .val (.ref b_9), .val (.ref b_13)] [(.int (0 : Int32))])
    refine own_go (fun _ => XS.iload X13.here hx rfl (hb hby at_212) rfl) ?_
    show own_G p e below Φ T13 (mkF m 214 #[.val (.int p0), .val (.int p1), .val (.int p2), .val (.int p3), .val (.int (0 : Int32)), .val (.int x5_14), .val (.int x6_22), .val (.int x7_33), .val (.int x8_42), .val (.int x9_53), .val (.int x10_62), .val (.ref ob4), .val (.int (0 : Int32)), .val (.ref ob5), .val (.ref b_9), .val (.ref b_13)] [(.int (0 : Int32)), (.int (0 : Int32))])
    refine own_go (fun _ => XS.icmpYes X13.here hx rfl (pc0 := 214) (pc' := 219) rfl (hb hby at_214) rfl (Jvm.Free.XT.ii_eq_t (own_use (P := fun t => (0 : Int32) = (0 : Int32)) (by decide +kernel) hall)) (by decide) (by decide)) ?_
    show own_G p e below Φ T13 (mkF m 219 #[.val (.int p0), .val (.int p1), .val (.int p2), .val (.int p3), .val (.int (0 : Int32)), .val (.int x5_14), .val (.int x6_22), .val (.int x7_33), .val (.int x8_42), .val (.int x9_53), .val (.int x10_62), .val (.ref ob4), .val (.int (0 : Int32)), .val (.ref ob5), .val (.ref b_9), .val (.ref b_13)] [])
    refine own_go (fun _ => XS.iload X13.here hx rfl (hb hby at_219) rfl) ?_
    show own_G p e below Φ T13 (mkF m 221 #[.val (.int p0), .val (.int p1), .val (.int p2), .val (.int p3), .val (.int (0 : Int32)), .val (.int x5_14), .val (.int x6_22), .val (.int x7_33), .val (.int x8_42), .val (.int x9_53), .val (.int x10_62), .val (.ref ob4), .val (.int (0 : Int32)), .val (.ref ob5), .val (.ref b_9), .val (.ref b_13)] [(.int (0 : Int32))])
    refine own_go (fun _ => XS.ifYes X13.here hx rfl (pc0 := 221) (pc' := 233) rfl (hb hby at_221) rfl (Jvm.Free.XT.i0_le_t (by decide : ¬ ((0 : Int32) < (0 : Int32)))) (by decide) (by decide)) ?_
    show own_G p e below Φ T13 (mkF m 233 #[.val (.int p0), .val (.int p1), .val (.int p2), .val (.int p3), .val (.int (0 : Int32)), .val (.int x5_14), .val (.int x6_22), .val (.int x7_33), .val (.int x8_42), .val (.int x9_53), .val (.int x10_62), .val (.ref ob4), .val (.int (0 : Int32)), .val (.ref ob5), .val (.ref b_9), .val (.ref b_13)] [])
    refine own_go (fun _ => XS.iload X13.here hx rfl (hb hby at_233) rfl) ?_
    show own_G p e below Φ T13 (mkF m 235 #[.val (.int p0), .val (.int p1), .val (.int p2), .val (.int p3), .val (.int (0 : Int32)), .val (.int x5_14), .val (.int x6_22), .val (.int x7_33), .val (.int x8_42), .val (.int x9_53), .val (.int x10_62), .val (.ref ob4), .val (.int (0 : Int32)), .val (.ref ob5), .val (.ref b_9), .val (.ref b_13)] [(.int (0 : Int32))])
    refine own_go (fun _ => XS.iconst X13.here hx rfl (hb hby at_235)) ?_
    show own_G p e below Φ T13 (mkF m 236 #[.val (.int p0), .val (.int p1), .val (.int p2), .val (.int p3), .val (.int (0 : Int32)), .val (.int x5_14), .val (.int x6_22), .val (.int x7_33), .val (.int x8_42), .val (.int x9_53), .val (.int x10_62), .val (.ref ob4), .val (.int (0 : Int32)), .val (.ref ob5), .val (.ref b_9), .val (.ref b_13)] [(.int (1 : Int32)), (.int (0 : Int32))])
    refine own_go (fun _ => XS.icmpYes X13.here hx rfl (pc0 := 236) (pc' := 250) rfl (hb hby at_236) rfl (Jvm.Free.XT.ii_le_t (by decide : ¬ ((1 : Int32) < (0 : Int32)))) (by decide) (by decide)) ?_
    show own_G p e below Φ T13 (mkF m 250 #[.val (.int p0), .val (.int p1), .val (.int p2), .val (.int p3), .val (.int (0 : Int32)), .val (.int x5_14), .val (.int x6_22), .val (.int x7_33), .val (.int x8_42), .val (.int x9_53), .val (.int x10_62), .val (.ref ob4), .val (.int (0 : Int32)), .val (.ref ob5), .val (.ref b_9), .val (.ref b_13)] [])
    refine own_go (fun _ => XS.iload X13.here hx rfl (hb hby at_250) rfl) ?_
    show own_G p e below Φ T13 (mkF m 252 #[.val (.int p0), .val (.int p1), .val (.int p2), .val (.int p3), .val (.int (0 : Int32)), .val (.int x5_14), .val (.int x6_22), .val (.int x7_33), .val (.int x8_42), .val (.int x9_53), .val (.int x10_62), .val (.ref ob4), .val (.int (0 : Int32)), .val (.ref ob5), .val (.ref b_9), .val (.ref b_13)] [(.int (0 : Int32))])
    refine own_go (fun _ => XS.iconst X13.here hx rfl (hb hby at_252)) ?_
    show own_G p e below Φ T13 (mkF m 253 #[.val (.int p0), .val (.int p1), .val (.int p2), .val (.int p3), .val (.int (0 : Int32)), .val (.int x5_14), .val (.int x6_22), .val (.int x7_33), .val (.int x8_42), .val (.int x9_53), .val (.int x10_62), .val (.ref ob4), .val (.int (0 : Int32)), .val (.ref ob5), .val (.ref b_9), .val (.ref b_13)] [(.int (2 : Int32)), (.int (0 : Int32))])
    refine own_go (fun _ => XS.icmpYes X13.here hx rfl (pc0 := 253) (pc' := 267) rfl (hb hby at_253) rfl (Jvm.Free.XT.ii_le_t (by decide : ¬ ((2 : Int32) < (0 : Int32)))) (by decide) (by decide)) ?_
    show own_G p e below Φ T13 (mkF m 267 #[.val (.int p0), .val (.int p1), .val (.int p2), .val (.int p3), .val (.int (0 : Int32)), .val (.int x5_14), .val (.int x6_22), .val (.int x7_33), .val (.int x8_42), .val (.int x9_53), .val (.int x10_62), .val (.ref ob4), .val (.int (0 : Int32)), .val (.ref ob5), .val (.ref b_9), .val (.ref b_13)] [])
    refine own_go (fun _ => XS.iload X13.here hx rfl (hb hby at_267) rfl) ?_
    show own_G p e below Φ T13 (mkF m 269 #[.val (.int p0), .val (.int p1), .val (.int p2), .val (.int p3), .val (.int (0 : Int32)), .val (.int x5_14), .val (.int x6_22), .val (.int x7_33), .val (.int x8_42), .val (.int x9_53), .val (.int x10_62), .val (.ref ob4), .val (.int (0 : Int32)), .val (.ref ob5), .val (.ref b_9), .val (.ref b_13)] [(.int (0 : Int32))])
    refine own_go (fun _ => XS.iconst X13.here hx rfl (hb hby at_269)) ?_
    show own_G p e below Φ T13 (mkF m 270 #[.val (.int p0), .val (.int p1), .val (.int p2), .val (.int p3), .val (.int (0 : Int32)), .val (.int x5_14), .val (.int x6_22), .val (.int x7_33), .val (.int x8_42), .val (.int x9_53), .val (.int x10_62), .val (.ref ob4), .val (.int (0 : Int32)), .val (.ref ob5), .val (.ref b_9), .val (.ref b_13)] [(.int (3 : Int32)), (.int (0 : Int32))])
    refine own_go (fun _ => XS.icmpYes X13.here hx rfl (pc0 := 270) (pc' := 284) rfl (hb hby at_270) rfl (Jvm.Free.XT.ii_le_t (by decide : ¬ ((3 : Int32) < (0 : Int32)))) (by decide) (by decide)) ?_
    show own_G p e below Φ T13 (mkF m 284 #[.val (.int p0), .val (.int p1), .val (.int p2), .val (.int p3), .val (.int (0 : Int32)), .val (.int x5_14), .val (.int x6_22), .val (.int x7_33), .val (.int x8_42), .val (.int x9_53), .val (.int x10_62), .val (.ref ob4), .val (.int (0 : Int32)), .val (.ref ob5), .val (.ref b_9), .val (.ref b_13)] [])
    refine own_go (fun _ => XS.aload X13.here hx rfl (hb hby at_284) rfl rfl) ?_
    show own_G p e below Φ T13 (mkF m 286 #[.val (.int p0), .val (.int p1), .val (.int p2), .val (.int p3), .val (.int (0 : Int32)), .val (.int x5_14), .val (.int x6_22), .val (.int x7_33), .val (.int x8_42), .val (.int x9_53), .val (.int x10_62), .val (.ref ob4), .val (.int (0 : Int32)), .val (.ref ob5), .val (.ref b_9), .val (.ref b_13)] [(.ref b_9)])
    refine own_go (fun _ => XS.aload X13.here hx rfl (hb hby at_286) rfl rfl) ?_
    show own_G p e below Φ T13 (mkF m 288 #[.val (.int p0), .val (.int p1), .val (.int p2), .val (.int p3), .val (.int (0 : Int32)), .val (.int x5_14), .val (.int x6_22), .val (.int x7_33), .val (.int x8_42), .val (.int x9_53), .val (.int x10_62), .val (.ref ob4), .val (.int (0 : Int32)), .val (.ref ob5), .val (.ref b_9), .val (.ref b_13)] [(.ref b_13), (.ref b_9)])
    refine own_go (fun _ => XS.iconst X13.here hx rfl (hb hby at_288)) ?_
    show own_G p e below Φ T13 (mkF m 289 #[.val (.int p0), .val (.int p1), .val (.int p2), .val (.int p3), .val (.int (0 : Int32)), .val (.int x5_14), .val (.int x6_22), .val (.int x7_33), .val (.int x8_42), .val (.int x9_53), .val (.int x10_62), .val (.ref ob4), .val (.int (0 : Int32)), .val (.ref ob5), .val (.ref b_9), .val (.ref b_13)] [(.int (0 : Int32)), (.ref b_13), (.ref b_9)])
    refine own_go (fun _ => XS.iload X13.here hx rfl (hb hby at_289) rfl) ?_
    show own_G p e below Φ T13 (mkF m 291 #[.val (.int p0), .val (.int p1), .val (.int p2), .val (.int p3), .val (.int (0 : Int32)), .val (.int x5_14), .val (.int x6_22), .val (.int x7_33), .val (.int x8_42), .val (.int x9_53), .val (.int x10_62), .val (.ref ob4), .val (.int (0 : Int32)), .val (.ref ob5), .val (.ref b_9), .val (.ref b_13)] [(.int (0 : Int32)), (.int (0 : Int32)), (.ref b_13), (.ref b_9)])
    refine own_go (fun _ => XS.iconst X13.here hx rfl (hb hby at_291)) ?_
    show own_G p e below Φ T13 (mkF m 292 #[.val (.int p0), .val (.int p1), .val (.int p2), .val (.int p3), .val (.int (0 : Int32)), .val (.int x5_14), .val (.int x6_22), .val (.int x7_33), .val (.int x8_42), .val (.int x9_53), .val (.int x10_62), .val (.ref ob4), .val (.int (0 : Int32)), .val (.ref ob5), .val (.ref b_9), .val (.ref b_13)] [(.int (0 : Int32)), (.int (0 : Int32)), (.int (0 : Int32)), (.ref b_13), (.ref b_9)])
    refine own_go (fun _ => XS.iload X13.here hx rfl (hb hby at_292) rfl) ?_
    show own_G p e below Φ T13 (mkF m 294 #[.val (.int p0), .val (.int p1), .val (.int p2), .val (.int p3), .val (.int (0 : Int32)), .val (.int x5_14), .val (.int x6_22), .val (.int x7_33), .val (.int x8_42), .val (.int x9_53), .val (.int x10_62), .val (.ref ob4), .val (.int (0 : Int32)), .val (.ref ob5), .val (.ref b_9), .val (.ref b_13)] [(.int x5_14), (.int (0 : Int32)), (.int (0 : Int32)), (.int (0 : Int32)), (.ref b_13), (.ref b_9)])
    refine own_go (fun _ => XS.iload X13.here hx rfl (hb hby at_294) rfl) ?_
    show own_G p e below Φ T13 (mkF m 296 #[.val (.int p0), .val (.int p1), .val (.int p2), .val (.int p3), .val (.int (0 : Int32)), .val (.int x5_14), .val (.int x6_22), .val (.int x7_33), .val (.int x8_42), .val (.int x9_53), .val (.int x10_62), .val (.ref ob4), .val (.int (0 : Int32)), .val (.ref ob5), .val (.ref b_9), .val (.ref b_13)] [(.int x7_33), (.int x5_14), (.int (0 : Int32)), (.int (0 : Int32)), (.int (0 : Int32)), (.ref b_13), (.ref b_9)])
    refine own_go (fun _ => XS.iload X13.here hx rfl (hb hby at_296) rfl) ?_
    show own_G p e below Φ T13 (mkF m 298 #[.val (.int p0), .val (.int p1), .val (.int p2), .val (.int p3), .val (.int (0 : Int32)), .val (.int x5_14), .val (.int x6_22), .val (.int x7_33), .val (.int x8_42), .val (.int x9_53), .val (.int x10_62), .val (.ref ob4), .val (.int (0 : Int32)), .val (.ref ob5), .val (.ref b_9), .val (.ref b_13)] [(.int x9_53), (.int x7_33), (.int x5_14), (.int (0 : Int32)), (.int (0 : Int32)), (.int (0 : Int32)), (.ref b_13), (.ref b_9)])
    obtain ⟨_, _, ⟨T18, zL18, zk18, zn18⟩, -, X18, ⟨Lc18, hQ18, l18, y18, z18⟩, st18⟩ := Jvm.LawKit.callS X13 hx (y := (⟨"com/example/edgewarden/edgewarden/graph/LikenessGetClassSizesPinLaw", "sizeOk", "([I[IIIIIII)Z"⟩ : MethodName)) hown (mvT hZ (wd_24 hw)) (mvT hZ (wd_25 hw)) (mvT hZ (wd_26 hw)) (mvT hZ (wd_27 hw)) (by decide) (backOf (W := 0) (rmK l Z a0 hw [] b_9 b_13 kb_9 kb_13 (0 : Int32) (own_zeros (0 : Int32)) (0 : Int32) (0 : Int32) (0 : Int32) x5_14 x7_33 x9_53 T13.heap n0 Zp13 f15 p13_0 (by decide) (own_use (P := fun t => (0 : Int32) < (0 : Int32) → ((own_zeros (0 : Int32))).getD ((0 : Int32)).toNatClampNeg 0 = own_cnt (0 : Int32) (0 : Int32) (0 : Int32) t.1 t.2.2.1 t.2.2.2.2.1) (by decide +kernel) hall)) hZ (wd_27 hw) (wd_26 hw) (by decide) (by decide)) (g := (mkF m 298 #[.val (.int p0), .val (.int p1), .val (.int p2), .val (.int p3), .val (.int (0 : Int32)), .val (.int x5_14), .val (.int x6_22), .val (.int x7_33), .val (.int x8_42), .val (.int x9_53), .val (.int x10_62), .val (.ref ob4), .val (.int (0 : Int32)), .val (.ref ob5), .val (.ref b_9), .val (.ref b_13)] [(.int x9_53), (.int x7_33), (.int x5_14), (.int (0 : Int32)), (.int (0 : Int32)), (.int (0 : Int32)), (.ref b_13), (.ref b_9)])) rfl (by rw [hml]; rfl) (argsL := [(.ref b_9), (.ref b_13), (.int (0 : Int32)), (.int (0 : Int32)), (.int (0 : Int32)), (.int x5_14), (.int x7_33), (.int x9_53)]) (rest := []) (lenOf pd_4 rfl) rfl (by show 2 * 0 + _ ≤ _; exact Nat.le_of_eq rfl) (hb hby at_298) (fun _ _ => ⟨rfl, rfl, (by decide : 4 + 0 ≤ _), (by decide : 12 + 0 ≤ _)⟩)
    dsimp only [Pt.U, Pt.locs, Pt.cells, Pt.slots] at X18 l18 y18 z18 st18 hQ18
    subst l18 y18 z18
    obtain ⟨rfl, N18q, hs18⟩ := hQ18
    have N18 := Fr.app N13 N18q
    refine own_go st18 ?_
    show own_G p e below Φ T18 (mkF m 301 #[.val (.int p0), .val (.int p1), .val (.int p2), .val (.int p3), .val (.int (0 : Int32)), .val (.int x5_14), .val (.int x6_22), .val (.int x7_33), .val (.int x8_42), .val (.int x9_53), .val (.int x10_62), .val (.ref ob4), .val (.int (0 : Int32)), .val (.ref ob5), .val (.ref b_9), .val (.ref b_13)] [(.int (1 : Int32))])
    refine own_go (fun _ => XS.ifNo X18.here hx rfl (hb hby at_301) rfl (Jvm.Free.XT.i0_eq_f (by decide : ¬ ((1 : Int32) = (0 : Int32))))) ?_
    show own_G p e below Φ T18 (mkF m 304 #[.val (.int p0), .val (.int p1), .val (.int p2), .val (.int p3), .val (.int (0 : Int32)), .val (.int x5_14), .val (.int x6_22), .val (.int x7_33), .val (.int x8_42), .val (.int x9_53), .val (.int x10_62), .val (.ref ob4), .val (.int (0 : Int32)), .val (.ref ob5), .val (.ref b_9), .val (.ref b_13)] [])
    refine own_go (fun _ => XS.aload X18.here hx rfl (hb hby at_304) rfl rfl) ?_
    show own_G p e below Φ T18 (mkF m 306 #[.val (.int p0), .val (.int p1), .val (.int p2), .val (.int p3), .val (.int (0 : Int32)), .val (.int x5_14), .val (.int x6_22), .val (.int x7_33), .val (.int x8_42), .val (.int x9_53), .val (.int x10_62), .val (.ref ob4), .val (.int (0 : Int32)), .val (.ref ob5), .val (.ref b_9), .val (.ref b_13)] [(.ref b_9)])
    refine own_go (fun _ => XS.aload X18.here hx rfl (hb hby at_306) rfl rfl) ?_
    show own_G p e below Φ T18 (mkF m 308 #[.val (.int p0), .val (.int p1), .val (.int p2), .val (.int p3), .val (.int (0 : Int32)), .val (.int x5_14), .val (.int x6_22), .val (.int x7_33), .val (.int x8_42), .val (.int x9_53), .val (.int x10_62), .val (.ref ob4), .val (.int (0 : Int32)), .val (.ref ob5), .val (.ref b_9), .val (.ref b_13)] [(.ref b_13), (.ref b_9)])
    refine own_go (fun _ => XS.iconst X18.here hx rfl (hb hby at_308)) ?_
    show own_G p e below Φ T18 (mkF m 309 #[.val (.int p0), .val (.int p1), .val (.int p2), .val (.int p3), .val (.int (0 : Int32)), .val (.int x5_14), .val (.int x6_22), .val (.int x7_33), .val (.int x8_42), .val (.int x9_53), .val (.int x10_62), .val (.ref ob4), .val (.int (0 : Int32)), .val (.ref ob5), .val (.ref b_9), .val (.ref b_13)] [(.int (1 : Int32)), (.ref b_13), (.ref b_9)])
    refine own_go (fun _ => XS.iload X18.here hx rfl (hb hby at_309) rfl) ?_
    show own_G p e below Φ T18 (mkF m 311 #[.val (.int p0), .val (.int p1), .val (.int p2), .val (.int p3), .val (.int (0 : Int32)), .val (.int x5_14), .val (.int x6_22), .val (.int x7_33), .val (.int x8_42), .val (.int x9_53), .val (.int x10_62), .val (.ref ob4), .val (.int (0 : Int32)), .val (.ref ob5), .val (.ref b_9), .val (.ref b_13)] [(.int (0 : Int32)), (.int (1 : Int32)), (.ref b_13), (.ref b_9)])
    refine own_go (fun _ => XS.iconst X18.here hx rfl (hb hby at_311)) ?_
    show own_G p e below Φ T18 (mkF m 312 #[.val (.int p0), .val (.int p1), .val (.int p2), .val (.int p3), .val (.int (0 : Int32)), .val (.int x5_14), .val (.int x6_22), .val (.int x7_33), .val (.int x8_42), .val (.int x9_53), .val (.int x10_62), .val (.ref ob4), .val (.int (0 : Int32)), .val (.ref ob5), .val (.ref b_9), .val (.ref b_13)] [(.int (0 : Int32)), (.int (0 : Int32)), (.int (1 : Int32)), (.ref b_13), (.ref b_9)])
    refine own_go (fun _ => XS.iload X18.here hx rfl (hb hby at_312) rfl) ?_
    show own_G p e below Φ T18 (mkF m 314 #[.val (.int p0), .val (.int p1), .val (.int p2), .val (.int p3), .val (.int (0 : Int32)), .val (.int x5_14), .val (.int x6_22), .val (.int x7_33), .val (.int x8_42), .val (.int x9_53), .val (.int x10_62), .val (.ref ob4), .val (.int (0 : Int32)), .val (.ref ob5), .val (.ref b_9), .val (.ref b_13)] [(.int x5_14), (.int (0 : Int32)), (.int (0 : Int32)), (.int (1 : Int32)), (.ref b_13), (.ref b_9)])
    refine own_go (fun _ => XS.iload X18.here hx rfl (hb hby at_314) rfl) ?_
    show own_G p e below Φ T18 (mkF m 316 #[.val (.int p0), .val (.int p1), .val (.int p2), .val (.int p3), .val (.int (0 : Int32)), .val (.int x5_14), .val (.int x6_22), .val (.int x7_33), .val (.int x8_42), .val (.int x9_53), .val (.int x10_62), .val (.ref ob4), .val (.int (0 : Int32)), .val (.ref ob5), .val (.ref b_9), .val (.ref b_13)] [(.int x7_33), (.int x5_14), (.int (0 : Int32)), (.int (0 : Int32)), (.int (1 : Int32)), (.ref b_13), (.ref b_9)])
    refine own_go (fun _ => XS.iload X18.here hx rfl (hb hby at_316) rfl) ?_
    show own_G p e below Φ T18 (mkF m 318 #[.val (.int p0), .val (.int p1), .val (.int p2), .val (.int p3), .val (.int (0 : Int32)), .val (.int x5_14), .val (.int x6_22), .val (.int x7_33), .val (.int x8_42), .val (.int x9_53), .val (.int x10_62), .val (.ref ob4), .val (.int (0 : Int32)), .val (.ref ob5), .val (.ref b_9), .val (.ref b_13)] [(.int x9_53), (.int x7_33), (.int x5_14), (.int (0 : Int32)), (.int (0 : Int32)), (.int (1 : Int32)), (.ref b_13), (.ref b_9)])
    obtain ⟨_, _, ⟨T19, zL19, zk19, zn19⟩, -, X19, ⟨Lc19, hQ19, l19, y19, z19⟩, st19⟩ := Jvm.LawKit.callS X18 hx (y := (⟨"com/example/edgewarden/edgewarden/graph/LikenessGetClassSizesPinLaw", "sizeOk", "([I[IIIIIII)Z"⟩ : MethodName)) hown (mvT hZ (wd_24 hw)) (mvT hZ (wd_25 hw)) (mvT hZ (wd_26 hw)) (mvT hZ (wd_27 hw)) (by decide) (backOf (W := 0) (rmK l Z a0 hw [] b_9 b_13 kb_9 kb_13 (0 : Int32) (own_zeros (0 : Int32)) (1 : Int32) (0 : Int32) (0 : Int32) x5_14 x7_33 x9_53 T13.heap n0 Zp13 f15 p13_0 (by decide) (own_use (P := fun t => (1 : Int32) < (0 : Int32) → ((own_zeros (0 : Int32))).getD ((1 : Int32)).toNatClampNeg 0 = own_cnt (1 : Int32) (0 : Int32) (0 : Int32) t.1 t.2.2.1 t.2.2.2.2.1) (by decide +kernel) hall)) hZ (wd_27 hw) (wd_26 hw) (by decide) (by decide)) (g := (mkF m 318 #[.val (.int p0), .val (.int p1), .val (.int p2), .val (.int p3), .val (.int (0 : Int32)), .val (.int x5_14), .val (.int x6_22), .val (.int x7_33), .val (.int x8_42), .val (.int x9_53), .val (.int x10_62), .val (.ref ob4), .val (.int (0 : Int32)), .val (.ref ob5), .val (.ref b_9), .val (.ref b_13)] [(.int x9_53), (.int x7_33), (.int x5_14), (.int (0 : Int32)), (.int (0 : Int32)), (.int (1 : Int32)), (.ref b_13), (.ref b_9)])) rfl (by rw [hml]; rfl) (argsL := [(.ref b_9), (.ref b_13), (.int (1 : Int32)), (.int (0 : Int32)), (.int (0 : Int32)), (.int x5_14), (.int x7_33), (.int x9_53)]) (rest := []) (lenOf pd_4 rfl) rfl (by show 2 * 0 + _ ≤ _; exact Nat.le_of_eq rfl) (hb hby at_318) (fun _ _ => ⟨rfl, hs18, (by decide : 4 + 0 ≤ _), (by decide : 12 + 0 ≤ _)⟩)
    dsimp only [Pt.U, Pt.locs, Pt.cells, Pt.slots] at X19 l19 y19 z19 st19 hQ19
    subst l19 y19 z19
    obtain ⟨rfl, N19q, hs19⟩ := hQ19
    have N19 := Fr.app N18 N19q
    refine own_go st19 ?_
    show own_G p e below Φ T19 (mkF m 321 #[.val (.int p0), .val (.int p1), .val (.int p2), .val (.int p3), .val (.int (0 : Int32)), .val (.int x5_14), .val (.int x6_22), .val (.int x7_33), .val (.int x8_42), .val (.int x9_53), .val (.int x10_62), .val (.ref ob4), .val (.int (0 : Int32)), .val (.ref ob5), .val (.ref b_9), .val (.ref b_13)] [(.int (1 : Int32))])
    refine own_go (fun _ => XS.ifNo X19.here hx rfl (hb hby at_321) rfl (Jvm.Free.XT.i0_eq_f (by decide : ¬ ((1 : Int32) = (0 : Int32))))) ?_
    show own_G p e below Φ T19 (mkF m 324 #[.val (.int p0), .val (.int p1), .val (.int p2), .val (.int p3), .val (.int (0 : Int32)), .val (.int x5_14), .val (.int x6_22), .val (.int x7_33), .val (.int x8_42), .val (.int x9_53), .val (.int x10_62), .val (.ref ob4), .val (.int (0 : Int32)), .val (.ref ob5), .val (.ref b_9), .val (.ref b_13)] [])
    refine own_go (fun _ => XS.aload X19.here hx rfl (hb hby at_324) rfl rfl) ?_
    show own_G p e below Φ T19 (mkF m 326 #[.val (.int p0), .val (.int p1), .val (.int p2), .val (.int p3), .val (.int (0 : Int32)), .val (.int x5_14), .val (.int x6_22), .val (.int x7_33), .val (.int x8_42), .val (.int x9_53), .val (.int x10_62), .val (.ref ob4), .val (.int (0 : Int32)), .val (.ref ob5), .val (.ref b_9), .val (.ref b_13)] [(.ref b_9)])
    refine own_go (fun _ => XS.aload X19.here hx rfl (hb hby at_326) rfl rfl) ?_
    show own_G p e below Φ T19 (mkF m 328 #[.val (.int p0), .val (.int p1), .val (.int p2), .val (.int p3), .val (.int (0 : Int32)), .val (.int x5_14), .val (.int x6_22), .val (.int x7_33), .val (.int x8_42), .val (.int x9_53), .val (.int x10_62), .val (.ref ob4), .val (.int (0 : Int32)), .val (.ref ob5), .val (.ref b_9), .val (.ref b_13)] [(.ref b_13), (.ref b_9)])
    refine own_go (fun _ => XS.iconst X19.here hx rfl (hb hby at_328)) ?_
    show own_G p e below Φ T19 (mkF m 329 #[.val (.int p0), .val (.int p1), .val (.int p2), .val (.int p3), .val (.int (0 : Int32)), .val (.int x5_14), .val (.int x6_22), .val (.int x7_33), .val (.int x8_42), .val (.int x9_53), .val (.int x10_62), .val (.ref ob4), .val (.int (0 : Int32)), .val (.ref ob5), .val (.ref b_9), .val (.ref b_13)] [(.int (2 : Int32)), (.ref b_13), (.ref b_9)])
    refine own_go (fun _ => XS.iload X19.here hx rfl (hb hby at_329) rfl) ?_
    show own_G p e below Φ T19 (mkF m 331 #[.val (.int p0), .val (.int p1), .val (.int p2), .val (.int p3), .val (.int (0 : Int32)), .val (.int x5_14), .val (.int x6_22), .val (.int x7_33), .val (.int x8_42), .val (.int x9_53), .val (.int x10_62), .val (.ref ob4), .val (.int (0 : Int32)), .val (.ref ob5), .val (.ref b_9), .val (.ref b_13)] [(.int (0 : Int32)), (.int (2 : Int32)), (.ref b_13), (.ref b_9)])
    refine own_go (fun _ => XS.iconst X19.here hx rfl (hb hby at_331)) ?_
    show own_G p e below Φ T19 (mkF m 332 #[.val (.int p0), .val (.int p1), .val (.int p2), .val (.int p3), .val (.int (0 : Int32)), .val (.int x5_14), .val (.int x6_22), .val (.int x7_33), .val (.int x8_42), .val (.int x9_53), .val (.int x10_62), .val (.ref ob4), .val (.int (0 : Int32)), .val (.ref ob5), .val (.ref b_9), .val (.ref b_13)] [(.int (0 : Int32)), (.int (0 : Int32)), (.int (2 : Int32)), (.ref b_13), (.ref b_9)])
    refine own_go (fun _ => XS.iload X19.here hx rfl (hb hby at_332) rfl) ?_
    show own_G p e below Φ T19 (mkF m 334 #[.val (.int p0), .val (.int p1), .val (.int p2), .val (.int p3), .val (.int (0 : Int32)), .val (.int x5_14), .val (.int x6_22), .val (.int x7_33), .val (.int x8_42), .val (.int x9_53), .val (.int x10_62), .val (.ref ob4), .val (.int (0 : Int32)), .val (.ref ob5), .val (.ref b_9), .val (.ref b_13)] [(.int x5_14), (.int (0 : Int32)), (.int (0 : Int32)), (.int (2 : Int32)), (.ref b_13), (.ref b_9)])
    refine own_go (fun _ => XS.iload X19.here hx rfl (hb hby at_334) rfl) ?_
    show own_G p e below Φ T19 (mkF m 336 #[.val (.int p0), .val (.int p1), .val (.int p2), .val (.int p3), .val (.int (0 : Int32)), .val (.int x5_14), .val (.int x6_22), .val (.int x7_33), .val (.int x8_42), .val (.int x9_53), .val (.int x10_62), .val (.ref ob4), .val (.int (0 : Int32)), .val (.ref ob5), .val (.ref b_9), .val (.ref b_13)] [(.int x7_33), (.int x5_14), (.int (0 : Int32)), (.int (0 : Int32)), (.int (2 : Int32)), (.ref b_13), (.ref b_9)])
    refine own_go (fun _ => XS.iload X19.here hx rfl (hb hby at_336) rfl) ?_
    show own_G p e below Φ T19 (mkF m 338 #[.val (.int p0), .val (.int p1), .val (.int p2), .val (.int p3), .val (.int (0 : Int32)), .val (.int x5_14), .val (.int x6_22), .val (.int x7_33), .val (.int x8_42), .val (.int x9_53), .val (.int x10_62), .val (.ref ob4), .val (.int (0 : Int32)), .val (.ref ob5), .val (.ref b_9), .val (.ref b_13)] [(.int x9_53), (.int x7_33), (.int x5_14), (.int (0 : Int32)), (.int (0 : Int32)), (.int (2 : Int32)), (.ref b_13), (.ref b_9)])
    obtain ⟨_, _, ⟨T20, zL20, zk20, zn20⟩, -, X20, ⟨Lc20, hQ20, l20, y20, z20⟩, st20⟩ := Jvm.LawKit.callS X19 hx (y := (⟨"com/example/edgewarden/edgewarden/graph/LikenessGetClassSizesPinLaw", "sizeOk", "([I[IIIIIII)Z"⟩ : MethodName)) hown (mvT hZ (wd_24 hw)) (mvT hZ (wd_25 hw)) (mvT hZ (wd_26 hw)) (mvT hZ (wd_27 hw)) (by decide) (backOf (W := 0) (rmK l Z a0 hw [] b_9 b_13 kb_9 kb_13 (0 : Int32) (own_zeros (0 : Int32)) (2 : Int32) (0 : Int32) (0 : Int32) x5_14 x7_33 x9_53 T13.heap n0 Zp13 f15 p13_0 (by decide) (own_use (P := fun t => (2 : Int32) < (0 : Int32) → ((own_zeros (0 : Int32))).getD ((2 : Int32)).toNatClampNeg 0 = own_cnt (2 : Int32) (0 : Int32) (0 : Int32) t.1 t.2.2.1 t.2.2.2.2.1) (by decide +kernel) hall)) hZ (wd_27 hw) (wd_26 hw) (by decide) (by decide)) (g := (mkF m 338 #[.val (.int p0), .val (.int p1), .val (.int p2), .val (.int p3), .val (.int (0 : Int32)), .val (.int x5_14), .val (.int x6_22), .val (.int x7_33), .val (.int x8_42), .val (.int x9_53), .val (.int x10_62), .val (.ref ob4), .val (.int (0 : Int32)), .val (.ref ob5), .val (.ref b_9), .val (.ref b_13)] [(.int x9_53), (.int x7_33), (.int x5_14), (.int (0 : Int32)), (.int (0 : Int32)), (.int (2 : Int32)), (.ref b_13), (.ref b_9)])) rfl (by rw [hml]; rfl) (argsL := [(.ref b_9), (.ref b_13), (.int (2 : Int32)), (.int (0 : Int32)), (.int (0 : Int32)), (.int x5_14), (.int x7_33), (.int x9_53)]) (rest := []) (lenOf pd_4 rfl) rfl (by show 2 * 0 + _ ≤ _; exact Nat.le_of_eq rfl) (hb hby at_338) (fun _ _ => ⟨rfl, hs19, (by decide : 4 + 0 ≤ _), (by decide : 12 + 0 ≤ _)⟩)
    dsimp only [Pt.U, Pt.locs, Pt.cells, Pt.slots] at X20 l20 y20 z20 st20 hQ20
    subst l20 y20 z20
    obtain ⟨rfl, N20q, hs20⟩ := hQ20
    have N20 := Fr.app N19 N20q
    refine own_go st20 ?_
    show own_G p e below Φ T20 (mkF m 341 #[.val (.int p0), .val (.int p1), .val (.int p2), .val (.int p3), .val (.int (0 : Int32)), .val (.int x5_14), .val (.int x6_22), .val (.int x7_33), .val (.int x8_42), .val (.int x9_53), .val (.int x10_62), .val (.ref ob4), .val (.int (0 : Int32)), .val (.ref ob5), .val (.ref b_9), .val (.ref b_13)] [(.int (1 : Int32))])
    refine own_go (fun _ => XS.ifNo X20.here hx rfl (hb hby at_341) rfl (Jvm.Free.XT.i0_eq_f (by decide : ¬ ((1 : Int32) = (0 : Int32))))) ?_
    show own_G p e below Φ T20 (mkF m 344 #[.val (.int p0), .val (.int p1), .val (.int p2), .val (.int p3), .val (.int (0 : Int32)), .val (.int x5_14), .val (.int x6_22), .val (.int x7_33), .val (.int x8_42), .val (.int x9_53), .val (.int x10_62), .val (.ref ob4), .val (.int (0 : Int32)), .val (.ref ob5), .val (.ref b_9), .val (.ref b_13)] [])
    refine own_go (fun _ => XS.aload X20.here hx rfl (hb hby at_344) rfl rfl) ?_
    show own_G p e below Φ T20 (mkF m 346 #[.val (.int p0), .val (.int p1), .val (.int p2), .val (.int p3), .val (.int (0 : Int32)), .val (.int x5_14), .val (.int x6_22), .val (.int x7_33), .val (.int x8_42), .val (.int x9_53), .val (.int x10_62), .val (.ref ob4), .val (.int (0 : Int32)), .val (.ref ob5), .val (.ref b_9), .val (.ref b_13)] [(.ref b_9)])
    refine own_go (fun _ => XS.aload X20.here hx rfl (hb hby at_346) rfl rfl) ?_
    show own_G p e below Φ T20 (mkF m 348 #[.val (.int p0), .val (.int p1), .val (.int p2), .val (.int p3), .val (.int (0 : Int32)), .val (.int x5_14), .val (.int x6_22), .val (.int x7_33), .val (.int x8_42), .val (.int x9_53), .val (.int x10_62), .val (.ref ob4), .val (.int (0 : Int32)), .val (.ref ob5), .val (.ref b_9), .val (.ref b_13)] [(.ref b_13), (.ref b_9)])
    refine own_go (fun _ => XS.iconst X20.here hx rfl (hb hby at_348)) ?_
    show own_G p e below Φ T20 (mkF m 349 #[.val (.int p0), .val (.int p1), .val (.int p2), .val (.int p3), .val (.int (0 : Int32)), .val (.int x5_14), .val (.int x6_22), .val (.int x7_33), .val (.int x8_42), .val (.int x9_53), .val (.int x10_62), .val (.ref ob4), .val (.int (0 : Int32)), .val (.ref ob5), .val (.ref b_9), .val (.ref b_13)] [(.int (3 : Int32)), (.ref b_13), (.ref b_9)])
    refine own_go (fun _ => XS.iload X20.here hx rfl (hb hby at_349) rfl) ?_
    show own_G p e below Φ T20 (mkF m 351 #[.val (.int p0), .val (.int p1), .val (.int p2), .val (.int p3), .val (.int (0 : Int32)), .val (.int x5_14), .val (.int x6_22), .val (.int x7_33), .val (.int x8_42), .val (.int x9_53), .val (.int x10_62), .val (.ref ob4), .val (.int (0 : Int32)), .val (.ref ob5), .val (.ref b_9), .val (.ref b_13)] [(.int (0 : Int32)), (.int (3 : Int32)), (.ref b_13), (.ref b_9)])
    refine own_go (fun _ => XS.iconst X20.here hx rfl (hb hby at_351)) ?_
    show own_G p e below Φ T20 (mkF m 352 #[.val (.int p0), .val (.int p1), .val (.int p2), .val (.int p3), .val (.int (0 : Int32)), .val (.int x5_14), .val (.int x6_22), .val (.int x7_33), .val (.int x8_42), .val (.int x9_53), .val (.int x10_62), .val (.ref ob4), .val (.int (0 : Int32)), .val (.ref ob5), .val (.ref b_9), .val (.ref b_13)] [(.int (0 : Int32)), (.int (0 : Int32)), (.int (3 : Int32)), (.ref b_13), (.ref b_9)])
    refine own_go (fun _ => XS.iload X20.here hx rfl (hb hby at_352) rfl) ?_
    show own_G p e below Φ T20 (mkF m 354 #[.val (.int p0), .val (.int p1), .val (.int p2), .val (.int p3), .val (.int (0 : Int32)), .val (.int x5_14), .val (.int x6_22), .val (.int x7_33), .val (.int x8_42), .val (.int x9_53), .val (.int x10_62), .val (.ref ob4), .val (.int (0 : Int32)), .val (.ref ob5), .val (.ref b_9), .val (.ref b_13)] [(.int x5_14), (.int (0 : Int32)), (.int (0 : Int32)), (.int (3 : Int32)), (.ref b_13), (.ref b_9)])
    refine own_go (fun _ => XS.iload X20.here hx rfl (hb hby at_354) rfl) ?_
    show own_G p e below Φ T20 (mkF m 356 #[.val (.int p0), .val (.int p1), .val (.int p2), .val (.int p3), .val (.int (0 : Int32)), .val (.int x5_14), .val (.int x6_22), .val (.int x7_33), .val (.int x8_42), .val (.int x9_53), .val (.int x10_62), .val (.ref ob4), .val (.int (0 : Int32)), .val (.ref ob5), .val (.ref b_9), .val (.ref b_13)] [(.int x7_33), (.int x5_14), (.int (0 : Int32)), (.int (0 : Int32)), (.int (3 : Int32)), (.ref b_13), (.ref b_9)])
    refine own_go (fun _ => XS.iload X20.here hx rfl (hb hby at_356) rfl) ?_
    show own_G p e below Φ T20 (mkF m 358 #[.val (.int p0), .val (.int p1), .val (.int p2), .val (.int p3), .val (.int (0 : Int32)), .val (.int x5_14), .val (.int x6_22), .val (.int x7_33), .val (.int x8_42), .val (.int x9_53), .val (.int x10_62), .val (.ref ob4), .val (.int (0 : Int32)), .val (.ref ob5), .val (.ref b_9), .val (.ref b_13)] [(.int x9_53), (.int x7_33), (.int x5_14), (.int (0 : Int32)), (.int (0 : Int32)), (.int (3 : Int32)), (.ref b_13), (.ref b_9)])
    obtain ⟨_, _, ⟨T21, zL21, zk21, zn21⟩, -, X21, ⟨Lc21, hQ21, l21, y21, z21⟩, st21⟩ := Jvm.LawKit.callS X20 hx (y := (⟨"com/example/edgewarden/edgewarden/graph/LikenessGetClassSizesPinLaw", "sizeOk", "([I[IIIIIII)Z"⟩ : MethodName)) hown (mvT hZ (wd_24 hw)) (mvT hZ (wd_25 hw)) (mvT hZ (wd_26 hw)) (mvT hZ (wd_27 hw)) (by decide) (backOf (W := 0) (rmK l Z a0 hw [] b_9 b_13 kb_9 kb_13 (0 : Int32) (own_zeros (0 : Int32)) (3 : Int32) (0 : Int32) (0 : Int32) x5_14 x7_33 x9_53 T13.heap n0 Zp13 f15 p13_0 (by decide) (own_use (P := fun t => (3 : Int32) < (0 : Int32) → ((own_zeros (0 : Int32))).getD ((3 : Int32)).toNatClampNeg 0 = own_cnt (3 : Int32) (0 : Int32) (0 : Int32) t.1 t.2.2.1 t.2.2.2.2.1) (by decide +kernel) hall)) hZ (wd_27 hw) (wd_26 hw) (by decide) (by decide)) (g := (mkF m 358 #[.val (.int p0), .val (.int p1), .val (.int p2), .val (.int p3), .val (.int (0 : Int32)), .val (.int x5_14), .val (.int x6_22), .val (.int x7_33), .val (.int x8_42), .val (.int x9_53), .val (.int x10_62), .val (.ref ob4), .val (.int (0 : Int32)), .val (.ref ob5), .val (.ref b_9), .val (.ref b_13)] [(.int x9_53), (.int x7_33), (.int x5_14), (.int (0 : Int32)), (.int (0 : Int32)), (.int (3 : Int32)), (.ref b_13), (.ref b_9)])) rfl (by rw [hml]; rfl) (argsL := [(.ref b_9), (.ref b_13), (.int (3 : Int32)), (.int (0 : Int32)), (.int (0 : Int32)), (.int x5_14), (.int x7_33), (.int x9_53)]) (rest := []) (lenOf pd_4 rfl) rfl (by show 2 * 0 + _ ≤ _; exact Nat.le_of_eq rfl) (hb hby at_358) (fun _ _ => ⟨rfl, hs20, (by decide : 4 + 0 ≤ _), (by decide : 12 + 0 ≤ _)⟩)
    dsimp only [Pt.U, Pt.locs, Pt.cells, Pt.slots] at X21 l21 y21 z21 st21 hQ21
    subst l21 y21 z21
    obtain ⟨rfl, N21q, hs21⟩ := hQ21
    have N21 := Fr.app N20 N21q
    refine own_go st21 ?_
    show own_G p e below Φ T21 (mkF m 361 #[.val (.int p0), .val (.int p1), .val (.int p2), .val (.int p3), .val (.int (0 : Int32)), .val (.int x5_14), .val (.int x6_22), .val (.int x7_33), .val (.int x8_42), .val (.int x9_53), .val (.int x10_62), .val (.ref ob4), .val (.int (0 : Int32)), .val (.ref ob5), .val (.ref b_9), .val (.ref b_13)] [(.int (1 : Int32))])
    refine own_go (fun _ => XS.ifNo X21.here hx rfl (hb hby at_361) rfl (Jvm.Free.XT.i0_eq_f (by decide : ¬ ((1 : Int32) = (0 : Int32))))) ?_
    show own_G p e below Φ T21 (mkF m 364 #[.val (.int p0), .val (.int p1), .val (.int p2), .val (.int p3), .val (.int (0 : Int32)), .val (.int x5_14), .val (.int x6_22), .val (.int x7_33), .val (.int x8_42), .val (.int x9_53), .val (.int x10_62), .val (.ref ob4), .val (.int (0 : Int32)), .val (.ref ob5), .val (.ref b_9), .val (.ref b_13)] [])
    refine own_go (fun _ => XS.iconst X21.here hx rfl (hb hby at_364)) ?_
    show own_G p e below Φ T21 (mkF m 365 #[.val (.int p0), .val (.int p1), .val (.int p2), .val (.int p3), .val (.int (0 : Int32)), .val (.int x5_14), .val (.int x6_22), .val (.int x7_33), .val (.int x8_42), .val (.int x9_53), .val (.int x10_62), .val (.ref ob4), .val (.int (0 : Int32)), .val (.ref ob5), .val (.ref b_9), .val (.ref b_13)] [(.int (1 : Int32))])
    refine own_go (fun _ => XS.goto X21.here hx rfl (pc0 := 365) (pc' := 369) rfl (hb hby at_365) (by decide) (by decide)) ?_
    show own_G p e below Φ T21 (mkF m 369 #[.val (.int p0), .val (.int p1), .val (.int p2), .val (.int p3), .val (.int (0 : Int32)), .val (.int x5_14), .val (.int x6_22), .val (.int x7_33), .val (.int x8_42), .val (.int x9_53), .val (.int x10_62), .val (.ref ob4), .val (.int (0 : Int32)), .val (.ref ob5), .val (.ref b_9), .val (.ref b_13)] [(.int (1 : Int32))])
    rw [hΦ]
    refine own_ret X21 (v := some (.int (1 : Int32))) (fun h => by rw [Bd.returns] at h; cases h) (BodyLoose.notSynchronized Bd) (fun fs hr => retN X21 hx (t := .boolean) Bd.returns (by simp) (hb hby at_369) hr) ?_ (by decide) (by decide)
    rw [hs21]
    exact ⟨rfl, N21⟩
  · show own_G p e below Φ T3 (mkF m 64 #[.val (.int p0), .val (.int p1), .val (.int p2), .val (.int p3), .val (.int (1 : Int32)), .val (.int x5_14), .val (.int x6_22), .val (.int x7_33), .val (.int x8_42), .val (.int x9_53), .val (.int x10_62), .unset, .unset, .unset, .unset, .unset] [])
    refine own_go (fun _ => XS.iload X3.here hx rfl (hb hby at_64) rfl) ?_
    show own_G p e below Φ T3 (mkF m 66 #[.val (.int p0), .val (.int p1), .val (.int p2), .val (.int p3), .val (.int (1 : Int32)), .val (.int x5_14), .val (.int x6_22), .val (.int x7_33), .val (.int x8_42), .val (.int x9_53), .val (.int x10_62), .unset, .unset, .unset, .unset, .unset] [(.int (1 : Int32))])
    obtain ⟨T22, h22, ka22, X22, e22, E22, A22, st22⟩ := newP (aty := .int) X3 hx hZ (wd_5 hw) hs3 (g := (mkF m 66 #[.val (.int p0), .val (.int p1), .val (.int p2), .val (.int p3), .val (.int (1 : Int32)), .val (.int x5_14), .val (.int x6_22), .val (.int x7_33), .val (.int x8_42), .val (.int x9_53), .val (.int x10_62), .unset, .unset, .unset, .unset, .unset] [(.int (1 : Int32))])) rfl (hb hby at_66) rfl (by decide) (cap := 1) (by decide) (by decide) (by decide) (by decide)
    obtain ⟨ob22, g22⟩ : ∃ z, z = h0.size := ⟨_, rfl⟩
    rw [← g22] at A22 st22
    have V22 : Arv Z h22 ob22 ka22 .int (1 : Int32) [(.int (0 : Int32))] (.int (0 : Int32)) := (Arv.new A22 (by decide)).pad (pad_rep [] (.int (0 : Int32)) 1)
    have g_ob22 : n0 ≤ ob22 := Nat.le_trans Z0 (Nat.le_of_eq g22.symm)
    have Zp22 : n0 ≤ h22.size := Nat.le_trans Z0 E22.1
    refine own_go st22 ?_
    show own_G p e below Φ T22 (mkF m 68 #[.val (.int p0), .val (.int p1), .val (.int p2), .val (.int p3), .val (.int (1 : Int32)), .val (.int x5_14), .val (.int x6_22), .val (.int x7_33), .val (.int x8_42), .val (.int x9_53), .val (.int x10_62), .unset, .unset, .unset, .unset, .unset] [(.ref ob22)])
    refine own_go (fun _ => XS.astore X22.here hx rfl (hb hby at_68) rfl rfl (l' := #[.val (.int p0), .val (.int p1), .val (.int p2), .val (.int p3), .val (.int (1 : Int32)), .val (.int x5_14), .val (.int x6_22), .val (.int x7_33), .val (.int x8_42), .val (.int x9_53), .val (.int x10_62), .val (.ref ob22), .unset, .unset, .unset, .unset]) rfl) ?_
    show own_G p e below Φ T22 (mkF m 70 #[.val (.int p0), .val (.int p1), .val (.int p2), .val (.int p3), .val (.int (1 : Int32)), .val (.int x5_14), .val (.int x6_22), .val (.int x7_33), .val (.int x8_42), .val (.int x9_53), .val (.int x10_62), .val (.ref ob22), .unset, .unset, .unset, .unset] [])
    refine own_go (fun _ => XS.iload X22.here hx rfl (hb hby at_70) rfl) ?_
    show own_G p e below Φ T22 (mkF m 72 #[.val (.int p0), .val (.int p1), .val (.int p2), .val (.int p3), .val (.int (1 : Int32)), .val (.int x5_14), .val (.int x6_22), .val (.int x7_33), .val (.int x8_42), .val (.int x9_53), .val (.int x10_62), .val (.ref ob22), .unset, .unset, .unset, .unset] [(.int (1 : Int32))])
    refine own_go (fun _ => XS.ifNo X22.here hx rfl (hb hby at_72) rfl (Jvm.Free.XT.i0_le_f (by decide : ((0 : Int32) < (1 : Int32))))) ?_
    show own_G p e below Φ T22 (mkF m 75 #[.val (.int p0), .val (.int p1), .val (.int p2), .val (.int p3), .val (.int (1 : Int32)), .val (.int x5_14), .val (.int x6_22), .val (.int x7_33), .val (.int x8_42), .val (.int x9_53), .val (.int x10_62), .val (.ref ob22), .unset, .unset, .unset, .unset] [])
    refine own_go (fun _ => XS.aload X22.here hx rfl (hb hby at_75) rfl rfl) ?_
    show own_G p e below Φ T22 (mkF m 77 #[.val (.int p0), .val (.int p1), .val (.int p2), .val (.int p3), .val (.int (1 : Int32)), .val (.int x5_14), .val (.int x6_22), .val (.int x7_33), .val (.int x8_42), .val (.int x9_53), .val (.int x10_62), .val (.ref ob22), .unset, .unset, .unset, .unset] [(.ref ob22)])
    refine own_go (fun _ => XS.iconst X22.here hx rfl (hb hby at_77)) ?_
    show own_G p e below Φ T22 (mkF m 78 #[.val (.int p0), .val (.int p1), .val (.int p2), .val (.int p3), .val (.int (1 : Int32)), .val (.int x5_14), .val (.int x6_22), .val (.int x7_33), .val (.int x8_42), .val (.int x9_53), .val (.int x10_62), .val (.ref ob22), .unset, .unset, .unset, .unset] [(.int (0 : Int32)), (.ref ob22)])
    refine own_go (fun _ => XS.iconst X22.here hx rfl (hb hby at_78)) ?_
    show own_G p e below Φ T22 (mkF m 79 #[.val (.int p0), .val (.int p1), .val (.int p2), .val (.int p3), .val (.int (1 : Int32)), .val (.int x5_14), .val (.int x6_22), .val (.int x7_33), .val (.int x8_42), .val (.int x9_53), .val (.int x10_62), .val (.ref ob22), .unset, .unset, .unset, .unset] [(.int (0 : Int32)), (.int (0 : Int32)), (.ref ob22)])
    obtain ⟨cl23, Ar23, q23, S23, M23, H23, G23⟩ := id V22
    have hin23 : ¬ ((0 : Int32) < 0 ∨ cl23.slots.size ≤ ((0 : Int32)).toNatClampNeg) := inb_of S23 ⟨by decide, by decide⟩
    obtain ⟨T23, h23, X23, e23, W23, st23⟩ := stI X22 hx hZ e22 Ar23 (j := (0 : Int32)) hin23 (g := (mkF m 79 #[.val (.int p0), .val (.int p1), .val (.int p2), .val (.int p3), .val (.int (1 : Int32)), .val (.int x5_14), .val (.int x6_22), .val (.int x7_33), .val (.int x8_42), .val (.int x9_53), .val (.int x10_62), .val (.ref ob22), .unset, .unset, .unset, .unset] [(.int (0 : Int32)), (.int (0 : Int32)), (.ref ob22)])) rfl rfl (hb hby at_79)
    refine own_go st23 ?_
    have V23 : Arv Z h23 ob22 ka22 .int (1 : Int32) [(.int (0 : Int32))] (.int (0 : Int32)) := Arv.set Ar23 q23 S23 M23 H23 G23 rfl W23 0 rfl (Nat.le_of_ble_eq_true rfl)
    have N23 := Fr.snoc X23 N3 g_ob22
    have Zp23 : n0 ≤ h23.size := Nat.le_trans Zp22 (Keep.of_wr W23).1
    show own_G p e below Φ T23 (mkF m 80 #[.val (.int p0), .val (.int p1), .val (.int p2), .val (.int p3), .val (.int (1 : Int32)), .val (.int x5_14), .val (.int x6_22), .val (.int x7_33), .val (.int x8_42), .val (.int x9_53), .val (.int x10_62), .val (.ref ob22), .unset, .unset, .unset, .unset] [])
    refine own_go (fun _ => XS.iload X23.here hx rfl (hb hby at_80) rfl) ?_
    show own_G p e below Φ T23 (mkF m 82 #[.val (.int p0), .val (.int p1), .val (.int p2), .val (.int p3), .val (.int (1 : Int32)), .val (.int x5_14), .val (.int x6_22), .val (.int x7_33), .val (.int x8_42), .val (.int x9_53), .val (.int x10_62), .val (.ref ob22), .unset, .unset, .unset, .unset] [(.int (1 : Int32))])
    refine own_go (fun _ => XS.iconst X23.here hx rfl (hb hby at_82)) ?_
    show own_G p e below Φ T23 (mkF m 83 #[.val (.int p0), .val (.int p1), .val (.int p2), .val (.int p3), .val (.int (1 : Int32)), .val (.int x5_14), .val (.int x6_22), .val (.int x7_33), .val (.int x8_42), .val (.int x9_53), .val (.int x10_62), .val (.ref ob22), .unset, .unset, .unset, .unset] [(.int (1 : Int32)), (.int (1 : Int32))])
    refine own_go (fun _ => XS.icmpYes X23.here hx rfl (pc0 := 83) (pc' := 92) rfl (hb hby at_83) rfl (Jvm.Free.XT.ii_le_t (by decide : ¬ ((1 : Int32) < (1 : Int32)))) (by decide) (by decide)) ?_
    show own_G p e below Φ T23 (mkF m 92 #[.val (.int p0), .val (.int p1), .val (.int p2), .val (.int p3), .val (.int (1 : Int32)), .val (.int x5_14), .val (.int x6_22), .val (.int x7_33), .val (.int x8_42), .val (.int x9_53), .val (.int x10_62), .val (.ref ob22), .unset, .unset, .unset, .unset] [])
    refine own_go (fun _ => XS.iload X23.here hx rfl (hb hby at_92) rfl) ?_
    show own_G p e below Φ T23 (mkF m 94 #[.val (.int p0), .val (.int p1), .val (.int p2), .val (.int p3), .val (.int (1 : Int32)), .val (.int x5_14), .val (.int x6_22), .val (.int x7_33), .val (.int x8_42), .val (.int x9_53), .val (.int x10_62), .val (.ref ob22), .unset, .unset, .unset, .unset] [(.int (1 : Int32))])
    refine own_go (fun _ => XS.iconst X23.here hx rfl (hb hby at_94)) ?_
    show own_G p e below Φ T23 (mkF m 95 #[.val (.int p0), .val (.int p1), .val (.int p2), .val (.int p3), .val (.int (1 : Int32)), .val (.int x5_14), .val (.int x6_22), .val (.int x7_33), .val (.int x8_42), .val (.int x9_53), .val (.int x10_62), .val (.ref ob22), .unset, .unset, .unset, .unset] [(.int (2 : Int32)), (.int (1 : Int32))])
    refine own_go (fun _ => XS.icmpYes X23.here hx rfl (pc0 := 95) (pc' := 104) rfl (hb hby at_95) rfl (Jvm.Free.XT.ii_le_t (by decide : ¬ ((2 : Int32) < (1 : Int32)))) (by decide) (by decide)) ?_
    show own_G p e below Φ T23 (mkF m 104 #[.val (.int p0), .val (.int p1), .val (.int p2), .val (.int p3), .val (.int (1 : Int32)), .val (.int x5_14), .val (.int x6_22), .val (.int x7_33), .val (.int x8_42), .val (.int x9_53), .val (.int x10_62), .val (.ref ob22), .unset, .unset, .unset, .unset] [])
    refine own_go (fun _ => XS.iload X23.here hx rfl (hb hby at_104) rfl) ?_
    show own_G p e below Φ T23 (mkF m 106 #[.val (.int p0), .val (.int p1), .val (.int p2), .val (.int p3), .val (.int (1 : Int32)), .val (.int x5_14), .val (.int x6_22), .val (.int x7_33), .val (.int x8_42), .val (.int x9_53), .val (.int x10_62), .val (.ref ob22), .unset, .unset, .unset, .unset] [(.int (1 : Int32))])
    refine own_go (fun _ => XS.iconst X23.here hx rfl (hb hby at_106)) ?_
    show own_G p e below Φ T23 (mkF m 107 #[.val (.int p0), .val (.int p1), .val (.int p2), .val (.int p3), .val (.int (1 : Int32)), .val (.int x5_14), .val (.int x6_22), .val (.int x7_33), .val (.int x8_42), .val (.int x9_53), .val (.int x10_62), .val (.ref ob22), .unset, .unset, .unset, .unset] [(.int (3 : Int32)), (.int (1 : Int32))])
    refine own_go (fun _ => XS.icmpYes X23.here hx rfl (pc0 := 107) (pc' := 116) rfl (hb hby at_107) rfl (Jvm.Free.XT.ii_le_t (by decide : ¬ ((3 : Int32) < (1 : Int32)))) (by decide) (by decide)) ?_
    show own_G p e below Φ T23 (mkF m 116 #[.val (.int p0), .val (.int p1), .val (.int p2), .val (.int p3), .val (.int (1 : Int32)), .val (.int x5_14), .val (.int x6_22), .val (.int x7_33), .val (.int x8_42), .val (.int x9_53), .val (.int x10_62), .val (.ref ob22), .unset, .unset, .unset, .unset] [])
    refine own_go (fun _ => XS.iload X23.here hx rfl (hb hby at_116) rfl) ?_
    show own_G p e below Φ T23 (mkF m 118 #[.val (.int p0), .val (.int p1), .val (.int p2), .val (.int p3), .val (.int (1 : Int32)), .val (.int x5_14), .val (.int x6_22), .val (.int x7_33), .val (.int x8_42), .val (.int x9_53), .val (.int x10_62), .val (.ref ob22), .unset, .unset, .unset, .unset] [(.int (1 : Int32))])
    refine own_go (fun _ => XS.ifYes X23.here hx rfl (pc0 := 118) (pc' := 125) rfl (hb hby at_118) rfl (Jvm.Free.XT.i0_ne_t (by decide : ¬ ((1 : Int32) = (0 : Int32)))) (by decide) (by decide)) ?_
    show own_G p e below Φ T23 (mkF m 125 #[.val (.int p0), .val (.int p1), .val (.int p2), .val (.int p3), .val (.int (1 : Int32)), .val (.int x5_14), .val (.int x6_22), .val (.int x7_33), .val (.int x8_42), .val (.int x9_53), .val (.int x10_62), .val (.ref ob22), .unset, .unset, .unset, .unset] [])
    refine own_go (fun _ => XS.iload X23.here hx rfl (hb hby at_125) rfl) ?_
    show own_G p e below Φ T23 (mkF m 127 #[.val (.int p0), .val (.int p1), .val (.int p2), .val (.int p3), .val (.int (1 : Int32)), .val (.int x5_14), .val (.int x6_22), .val (.int x7_33), .val (.int x8_42), .val (.int x9_53), .val (.int x10_62), .val (.ref ob22), .unset, .unset, .unset, .unset] [(.int (1 : Int32))])
    refine own_go (fun _ => XS.iconst X23.here hx rfl (hb hby at_127)) ?_
    show own_G p e below Φ T23 (mkF m 128 #[.val (.int p0), .val (.int p1), .val (.int p2), .val (.int p3), .val (.int (1 : Int32)), .val (.int x5_14), .val (.int x6_22), .val (.int x7_33), .val (.int x8_42), .val (.int x9_53), .val (.int x10_62), .val (.ref ob22), .unset, .unset, .unset, .unset] [(.int (1 : Int32)), (.int (1 : Int32))])
    refine own_go (fun _ => XS.icmpNo X23.here hx rfl (hb hby at_128) rfl (Jvm.Free.XT.ii_ne_f (by decide : ((1 : Int32) = (1 : Int32))))) ?_
    show own_G p e below Φ T23 (mkF m 131 #[.val (.int p0), .val (.int p1), .val (.int p2), .val (.int p3), .val (.int (1 : Int32)), .val (.int x5_14), .val (.int x6_22), .val (.int x7_33), .val (.int x8_42), .val (.int x9_53), .val (.int x10_62), .val (.ref ob22), .unset, .unset, .unset, .unset] [])
    refine own_go (fun _ => XS.iconst X23.here hx rfl (hb hby at_131)) ?_
    show own_G p e below Φ T23 (mkF m 132 #[.val (.int p0), .val (.int p1), .val (.int p2), .val (.int p3), .val (.int (1 : Int32)), .val (.int x5_14), .val (.int x6_22), .val (.int x7_33), .val (.int x8_42), .val (.int x9_53), .val (.int x10_62), .val (.ref ob22), .unset, .unset, .unset, .unset] [(.int (1 : Int32))])
    refine own_go (fun _ => XS.goto X23.here hx rfl (pc0 := 132) (pc' := 165) rfl (hb hby at_132) (by decide) (by decide)) ?_
    show own_G p e below Φ T23 (mkF m 165 #[.val (.int p0), .val (.int p1), .val (.int p2), .val (.int p3), .val (.int (1 : Int32)), .val (.int x5_14), .val (.int x6_22), .val (.int x7_33), .val (.int x8_42), .val (.int x9_53), .val (.int x10_62), .val (.ref ob22), .unset, .unset, .unset, .unset] [(.int (1 : Int32))])
    refine own_go (fun _ => XS.istore X23.here hx rfl (hb hby at_165) rfl (l' := #[.val (.int p0), .val (.int p1), .val (.int p2), .val (.int p3), .val (.int (1 : Int32)), .val (.int x5_14), .val (.int x6_22), .val (.int x7_33), .val (.int x8_42), .val (.int x9_53), .val (.int x10_62), .val (.ref ob22), .val (.int (1 : Int32)), .unset, .unset, .unset]) rfl) ?_
    show own_G p e below Φ T23 (mkF m 167 #[.val (.int p0), .val (.int p1), .val (.int p2), .val (.int p3), .val (.int (1 : Int32)), .val (.int x5_14), .val (.int x6_22), .val (.int x7_33), .val (.int x8_42), .val (.int x9_53), .val (.int x10_62), .val (.ref ob22), .val (.int (1 : Int32)), .unset, .unset, .unset] [])
    obtain ⟨T24, h24, X24, e24, E24, A24, D24, -, st24⟩ := newO X23 hx hZ hown (wd_6 hw) (wd_7 hw) (wd_8 hw) e23 (g := (mkF m 167 #[.val (.int p0), .val (.int p1), .val (.int p2), .val (.int p3), .val (.int (1 : Int32)), .val (.int x5_14), .val (.int x6_22), .val (.int x7_33), .val (.int x8_42), .val (.int x9_53), .val (.int x10_62), .val (.ref ob22), .val (.int (1 : Int32)), .unset, .unset, .unset] [])) rfl (hb hby at_167) (by decide) (by decide)
    obtain ⟨ob24, g24⟩ : ∃ z, z = h23.size := ⟨_, rfl⟩
    rw [← g24] at A24 D24 st24
    have ne_ob22_ob24 : ob22 ≠ ob24 := Nat.ne_of_lt (Nat.lt_of_lt_of_le V23.lt (Nat.le_of_eq g24.symm))
    have g_ob24 : n0 ≤ ob24 := Nat.le_trans Zp23 (Nat.le_of_eq g24.symm)
    have Zp24 : n0 ≤ h24.size := Nat.le_trans Zp23 E24.1
    refine own_go st24 ?_
    have F_m_aClasses_ob24 : Fld Z h24 ob24 "com/example/edgewarden/edgewarden/graph/Likeness" "m_aClasses" "[I" .null := D24 (Or.inr (wd_16 hw)) (ty := (.array .int)) (by decide)
    have F_m_nClassCount_ob24 : Fld Z h24 ob24 "com/example/edgewarden/edgewarden/graph/Likeness" "m_nClassCount" "I" (.int (0 : Int32)) := D24 (Or.inr (wd_18 hw)) (ty := .int) (by decide)
    show own_G p e below Φ T24 (mkF m 170 #[.val (.int p0), .val (.int p1), .val (.int p2), .val (.int p3), .val (.int (1 : Int32)), .val (.int x5_14), .val (.int x6_22), .val (.int x7_33), .val (.int x8_42), .val (.int x9_53), .val (.int x10_62), .val (.ref ob22), .val (.int (1 : Int32)), .unset, .unset, .unset] [(.ref ob24)])
    refine own_go (fun _ => XS.dup X24.here hx rfl (hb hby at_170) rfl rfl) ?_
    show own_G p e below Φ T24 (mkF m 171 #[.val (.int p0), .val (.int p1), .val (.int p2), .val (.int p3), .val (.int (1 : Int32)), .val (.int x5_14), .val (.int x6_22), .val (.int x7_33), .val (.int x8_42), .val (.int x9_53), .val (.int x10_62), .val (.ref ob22), .val (.int (1 : Int32)), .unset, .unset, .unset] [(.ref ob24), (.ref ob24)])
    refine own_go (fun _ => XS.aload X24.here hx rfl (hb hby at_171) rfl rfl) ?_
    show own_G p e below Φ T24 (mkF m 173 #[.val (.int p0), .val (.int p1), .val (.int p2), .val (.int p3), .val (.int (1 : Int32)), .val (.int x5_14), .val (.int x6_22), .val (.int x7_33), .val (.int x8_42), .val (.int x9_53), .val (.int x10_62), .val (.ref ob22), .val (.int (1 : Int32)), .unset, .unset, .unset] [(.ref ob22), (.ref ob24), (.ref ob24)])
    have f25 : Arv Z h24 ob22 ka22 .int (1 : Int32) [(.int (0 : Int32))] (.int (0 : Int32)) := V23.ext E24
    obtain ⟨_, _, ⟨T26, zL26, zk26, zn26⟩, -, X26, ⟨Lc26, hQ26, l26, y26, z26⟩, st26⟩ := X24.specialBack hx (y := (⟨"com/example/edgewarden/edgewarden/graph/Likeness", "<init>", "([I)V"⟩ : MethodName)) rfl hown (mvT hZ (wd_9 hw)) (mvT hZ (wd_10 hw)) (mvT hZ (wd_11 hw)) (by decide) (backOf (W := 1) (rmI1 l Z a0 hw [] ob24 ob22 ka22 (0 : Int32) .null (.int (0 : Int32)) h24 n0 Zp24 A24 F_m_aClasses_ob24 F_m_nClassCount_ob24 g_ob24 f25 ne_ob22_ob24) hZ (wd_11 hw) (wd_8 hw) (by decide) (by decide)) (g := (mkF m 173 #[.val (.int p0), .val (.int p1), .val (.int p2), .val (.int p3), .val (.int (1 : Int32)), .val (.int x5_14), .val (.int x6_22), .val (.int x7_33), .val (.int x8_42), .val (.int x9_53), .val (.int x10_62), .val (.ref ob22), .val (.int (1 : Int32)), .unset, .unset, .unset] [(.ref ob22), (.ref ob24), (.ref ob24)])) rfl (by rw [hml]; rfl) (Steps.refl _) (a := ob24) (argsL := [(.ref ob22)]) (rest := [(.ref ob24)]) (lenOf pd_2 rfl) rfl (by show 2 * 0 + _ ≤ _; exact Nat.le_of_eq rfl) (hb hby at_173) (fun _ _ => ⟨rfl, e24, (by decide : 2 + 0 ≤ _), (by decide : 3 + 0 ≤ _)⟩)
    dsimp only [Pt.U, Pt.locs, Pt.cells, Pt.slots] at X26 l26 y26 z26 st26 hQ26
    subst l26 y26 z26
    obtain ⟨rfl, N26q, Kq26, p26_0, p26_1, p26_2⟩ := hQ26
    have N26 := Fr.app N23 N26q
    refine own_on st26 ?_
    have Zp26 : n0 ≤ T26.heap.size := Nat.le_trans Zp24 Kq26.1
    show own_G p e below Φ T26 (mkF m 176 #[.val (.int p0), .val (.int p1), .val (.int p2), .val (.int p3), .val (.int (1 : Int32)), .val (.int x5_14), .val (.int x6_22), .val (.int x7_33), .val (.int x8_42), .val (.int x9_53), .val (.int x10_62), .val (.ref ob22), .val (.int (1 : Int32)), .unset, .unset, .unset] [(.ref ob24)])
    refine own_go (fun _ => XS.astore X26.here hx rfl (hb hby at_176) rfl rfl (l' := #[.val (.int p0), .val (.int p1), .val (.int p2), .val (.int p3), .val (.int (1 : Int32)), .val (.int x5_14), .val (.int x6_22), .val (.int x7_33), .val (.int x8_42), .val (.int x9_53), .val (.int x10_62), .val (.ref ob22), .val (.int (1 : Int32)), .val (.ref ob24), .unset, .unset]) rfl) ?_
    show own_G p e below Φ T26 (mkF m 178 #[.val (.int p0), .val (.int p1), .val (.int p2), .val (.int p3), .val (.int (1 : Int32)), .val (.int x5_14), .val (.int x6_22), .val (.int x7_33), .val (.int x8_42), .val (.int x9_53), .val (.int x10_62), .val (.ref ob22), .val (.int (1 : Int32)), .val (.ref ob24), .unset, .unset] [])
    refine own_go (fun _ => XS.aload X26.here hx rfl (hb hby at_178) rfl rfl) ?_
    show own_G p e below Φ T26 (mkF m 180 #[.val (.int p0), .val (.int p1), .val (.int p2), .val (.int p3), .val (.int (1 : Int32)), .val (.int x5_14), .val (.int x6_22), .val (.int x7_33), .val (.int x8_42), .val (.int x9_53), .val (.int x10_62), .val (.ref ob22), .val (.int (1 : Int32)), .val (.ref ob24), .unset, .unset] [(.ref ob24)])
    have f27 : Arv Z T26.heap ob22 ka22 .int (1 : Int32) [(.int (0 : Int32))] (.int (0 : Int32)) := f25.keep Kq26 (ninS ne_ob22_ob24 nin0)
    obtain ⟨cq28, kq28, q28a, q28b, q28c⟩ := isOf hZ rfl p26_0
    obtain ⟨_, _, ⟨T28, zL28, zk28, zn28⟩, -, X28, ⟨Lc28, hQ28, l28, y28, z28⟩, st28⟩ := X26.virtualBack hx (y := (⟨"com/example/edgewarden/edgewarden/graph/Likeness", "getClassSizes", "()[I"⟩ : MethodName)) (z := (⟨"com/example/edgewarden/edgewarden/graph/Likeness", "getClassSizes", "()[I"⟩ : MethodName)) hown (mvT hZ (wd_19 hw)) (mvT hZ (wd_20 hw)) (notFace_of_selects (args := #[]) (mvT hZ (wd_22 hw))) (mvT hZ (wd_22 hw)) (mvT hZ (wd_21 hw)) (by decide) (backOf (W := 0) (rmS1 l Z a0 hw [] ob24 ob22 ka22 (own_max (0 : Int32) ((0 : Int32) + (1 : Int32))) (0 : Int32) T26.heap n0 Zp26 p26_2 p26_1 f27 (own_use (P := fun t => ¬ (own_max (0 : Int32) ((0 : Int32) + (1 : Int32))) < 0) (by decide +kernel) hall) (own_use (P := fun t => ((own_max (0 : Int32) ((0 : Int32) + (1 : Int32)))).toNatClampNeg ≤ 5) (by decide +kernel) hall) (own_use (P := fun t => ¬ (0 : Int32) < 0 ∧ (0 : Int32) < (own_max (0 : Int32) ((0 : Int32) + (1 : Int32)))) (by decide +kernel) hall)) hZ (wd_23 hw) (wd_8 hw) (by decide) (by decide)) q28a q28c (g := (mkF m 180 #[.val (.int p0), .val (.int p1), .val (.int p2), .val (.int p3), .val (.int (1 : Int32)), .val (.int x5_14), .val (.int x6_22), .val (.int x7_33), .val (.int x8_42), .val (.int x9_53), .val (.int x10_62), .val (.ref ob22), .val (.int (1 : Int32)), .val (.ref ob24), .unset, .unset] [(.ref ob24)])) rfl (by rw [hml]; rfl) (Steps.refl _) (argsL := []) (rest := []) (lenOf pd_3 rfl) rfl (by show 2 * 0 + _ ≤ _; exact Nat.le_of_eq rfl) (hb hby at_180) (fun _ _ => ⟨rfl, rfl, (by decide : 2 + 1 ≤ _), (by decide : 3 + 5 ≤ _)⟩)
    dsimp only [Pt.U, Pt.locs, Pt.cells, Pt.slots] at X28 l28 y28 z28 st28 hQ28
    subst l28 y28 z28
    obtain ⟨b_28, ns_b_28, kb_28, rfl, N28q, Kq28, p28_0⟩ := hQ28
    have N28 := Fr.app N26 N28q
    refine own_on st28 ?_
    have ne_ob22_b_28 : ob22 ≠ b_28 := Nat.ne_of_lt (Nat.lt_of_lt_of_le f27.lt ns_b_28)
    have ne_ob24_b_28 : ob24 ≠ b_28 := Nat.ne_of_lt (Nat.lt_of_lt_of_le p26_0.lt ns_b_28)
    have g_b_28 : n0 ≤ b_28 := Nat.le_trans Zp26 ns_b_28
    have Zp28 : n0 ≤ T28.heap.size := Nat.le_trans Zp26 Kq28.1
    show own_G p e below Φ T28 (mkF m 183 #[.val (.int p0), .val (.int p1), .val (.int p2), .val (.int p3), .val (.int (1 : Int32)), .val (.int x5_14), .val (.int x6_22), .val (.int x7_33), .val (.int x8_42), .val (.int x9_53), .val (.int x10_62), .val (.ref ob22), .val (.int (1 : Int32)), .val (.ref ob24), .unset, .unset] [(.ref b_28)])
    refine own_go (fun _ => XS.astore X28.here hx rfl (hb hby at_183) rfl rfl (l' := #[.val (.int p0), .val (.int p1), .val (.int p2), .val (.int p3), .val (.int (1 : Int32)), .val (.int x5_14), .val (.int x6_22), .val (.int x7_33), .val (.int x8_42), .val (.int x9_53), .val (.int x10_62), .val (.ref ob22), .val (.int (1 : Int32)), .val (.ref ob24), .val (.ref b_28), .unset]) rfl) ?_
    show own_G p e below Φ T28 (mkF m 185 #[.val (.int p0), .val (.int p1), .val (.int p2), .val (.int p3), .val (.int (1 : Int32)), .val (.int x5_14), .val (.int x6_22), .val (.int x7_33), .val (.int x8_42), .val (.int x9_53), .val (.int x10_62), .val (.ref ob22), .val (.int (1 : Int32)), .val (.ref ob24), .val (.ref b_28), .unset] [])
    refine own_go (fun _ => XS.aload X28.here hx rfl (hb hby at_185) rfl rfl) ?_
    show own_G p e below Φ T28 (mkF m 187 #[.val (.int p0), .val (.int p1), .val (.int p2), .val (.int p3), .val (.int (1 : Int32)), .val (.int x5_14), .val (.int x6_22), .val (.int x7_33), .val (.int x8_42), .val (.int x9_53), .val (.int x10_62), .val (.ref ob22), .val (.int (1 : Int32)), .val (.ref ob24), .val (.ref b_28), .unset] [(.ref ob24)])
    have f29 : Fld Z T28.heap ob24 "com/example/edgewarden/edgewarden/graph/Likeness" "m_nClassCount" "I" (.int (own_max (0 : Int32) ((0 : Int32) + (1 : Int32)))) := p26_2.keep Kq28 nin0
    have f30 : Fld Z T28.heap ob24 "com/example/edgewarden/edgewarden/graph/Likeness" "m_aClasses" "[I" (.ref ob22) := p26_1.keep Kq28 nin0
    have f31 : Arv Z T28.heap ob22 ka22 .int (1 : Int32) [(.int (0 : Int32))] (.int (0 : Int32)) := f27.keep Kq28 nin0
    have f33 : Exa Z T28.heap ob24 "com/example/edgewarden/edgewarden/graph/Likeness" := p26_0.keep Kq28
    obtain ⟨cq32, kq32, q32a, q32b, q32c⟩ := isOf hZ rfl f33
    obtain ⟨_, _, ⟨T32, zL32, zk32, zn32⟩, -, X32, ⟨Lc32, hQ32, l32, y32, z32⟩, st32⟩ := X28.virtualBack hx (y := (⟨"com/example/edgewarden/edgewarden/graph/Likeness", "getClassSizes", "()[I"⟩ : MethodName)) (z := (⟨"com/example/edgewarden/edgewarden/graph/Likeness", "getClassSizes", "()[I"⟩ : MethodName)) hown (mvT hZ (wd_19 hw)) (mvT hZ (wd_20 hw)) (notFace_of_selects (args := #[]) (mvT hZ (wd_22 hw))) (mvT hZ (wd_22 hw)) (mvT hZ (wd_21 hw)) (by decide) (backOf (W := 0) (rmS1 l Z a0 hw [] ob24 ob22 ka22 (own_max (0 : Int32) ((0 : Int32) + (1 : Int32))) (0 : Int32) T28.heap n0 Zp28 f29 f30 f31 (own_use (P := fun t => ¬ (own_max (0 : Int32) ((0 : Int32) + (1 : Int32))) < 0) (by decide +kernel) hall) (own_use (P := fun t => ((own_max (0 : Int32) ((0 : Int32) + (1 : Int32)))).toNatClampNeg ≤ 5) (by decide +kernel) hall) (own_use (P := fun t => ¬ (0 : Int32) < 0 ∧ (0 : Int32) < (own_max (0 : Int32) ((0 : Int32) + (1 : Int32)))) (by decide +kernel) hall)) hZ (wd_23 hw) (wd_8 hw) (by decide) (by decide)) q32a q32c (g := (mkF m 187 #[.val (.int p0), .val (.int p1), .val (.int p2), .val (.int p3), .val (.int (1 : Int32)), .val (.int x5_14), .val (.int x6_22), .val (.int x7_33), .val (.int x8_42), .val (.int x9_53), .val (.int x10_62), .val (.ref ob22), .val (.int (1 : Int32)), .val (.ref ob24), .val (.ref b_28), .unset] [(.ref ob24)])) rfl (by rw [hml]; rfl) (Steps.refl _) (argsL := []) (rest := []) (lenOf pd_3 rfl) rfl (by show 2 * 0 + _ ≤ _; exact Nat.le_of_eq rfl) (hb hby at_187) (fun _ _ => ⟨rfl, rfl, (by decide : 3 + 1 ≤ _), (by decide : 8 + 5 ≤ _)⟩)
    dsimp only [Pt.U, Pt.locs, Pt.cells, Pt.slots] at X32 l32 y32 z32 st32 hQ32
    subst l32 y32 z32
    obtain ⟨b_32, ns_b_32, kb_32, rfl, N32q, Kq32, p32_0⟩ := hQ32
    have N32 := Fr.app N28 N32q
    refine own_on st32 ?_
    have ne_ob22_b_32 : ob22 ≠ b_32 := Nat.ne_of_lt (Nat.lt_of_lt_of_le f31.lt ns_b_32)
    have ne_ob24_b_32 : ob24 ≠ b_32 := Nat.ne_of_lt (Nat.lt_of_lt_of_le f33.lt ns_b_32)
    have ne_b_28_b_32 : b_28 ≠ b_32 := Nat.ne_of_lt (Nat.lt_of_lt_of_le p28_0.lt ns_b_32)
    have g_b_32 : n0 ≤ b_32 := Nat.le_trans Zp28 ns_b_32
    have Zp32 : n0 ≤ T32.heap.size := Nat.le_trans Zp28 Kq32.1
    show own_G p e below Φ T32 (mkF m 190 #[.val (.int p0), .val (.int p1), .val (.int p2), .val (.int p3), .val (.int (1 : Int32)), .val (.int x5_14), .val (.int x6_22), .val (.int x7_33), .val (.int x8_42), .val (.int x9_53), .val (.int x10_62), .val (.ref ob22), .val (.int (1 : Int32)), .val (.ref ob24), .val (.ref b_28), .unset] [(.ref b_32)])
    refine own_go (fun _ => XS.astore X32.here hx rfl (hb hby at_190) rfl rfl (l' := #[.val (.int p0), .val (.int p1), .val (.int p2), .val (.int p3), .val (.int (1 : Int32)), .val (.int x5_14), .val (.int x6_22), .val (.int x7_33), .val (.int x8_42), .val (.int x9_53), .val (.int x10_62), .val (.ref ob22), .val (.int (1 : Int32)), .val (.ref ob24), .val (.ref b_28), .val (.ref b_32)]) rfl) ?_
    show own_G p e below Φ T32 (mkF m 192 #[.val (.int p0), .val (.int p1), .val (.int p2), .val (.int p3), .val (.int (1 : Int32)), .val (.int x5_14), .val (.int x6_22), .val (.int x7_33), .val (.int x8_42), .val (.int x9_53), .val (.int x10_62), .val (.ref ob22), .val (.int (1 : Int32)), .val (.ref ob24), .val (.ref b_28), .val (.ref b_32)] [])
    refine own_go (fun _ => XS.aload X32.here hx rfl (hb hby at_192) rfl rfl) ?_
    show own_G p e below Φ T32 (mkF m 194 #[.val (.int p0), .val (.int p1), .val (.int p2), .val (.int p3), .val (.int (1 : Int32)), .val (.int x5_14), .val (.int x6_22), .val (.int x7_33), .val (.int x8_42), .val (.int x9_53), .val (.int x10_62), .val (.ref ob22), .val (.int (1 : Int32)), .val (.ref ob24), .val (.ref b_28), .val (.ref b_32)] [(.ref b_28)])
    refine own_go (fun _ => XS.aload X32.here hx rfl (hb hby at_194) rfl rfl) ?_
    show own_G p e below Φ T32 (mkF m 196 #[.val (.int p0), .val (.int p1), .val (.int p2), .val (.int p3), .val (.int (1 : Int32)), .val (.int x5_14), .val (.int x6_22), .val (.int x7_33), .val (.int x8_42), .val (.int x9_53), .val (.int x10_62), .val (.ref ob22), .val (.int (1 : Int32)), .val (.ref ob24), .val (.ref b_28), .val (.ref b_32)] [(.ref b_32), (.ref b_28)])
    refine own_go (fun _ => Jvm.RoadKit.acmp (g := (mkF m 196 #[.val (.int p0), .val (.int p1), .val (.int p2), .val (.int p3), .val (.int (1 : Int32)), .val (.int x5_14), .val (.int x6_22), .val (.int x7_33), .val (.int x8_42), .val (.int x9_53), .val (.int x10_62), .val (.ref ob22), .val (.int (1 : Int32)), .val (.ref ob24), .val (.ref b_28), .val (.ref b_32)] [(.ref b_32), (.ref b_28)])) X32 hx rfl rfl rfl (pc0 := 196) (pc' := 201) (same := false) rfl (hb hby at_196) rfl (decide_eq_false fun q => ne_b_28_b_32 (Value.ref.inj q)) (by decide) (by decide)) ?_
    show own_G p e below Φ T32 (mkF m 201 #[.val (.int p0), .val (.int p1), .val (.int p2), .val (.int p3), .val (.int (1 : Int32)), .val (.int x5_14), .val (.int x6_22), .val (.int x7_33), .val (.int x8_42), .val (.int x9_53), .val (.int x10_62), .val (.ref ob22), .val (.int (1 : Int32)), .val (.ref ob24), .val (.ref b_28), .val (.ref b_32)] [])
    refine own_go (fun _ => XS.aload X32.here hx rfl (hb hby at_201) rfl rfl) ?_
    show own_G p e below Φ T32 (mkF m 203 #[.val (.int p0), .val (.int p1), .val (.int p2), .val (.int p3), .val (.int (1 : Int32)), .val (.int x5_14), .val (.int x6_22), .val (.int x7_33), .val (.int x8_42), .val (.int x9_53), .val (.int x10_62), .val (.ref ob22), .val (.int (1 : Int32)), .val (.ref ob24), .val (.ref b_28), .val (.ref b_32)] [(.ref b_28)])
    have f34 : Arv Z T32.heap b_28 kb_28 .int (own_max (0 : Int32) ((0 : Int32) + (1 : Int32))) (own_vs (own_inc (own_zeros (own_max (0 : Int32) ((0 : Int32) + (1 : Int32)))) (0 : Int32))) (.int (0 : Int32)) := p28_0.keep Kq32 nin0
    obtain ⟨cl35, Ar35, q35, S35, M35, H35, G35⟩ := id f34
    refine own_go (fun _ => X32.arraylength hx Ar35.1 (State.isArrayOf_alike hZ.alike Ar35.2.1) (g := (mkF m 203 #[.val (.int p0), .val (.int p1), .val (.int p2), .val (.int p3), .val (.int (1 : Int32)), .val (.int x5_14), .val (.int x6_22), .val (.int x7_33), .val (.int x8_42), .val (.int x9_53), .val (.int x10_62), .val (.ref ob22), .val (.int (1 : Int32)), .val (.ref ob24), .val (.ref b_28), .val (.ref b_32)] [(.ref b_28)])) rfl rfl (hb hby at_203) _) ?_
    rw [len_of S35 M35]
    show own_G p e below Φ T32 (mkF m 204 #[.val (.int p0), .val (.int p1), .val (.int p2), .val (.int p3), .val (.int (1 : Int32)), .val (.int x5_14), .val (.int x6_22), .val (.int x7_33), .val (.int x8_42), .val (.int x9_53), .val (.int x10_62), .val (.ref ob22), .val (.int (1 : Int32)), .val (.ref ob24), .val (.ref b_28), .val (.ref b_32)] [(.int (own_max (0 : Int32) ((0 : Int32) + (1 : Int32))))])
    refine own_go (fun _ => XS.iload X32.here hx rfl (hb hby at_204) rfl) ?_
    show own_G p e below Φ T32 (mkF m 206 #[.val (.int p0), .val (.int p1), .val (.int p2), .val (.int p3), .val (.int (1 : Int32)), .val (.int x5_14), .val (.int x6_22), .val (.int x7_33), .val (.int x8_42), .val (.int x9_53), .val (.int x10_62), .val (.ref ob22), .val (.int (1 : Int32)), .val (.ref ob24), .val (.ref b_28), .val (.ref b_32)] [(.int (1 : Int32)), (.int (own_max (0 : Int32) ((0 : Int32) + (1 : Int32))))])
    refine own_go (fun _ => XS.icmpNo X32.here hx rfl (hb hby at_206) rfl (Jvm.Free.XT.ii_ne_f (own_use (P := fun t => (own_max (0 : Int32) ((0 : Int32) + (1 : Int32))) = (1 : Int32)) (by decide +kernel) hall))) ?_
    show own_G p e below Φ T32 (mkF m 209 #[.val (.int p0), .val (.int p1), .val (.int p2), .val (.int p3), .val (.int (1 : Int32)), .val (.int x5_14), .val (.int x6_22), .val (.int x7_33), .val (.int x8_42), .val (.int x9_53), .val (.int x10_62), .val (.ref ob22), .val (.int (1 : Int32)), .val (.ref ob24), .val (.ref b_28), .val (.ref b_32)] [])
    refine own_go (fun _ => XS.aload X32.here hx rfl (hb hby at_209) rfl rfl) ?_
    show own_G p e below Φ T32 (mkF m 211 #[.val (.int p0), .val (.int p1), .val (.int p2), .val (.int p3), .val (.int (1 : Int32)), .val (.int x5_14), .val (.int x6_22), .val (.int x7_33), .val (.int x8_42), .val (.int x9_53), .val (.int x10_62), .val (.ref ob22), .val (.int (1 : Int32)), .val (.ref ob24), .val (.ref b_28), .val (.ref b_32)] [(.ref b_32)])
    obtain ⟨cl36, Ar36, q36, S36, M36, H36, G36⟩ := id p32_0
    refine own_go (fun _ => X32.arraylength hx Ar36.1 (State.isArrayOf_alike hZ.alike Ar36.2.1) (g := (mkF m 211 #[.val (.int p0), .val (.int p1), .val (.int p2), .val (.int p3), .val (.int (1 : Int32)), .val (.int x5_14), .val (.int x6_22), .val (.int x7_33), .val (.int x8_42), .val (.int x9_53), .val (.int x10_62), .val (.ref ob22), .val (.int (1 : Int32)), .val (.ref ob24), .val (.ref b_28), .val (.ref b_32)] [(.ref b_32)])) rfl rfl (hb hby at_211) _) ?_
    rw [len_of S36 M36]
    show own_G p e below Φ T32 (mkF m 212 #[.val (.int p0), .val (.int p1), .val (.int p2), .val (.int p3), .val (.int (1 : Int32)), .val (.int x5_14), .val (.int x6_22), .val (.int x7_33), .val (.int x8_42), .val (.int x9_53), .val (.int x10_62), .val (.ref ob22), .val (.int (1 : Int32)), .val (.ref ob24), .val (.ref b_28), .val (.ref b_32)] [(.int (own_max (0 : Int32) ((0 : Int32) + (1 : Int32))))])
    refine own_go (fun _ => XS.iload X32.here hx rfl (hb hby at_212) rfl) ?_
    show own_G p e below Φ T32 (mkF m 214 #[.val (.int p0), .val (.int p1), .val (.int p2), .val (.int p3), .val (.int (1 : Int32)), .val (.int x5_14), .val (.int x6_22), .val (.int x7_33), .val (.int x8_42), .val (.int x9_53), .val (.int x10_62), .val (.ref ob22), .val (.int (1 : Int32)), .val (.ref ob24), .val (.ref b_28), .val (.ref b_32)] [(.int (1 : Int32)), (.int (own_max (0 : Int32) ((0 : Int32) + (1 : Int32))))])
    refine own_go (fun _ => XS.icmpYes X32.here hx rfl (pc0 := 214) (pc' := 219) rfl (hb hby at_214) rfl (Jvm.Free.XT.ii_eq_t (own_use (P := fun t => (own_max (0 : Int32) ((0 : Int32) + (1 : Int32))) = (1 : Int32)) (by decide +kernel) hall)) (by decide) (by decide)) ?_
    show own_G p e below Φ T32 (mkF m 219 #[.val (.int p0), .val (.int p1), .val (.int p2), .val (.int p3), .val (.int (1 : Int32)), .val (.int x5_14), .val (.int x6_22), .val (.int x7_33), .val (.int x8_42), .val (.int x9_53), .val (.int x10_62), .val (.ref ob22), .val (.int (1 : Int32)), .val (.ref ob24), .val (.ref b_28), .val (.ref b_32)] [])
    refine own_go (fun _ => XS.iload X32.here hx rfl (hb hby at_219) rfl) ?_
    show own_G p e below Φ T32 (mkF m 221 #[.val (.int p0), .val (.int p1), .val (.int p2), .val (.int p3), .val (.int (1 : Int32)), .val (.int x5_14), .val (.int x6_22), .val (.int x7_33), .val (.int x8_42), .val (.int x9_53), .val (.int x10_62), .val (.ref ob22), .val (.int (1 : Int32)), .val (.ref ob24), .val (.ref b_28), .val (.ref b_32)] [(.int (1 : Int32))])
    refine own_go (fun _ => XS.ifNo X32.here hx rfl (hb hby at_221) rfl (Jvm.Free.XT.i0_le_f (by decide : ((0 : Int32) < (1 : Int32))))) ?_
    show own_G p e below Φ T32 (mkF m 224 #[.val (.int p0), .val (.int p1), .val (.int p2), .val (.int p3), .val (.int (1 : Int32)), .val (.int x5_14), .val (.int x6_22), .val (.int x7_33), .val (.int x8_42), .val (.int x9_53), .val (.int x10_62), .val (.ref ob22), .val (.int (1 : Int32)), .val (.ref ob24), .val (.ref b_28), .val (.ref b_32)] [])
    refine own_go (fun _ => XS.aload X32.here hx rfl (hb hby at_224) rfl rfl) ?_
    show own_G p e below Φ T32 (mkF m 226 #[.val (.int p0), .val (.int p1), .val (.int p2), .val (.int p3), .val (.int (1 : Int32)), .val (.int x5_14), .val (.int x6_22), .val (.int x7_33), .val (.int x8_42), .val (.int x9_53), .val (.int x10_62), .val (.ref ob22), .val (.int (1 : Int32)), .val (.ref ob24), .val (.ref b_28), .val (.ref b_32)] [(.ref ob22)])
    refine own_go (fun _ => XS.iconst X32.here hx rfl (hb hby at_226)) ?_
    show own_G p e below Φ T32 (mkF m 227 #[.val (.int p0), .val (.int p1), .val (.int p2), .val (.int p3), .val (.int (1 : Int32)), .val (.int x5_14), .val (.int x6_22), .val (.int x7_33), .val (.int x8_42), .val (.int x9_53), .val (.int x10_62), .val (.ref ob22), .val (.int (1 : Int32)), .val (.ref ob24), .val (.ref b_28), .val (.ref b_32)] [(.int (0 : Int32)), (.ref ob22)])
    have f37 : Arv Z T32.heap ob22 ka22 .int (1 : Int32) [(.int (0 : Int32))] (.int (0 : Int32)) := f31.keep Kq32 nin0
    obtain ⟨cl38, Ar38, q38, S38, M38, H38, G38⟩ := id f37
    have hin38 : ¬ ((0 : Int32) < 0 ∨ cl38.slots.size ≤ ((0 : Int32)).toNatClampNeg) := inb_of S38 ⟨by decide, by decide⟩
    refine own_go (fun _ => X32.iaload hx (j := (0 : Int32)) (v := (.int (0 : Int32))) Ar38.1 (State.isArrayOf_alike hZ.alike Ar38.2.1) Ar38.2.2 hin38 (H38.at hin38 rfl) (g := (mkF m 227 #[.val (.int p0), .val (.int p1), .val (.int p2), .val (.int p3), .val (.int (1 : Int32)), .val (.int x5_14), .val (.int x6_22), .val (.int x7_33), .val (.int x8_42), .val (.int x9_53), .val (.int x10_62), .val (.ref ob22), .val (.int (1 : Int32)), .val (.ref ob24), .val (.ref b_28), .val (.ref b_32)] [(.int (0 : Int32)), (.ref ob22)])) rfl rfl (hb hby at_227) _) ?_
    show own_G p e below Φ T32 (mkF m 228 #[.val (.int p0), .val (.int p1), .val (.int p2), .val (.int p3), .val (.int (1 : Int32)), .val (.int x5_14), .val (.int x6_22), .val (.int x7_33), .val (.int x8_42), .val (.int x9_53), .val (.int x10_62), .val (.ref ob22), .val (.int (1 : Int32)), .val (.ref ob24), .val (.ref b_28), .val (.ref b_32)] [(.int (0 : Int32))])
    refine own_go (fun _ => XS.ifYes X32.here hx rfl (pc0 := 228) (pc' := 233) rfl (hb hby at_228) rfl (Jvm.Free.XT.i0_eq_t (by decide : ((0 : Int32) = (0 : Int32)))) (by decide) (by decide)) ?_
    show own_G p e below Φ T32 (mkF m 233 #[.val (.int p0), .val (.int p1), .val (.int p2), .val (.int p3), .val (.int (1 : Int32)), .val (.int x5_14), .val (.int x6_22), .val (.int x7_33), .val (.int x8_42), .val (.int x9_53), .val (.int x10_62), .val (.ref ob22), .val (.int (1 : Int32)), .val (.ref ob24), .val (.ref b_28), .val (.ref b_32)] [])
    refine own_go (fun _ => XS.iload X32.here hx rfl (hb hby at_233) rfl) ?_
    show own_G p e below Φ T32 (mkF m 235 #[.val (.int p0), .val (.int p1), .val (.int p2), .val (.int p3), .val (.int (1 : Int32)), .val (.int x5_14), .val (.int x6_22), .val (.int x7_33), .val (.int x8_42), .val (.int x9_53), .val (.int x10_62), .val (.ref ob22), .val (.int (1 : Int32)), .val (.ref ob24), .val (.ref b_28), .val (.ref b_32)] [(.int (1 : Int32))])
    refine own_go (fun _ => XS.iconst X32.here hx rfl (hb hby at_235)) ?_
    show own_G p e below Φ T32 (mkF m 236 #[.val (.int p0), .val (.int p1), .val (.int p2), .val (.int p3), .val (.int (1 : Int32)), .val (.int x5_14), .val (.int x6_22), .val (.int x7_33), .val (.int x8_42), .val (.int x9_53), .val (.int x10_62), .val (.ref ob22), .val (.int (1 : Int32)), .val (.ref ob24), .val (.ref b_28), .val (.ref b_32)] [(.int (1 : Int32)), (.int (1 : Int32))])
    refine own_go (fun _ => XS.icmpYes X32.here hx rfl (pc0 := 236) (pc' := 250) rfl (hb hby at_236) rfl (Jvm.Free.XT.ii_le_t (by decide : ¬ ((1 : Int32) < (1 : Int32)))) (by decide) (by decide)) ?_
    show own_G p e below Φ T32 (mkF m 250 #[.val (.int p0), .val (.int p1), .val (.int p2), .val (.int p3), .val (.int (1 : Int32)), .val (.int x5_14), .val (.int x6_22), .val (.int x7_33), .val (.int x8_42), .val (.int x9_53), .val (.int x10_62), .val (.ref ob22), .val (.int (1 : Int32)), .val (.ref ob24), .val (.ref b_28), .val (.ref b_32)] [])
    refine own_go (fun _ => XS.iload X32.here hx rfl (hb hby at_250) rfl) ?_
    show own_G p e below Φ T32 (mkF m 252 #[.val (.int p0), .val (.int p1), .val (.int p2), .val (.int p3), .val (.int (1 : Int32)), .val (.int x5_14), .val (.int x6_22), .val (.int x7_33), .val (.int x8_42), .val (.int x9_53), .val (.int x10_62), .val (.ref ob22), .val (.int (1 : Int32)), .val (.ref ob24), .val (.ref b_28), .val (.ref b_32)] [(.int (1 : Int32))])
    refine own_go (fun _ => XS.iconst X32.here hx rfl (hb hby at_252)) ?_
    show own_G p e below Φ T32 (mkF m 253 #[.val (.int p0), .val (.int p1), .val (.int p2), .val (.int p3), .val (.int (1 : Int32)), .val (.int x5_14), .val (.int x6_22), .val (.int x7_33), .val (.int x8_42), .val (.int x9_53), .val (.int x10_62), .val (.ref ob22), .val (.int (1 : Int32)), .val (.ref ob24), .val (.ref b_28), .val (.ref b_32)] [(.int (2 : Int32)), (.int (1 : Int32))])
    refine own_go (fun _ => XS.icmpYes X32.here hx rfl (pc0 := 253) (pc' := 267) rfl (hb hby at_253) rfl (Jvm.Free.XT.ii_le_t (by decide : ¬ ((2 : Int32) < (1 : Int32)))) (by decide) (by decide)) ?_
    show own_G p e below Φ T32 (mkF m 267 #[.val (.int p0), .val (.int p1), .val (.int p2), .val (.int p3), .val (.int (1 : Int32)), .val (.int x5_14), .val (.int x6_22), .val (.int x7_33), .val (.int x8_42), .val (.int x9_53), .val (.int x10_62), .val (.ref ob22), .val (.int (1 : Int32)), .val (.ref ob24), .val (.ref b_28), .val (.ref b_32)] [])
    refine own_go (fun _ => XS.iload X32.here hx rfl (hb hby at_267) rfl) ?_
    show own_G p e below Φ T32 (mkF m 269 #[.val (.int p0), .val (.int p1), .val (.int p2), .val (.int p3), .val (.int (1 : Int32)), .val (.int x5_14), .val (.int x6_22), .val (.int x7_33), .val (.int x8_42), .val (.int x9_53), .val (.int x10_62), .val (.ref ob22), .val (.int (1 : Int32)), .val (.ref ob24), .val (.ref b_28), .val (.ref b_32)] [(.int (1 : Int32))])
    refine own_go (fun _ => XS.iconst X32.here hx rfl (hb hby at_269)) ?_
    show own_G p e below Φ T32 (mkF m 270 #[.val (.int p0), .val (.int p1), .val (.int p2), .val (.int p3), .val (.int (1 : Int32)), .val (.int x5_14), .val (.int x6_22), .val (.int x7_33), .val (.int x8_42), .val (.int x9_53), .val (.int x10_62), .val (.ref ob22), .val (.int (1 : Int32)), .val (.ref ob24), .val (.ref b_28), .val (.ref b_32)] [(.int (3 : Int32)), (.int (1 : Int32))])
    refine own_go (fun _ => XS.icmpYes X32.here hx rfl (pc0 := 270) (pc' := 284) rfl (hb hby at_270) rfl (Jvm.Free.XT.ii_le_t (by decide : ¬ ((3 : Int32) < (1 : Int32)))) (by decide) (by decide)) ?_
    show own_G p e below Φ T32 (mkF m 284 #[.val (.int p0), .val (.int p1), .val (.int p2), .val (.int p3), .val (.int (1 : Int32)), .val (.int x5_14), .val (.int x6_22), .val (.int x7_33), .val (.int x8_42), .val (.int x9_53), .val (.int x10_62), .val (.ref ob22), .val (.int (1 : Int32)), .val (.ref ob24), .val (.ref b_28), .val (.ref b_32)] [])
    refine own_go (fun _ => XS.aload X32.here hx rfl (hb hby at_284) rfl rfl) ?_
    show own_G p e below Φ T32 (mkF m 286 #[.val (.int p0), .val (.int p1), .val (.int p2), .val (.int p3), .val (.int (1 : Int32)), .val (.int x5_14), .val (.int x6_22), .val (.int x7_33), .val (.int x8_42), .val (.int x9_53), .val (.int x10_62), .val (.ref ob22), .val (.int (1 : Int32)), .val (.ref ob24), .val (.ref b_28), .val (.ref b_32)] [(.ref b_28)])
    refine own_go (fun _ => XS.aload X32.here hx rfl (hb hby at_286) rfl rfl) ?_
    show own_G p e below Φ T32 (mkF m 288 #[.val (.int p0), .val (.int p1), .val (.int p2), .val (.int p3), .val (.int (1 : Int32)), .val (.int x5_14), .val (.int x6_22), .val (.int x7_33), .val (.int x8_42), .val (.int x9_53), .val (.int x10_62), .val (.ref ob22), .val (.int (1 : Int32)), .val (.ref ob24), .val (.ref b_28), .val (.ref b_32)] [(.ref b_32), (.ref b_28)])
    refine own_go (fun _ => XS.iconst X32.here hx rfl (hb hby at_288)) ?_
    show own_G p e below Φ T32 (mkF m 289 #[.val (.int p0), .val (.int p1), .val (.int p2), .val (.int p3), .val (.int (1 : Int32)), .val (.int x5_14), .val (.int x6_22), .val (.int x7_33), .val (.int x8_42), .val (.int x9_53), .val (.int x10_62), .val (.ref ob22), .val (.int (1 : Int32)), .val (.ref ob24), .val (.ref b_28), .val (.ref b_32)] [(.int (0 : Int32)), (.ref b_32), (.ref b_28)])
    refine own_go (fun _ => XS.iload X32.here hx rfl (hb hby at_289) rfl) ?_
    show own_G p e below Φ T32 (mkF m 291 #[.val (.int p0), .val (.int p1), .val (.int p2), .val (.int p3), .val (.int (1 : Int32)), .val (.int x5_14), .val (.int x6_22), .val (.int x7_33), .val (.int x8_42), .val (.int x9_53), .val (.int x10_62), .val (.ref ob22), .val (.int (1 : Int32)), .val (.ref ob24), .val (.ref b_28), .val (.ref b_32)] [(.int (1 : Int32)), (.int (0 : Int32)), (.ref b_32), (.ref b_28)])
    refine own_go (fun _ => XS.iconst X32.here hx rfl (hb hby at_291)) ?_
    show own_G p e below Φ T32 (mkF m 292 #[.val (.int p0), .val (.int p1), .val (.int p2), .val (.int p3), .val (.int (1 : Int32)), .val (.int x5_14), .val (.int x6_22), .val (.int x7_33), .val (.int x8_42), .val (.int x9_53), .val (.int x10_62), .val (.ref ob22), .val (.int (1 : Int32)), .val (.ref ob24), .val (.ref b_28), .val (.ref b_32)] [(.int (0 : Int32)), (.int (1 : Int32)), (.int (0 : Int32)), (.ref b_32), (.ref b_28)])
    refine own_go (fun _ => XS.iload X32.here hx rfl (hb hby at_292) rfl) ?_
    show own_G p e below Φ T32 (mkF m 294 #[.val (.int p0), .val (.int p1), .val (.int p2), .val (.int p3), .val (.int (1 : Int32)), .val (.int x5_14), .val (.int x6_22), .val (.int x7_33), .val (.int x8_42), .val (.int x9_53), .val (.int x10_62), .val (.ref ob22), .val (.int (1 : Int32)), .val (.ref ob24), .val (.ref b_28), .val (.ref b_32)] [(.int x5_14), (.int (0 : Int32)), (.int (1 : Int32)), (.int (0 : Int32)), (.ref b_32), (.ref b_28)])
    refine own_go (fun _ => XS.iload X32.here hx rfl (hb hby at_294) rfl) ?_
    show own_G p e below Φ T32 (mkF m 296 #[.val (.int p0), .val (.int p1), .val (.int p2), .val (.int p3), .val (.int (1 : Int32)), .val (.int x5_14), .val (.int x6_22), .val (.int x7_33), .val (.int x8_42), .val (.int x9_53), .val (.int x10_62), .val (.ref ob22), .val (.int (1 : Int32)), .val (.ref ob24), .val (.ref b_28), .val (.ref b_32)] [(.int x7_33), (.int x5_14), (.int (0 : Int32)), (.int (1 : Int32)), (.int (0 : Int32)), (.ref b_32), (.ref b_28)])
    refine own_go (fun _ => XS.iload X32.here hx rfl (hb hby at_296) rfl) ?_
    show own_G p e below Φ T32 (mkF m 298 #[.val (.int p0), .val (.int p1), .val (.int p2), .val (.int p3), .val (.int (1 : Int32)), .val (.int x5_14), .val (.int x6_22), .val (.int x7_33), .val (.int x8_42), .val (.int x9_53), .val (.int x10_62), .val (.ref ob22), .val (.int (1 : Int32)), .val (.ref ob24), .val (.ref b_28), .val (.ref b_32)] [(.int x9_53), (.int x7_33), (.int x5_14), (.int (0 : Int32)), (.int (1 : Int32)), (.int (0 : Int32)), (.ref b_32), (.ref b_28)])
    obtain ⟨_, _, ⟨T39, zL39, zk39, zn39⟩, -, X39, ⟨Lc39, hQ39, l39, y39, z39⟩, st39⟩ := Jvm.LawKit.callS X32 hx (y := (⟨"com/example/edgewarden/edgewarden/graph/LikenessGetClassSizesPinLaw", "sizeOk", "([I[IIIIIII)Z"⟩ : MethodName)) hown (mvT hZ (wd_24 hw)) (mvT hZ (wd_25 hw)) (mvT hZ (wd_26 hw)) (mvT hZ (wd_27 hw)) (by decide) (backOf (W := 0) (rmK l Z a0 hw [] b_28 b_32 kb_28 kb_32 (own_max (0 : Int32) ((0 : Int32) + (1 : Int32))) (own_inc (own_zeros (own_max (0 : Int32) ((0 : Int32) + (1 : Int32)))) (0 : Int32)) (0 : Int32) (1 : Int32) (0 : Int32) x5_14 x7_33 x9_53 T32.heap n0 Zp32 f34 p32_0 (by decide) (own_use (P := fun t => (0 : Int32) < (own_max (0 : Int32) ((0 : Int32) + (1 : Int32))) → ((own_inc (own_zeros (own_max (0 : Int32) ((0 : Int32) + (1 : Int32)))) (0 : Int32))).getD ((0 : Int32)).toNatClampNeg 0 = own_cnt (0 : Int32) (1 : Int32) (0 : Int32) t.1 t.2.2.1 t.2.2.2.2.1) (by decide +kernel) hall)) hZ (wd_27 hw) (wd_26 hw) (by decide) (by decide)) (g := (mkF m 298 #[.val (.int p0), .val (.int p1), .val (.int p2), .val (.int p3), .val (.int (1 : Int32)), .val (.int x5_14), .val (.int x6_22), .val (.int x7_33), .val (.int x8_42), .val (.int x9_53), .val (.int x10_62), .val (.ref ob22), .val (.int (1 : Int32)), .val (.ref ob24), .val (.ref b_28), .val (.ref b_32)] [(.int x9_53), (.int x7_33), (.int x5_14), (.int (0 : Int32)), (.int (1 : Int32)), (.int (0 : Int32)), (.ref b_32), (.ref b_28)])) rfl (by rw [hml]; rfl) (argsL := [(.ref b_28), (.ref b_32), (.int (0 : Int32)), (.int (1 : Int32)), (.int (0 : Int32)), (.int x5_14), (.int x7_33), (.int x9_53)]) (rest := []) (lenOf pd_4 rfl) rfl (by show 2 * 0 + _ ≤ _; exact Nat.le_of_eq rfl) (hb hby at_298) (fun _ _ => ⟨rfl, rfl, (by decide : 4 + 0 ≤ _), (by decide : 13 + 0 ≤ _)⟩)
    dsimp only [Pt.U, Pt.locs, Pt.cells, Pt.slots] at X39 l39 y39 z39 st39 hQ39
    subst l39 y39 z39
    obtain ⟨rfl, N39q, hs39⟩ := hQ39
    have N39 := Fr.app N32 N39q
    refine own_go st39 ?_
    show own_G p e below Φ T39 (mkF m 301 #[.val (.int p0), .val (.int p1), .val (.int p2), .val (.int p3), .val (.int (1 : Int32)), .val (.int x5_14), .val (.int x6_22), .val (.int x7_33), .val (.int x8_42), .val (.int x9_53), .val (.int x10_62), .val (.ref ob22), .val (.int (1 : Int32)), .val (.ref ob24), .val (.ref b_28), .val (.ref b_32)] [(.int (1 : Int32))])
    refine own_go (fun _ => XS.ifNo X39.here hx rfl (hb hby at_301) rfl (Jvm.Free.XT.i0_eq_f (by decide : ¬ ((1 : Int32) = (0 : Int32))))) ?_
    show own_G p e below Φ T39 (mkF m 304 #[.val (.int p0), .val (.int p1), .val (.int p2), .val (.int p3), .val (.int (1 : Int32)), .val (.int x5_14), .val (.int x6_22), .val (.int x7_33), .val (.int x8_42), .val (.int x9_53), .val (.int x10_62), .val (.ref ob22), .val (.int (1 : Int32)), .val (.ref ob24), .val (.ref b_28), .val (.ref b_32)] [])
    refine own_go (fun _ => XS.aload X39.here hx rfl (hb hby at_304) rfl rfl) ?_
    show own_G p e below Φ T39 (mkF m 306 #[.val (.int p0), .val (.int p1), .val (.int p2), .val (.int p3), .val (.int (1 : Int32)), .val (.int x5_14), .val (.int x6_22), .val (.int x7_33), .val (.int x8_42), .val (.int x9_53), .val (.int x10_62), .val (.ref ob22), .val (.int (1 : Int32)), .val (.ref ob24), .val (.ref b_28), .val (.ref b_32)] [(.ref b_28)])
    refine own_go (fun _ => XS.aload X39.here hx rfl (hb hby at_306) rfl rfl) ?_
    show own_G p e below Φ T39 (mkF m 308 #[.val (.int p0), .val (.int p1), .val (.int p2), .val (.int p3), .val (.int (1 : Int32)), .val (.int x5_14), .val (.int x6_22), .val (.int x7_33), .val (.int x8_42), .val (.int x9_53), .val (.int x10_62), .val (.ref ob22), .val (.int (1 : Int32)), .val (.ref ob24), .val (.ref b_28), .val (.ref b_32)] [(.ref b_32), (.ref b_28)])
    refine own_go (fun _ => XS.iconst X39.here hx rfl (hb hby at_308)) ?_
    show own_G p e below Φ T39 (mkF m 309 #[.val (.int p0), .val (.int p1), .val (.int p2), .val (.int p3), .val (.int (1 : Int32)), .val (.int x5_14), .val (.int x6_22), .val (.int x7_33), .val (.int x8_42), .val (.int x9_53), .val (.int x10_62), .val (.ref ob22), .val (.int (1 : Int32)), .val (.ref ob24), .val (.ref b_28), .val (.ref b_32)] [(.int (1 : Int32)), (.ref b_32), (.ref b_28)])
    refine own_go (fun _ => XS.iload X39.here hx rfl (hb hby at_309) rfl) ?_
    show own_G p e below Φ T39 (mkF m 311 #[.val (.int p0), .val (.int p1), .val (.int p2), .val (.int p3), .val (.int (1 : Int32)), .val (.int x5_14), .val (.int x6_22), .val (.int x7_33), .val (.int x8_42), .val (.int x9_53), .val (.int x10_62), .val (.ref ob22), .val (.int (1 : Int32)), .val (.ref ob24), .val (.ref b_28), .val (.ref b_32)] [(.int (1 : Int32)), (.int (1 : Int32)), (.ref b_32), (.ref b_28)])
    refine own_go (fun _ => XS.iconst X39.here hx rfl (hb hby at_311)) ?_
    show own_G p e below Φ T39 (mkF m 312 #[.val (.int p0), .val (.int p1), .val (.int p2), .val (.int p3), .val (.int (1 : Int32)), .val (.int x5_14), .val (.int x6_22), .val (.int x7_33), .val (.int x8_42), .val (.int x9_53), .val (.int x10_62), .val (.ref ob22), .val (.int (1 : Int32)), .val (.ref ob24), .val (.ref b_28), .val (.ref b_32)] [(.int (0 : Int32)), (.int (1 : Int32)), (.int (1 : Int32)), (.ref b_32), (.ref b_28)])
    refine own_go (fun _ => XS.iload X39.here hx rfl (hb hby at_312) rfl) ?_
    show own_G p e below Φ T39 (mkF m 314 #[.val (.int p0), .val (.int p1), .val (.int p2), .val (.int p3), .val (.int (1 : Int32)), .val (.int x5_14), .val (.int x6_22), .val (.int x7_33), .val (.int x8_42), .val (.int x9_53), .val (.int x10_62), .val (.ref ob22), .val (.int (1 : Int32)), .val (.ref ob24), .val (.ref b_28), .val (.ref b_32)] [(.int x5_14), (.int (0 : Int32)), (.int (1 : Int32)), (.int (1 : Int32)), (.ref b_32), (.ref b_28)])
    refine own_go (fun _ => XS.iload X39.here hx rfl (hb hby at_314) rfl) ?_
    show own_G p e below Φ T39 (mkF m 316 #[.val (.int p0), .val (.int p1), .val (.int p2), .val (.int p3), .val (.int (1 : Int32)), .val (.int x5_14), .val (.int x6_22), .val (.int x7_33), .val (.int x8_42), .val (.int x9_53), .val (.int x10_62), .val (.ref ob22), .val (.int (1 : Int32)), .val (.ref ob24), .val (.ref b_28), .val (.ref b_32)] [(.int x7_33), (.int x5_14), (.int (0 : Int32)), (.int (1 : Int32)), (.int (1 : Int32)), (.ref b_32), (.ref b_28)])
    refine own_go (fun _ => XS.iload X39.here hx rfl (hb hby at_316) rfl) ?_
    show own_G p e below Φ T39 (mkF m 318 #[.val (.int p0), .val (.int p1), .val (.int p2), .val (.int p3), .val (.int (1 : Int32)), .val (.int x5_14), .val (.int x6_22), .val (.int x7_33), .val (.int x8_42), .val (.int x9_53), .val (.int x10_62), .val (.ref ob22), .val (.int (1 : Int32)), .val (.ref ob24), .val (.ref b_28), .val (.ref b_32)] [(.int x9_53), (.int x7_33), (.int x5_14), (.int (0 : Int32)), (.int (1 : Int32)), (.int (1 : Int32)), (.ref b_32), (.ref b_28)])
    obtain ⟨_, _, ⟨T40, zL40, zk40, zn40⟩, -, X40, ⟨Lc40, hQ40, l40, y40, z40⟩, st40⟩ := Jvm.LawKit.callS X39 hx (y := (⟨"com/example/edgewarden/edgewarden/graph/LikenessGetClassSizesPinLaw", "sizeOk", "([I[IIIIIII)Z"⟩ : MethodName)) hown (mvT hZ (wd_24 hw)) (mvT hZ (wd_25 hw)) (mvT hZ (wd_26 hw)) (mvT hZ (wd_27 hw)) (by decide) (backOf (W := 0) (rmK l Z a0 hw [] b_28 b_32 kb_28 kb_32 (own_max (0 : Int32) ((0 : Int32) + (1 : Int32))) (own_inc (own_zeros (own_max (0 : Int32) ((0 : Int32) + (1 : Int32)))) (0 : Int32)) (1 : Int32) (1 : Int32) (0 : Int32) x5_14 x7_33 x9_53 T32.heap n0 Zp32 f34 p32_0 (by decide) (own_use (P := fun t => (1 : Int32) < (own_max (0 : Int32) ((0 : Int32) + (1 : Int32))) → ((own_inc (own_zeros (own_max (0 : Int32) ((0 : Int32) + (1 : Int32)))) (0 : Int32))).getD ((1 : Int32)).toNatClampNeg 0 = own_cnt (1 : Int32) (1 : Int32) (0 : Int32) t.1 t.2.2.1 t.2.2.2.2.1) (by decide +kernel) hall)) hZ (wd_27 hw) (wd_26 hw) (by decide) (by decide)) (g := (mkF m 318 #[.val (.int p0), .val (.int p1), .val (.int p2), .val (.int p3), .val (.int (1 : Int32)), .val (.int x5_14), .val (.int x6_22), .val (.int x7_33), .val (.int x8_42), .val (.int x9_53), .val (.int x10_62), .val (.ref ob22), .val (.int (1 : Int32)), .val (.ref ob24), .val (.ref b_28), .val (.ref b_32)] [(.int x9_53), (.int x7_33), (.int x5_14), (.int (0 : Int32)), (.int (1 : Int32)), (.int (1 : Int32)), (.ref b_32), (.ref b_28)])) rfl (by rw [hml]; rfl) (argsL := [(.ref b_28), (.ref b_32), (.int (1 : Int32)), (.int (1 : Int32)), (.int (0 : Int32)), (.int x5_14), (.int x7_33), (.int x9_53)]) (rest := []) (lenOf pd_4 rfl) rfl (by show 2 * 0 + _ ≤ _; exact Nat.le_of_eq rfl) (hb hby at_318) (fun _ _ => ⟨rfl, hs39, (by decide : 4 + 0 ≤ _), (by decide : 13 + 0 ≤ _)⟩)
    dsimp only [Pt.U, Pt.locs, Pt.cells, Pt.slots] at X40 l40 y40 z40 st40 hQ40
    subst l40 y40 z40
    obtain ⟨rfl, N40q, hs40⟩ := hQ40
    have N40 := Fr.app N39 N40q
    refine own_go st40 ?_
    show own_G p e below Φ T40 (mkF m 321 #[.val (.int p0), .val (.int p1), .val (.int p2), .val (.int p3), .val (.int (1 : Int32)), .val (.int x5_14), .val (.int x6_22), .val (.int x7_33), .val (.int x8_42), .val (.int x9_53), .val (.int x10_62), .val (.ref ob22), .val (.int (1 : Int32)), .val (.ref ob24), .val (.ref b_28), .val (.ref b_32)] [(.int (1 : Int32))])
    refine own_go (fun _ => XS.ifNo X40.here hx rfl (hb hby at_321) rfl (Jvm.Free.XT.i0_eq_f (by decide : ¬ ((1 : Int32) = (0 : Int32))))) ?_
    show own_G p e below Φ T40 (mkF m 324 #[.val (.int p0), .val (.int p1), .val (.int p2), .val (.int p3), .val (.int (1 : Int32)), .val (.int x5_14), .val (.int x6_22), .val (.int x7_33), .val (.int x8_42), .val (.int x9_53), .val (.int x10_62), .val (.ref ob22), .val (.int (1 : Int32)), .val (.ref ob24), .val (.ref b_28), .val (.ref b_32)] [])
    refine own_go (fun _ => XS.aload X40.here hx rfl (hb hby at_324) rfl rfl) ?_
    show own_G p e below Φ T40 (mkF m 326 #[.val (.int p0), .val (.int p1), .val (.int p2), .val (.int p3), .val (.int (1 : Int32)), .val (.int x5_14), .val (.int x6_22), .val (.int x7_33), .val (.int x8_42), .val (.int x9_53), .val (.int x10_62), .val (.ref ob22), .val (.int (1 : Int32)), .val (.ref ob24), .val (.ref b_28), .val (.ref b_32)] [(.ref b_28)])
    refine own_go (fun _ => XS.aload X40.here hx rfl (hb hby at_326) rfl rfl) ?_
    show own_G p e below Φ T40 (mkF m 328 #[.val (.int p0), .val (.int p1), .val (.int p2), .val (.int p3), .val (.int (1 : Int32)), .val (.int x5_14), .val (.int x6_22), .val (.int x7_33), .val (.int x8_42), .val (.int x9_53), .val (.int x10_62), .val (.ref ob22), .val (.int (1 : Int32)), .val (.ref ob24), .val (.ref b_28), .val (.ref b_32)] [(.ref b_32), (.ref b_28)])
    refine own_go (fun _ => XS.iconst X40.here hx rfl (hb hby at_328)) ?_
    show own_G p e below Φ T40 (mkF m 329 #[.val (.int p0), .val (.int p1), .val (.int p2), .val (.int p3), .val (.int (1 : Int32)), .val (.int x5_14), .val (.int x6_22), .val (.int x7_33), .val (.int x8_42), .val (.int x9_53), .val (.int x10_62), .val (.ref ob22), .val (.int (1 : Int32)), .val (.ref ob24), .val (.ref b_28), .val (.ref b_32)] [(.int (2 : Int32)), (.ref b_32), (.ref b_28)])
    refine own_go (fun _ => XS.iload X40.here hx rfl (hb hby at_329) rfl) ?_
    show own_G p e below Φ T40 (mkF m 331 #[.val (.int p0), .val (.int p1), .val (.int p2), .val (.int p3), .val (.int (1 : Int32)), .val (.int x5_14), .val (.int x6_22), .val (.int x7_33), .val (.int x8_42), .val (.int x9_53), .val (.int x10_62), .val (.ref ob22), .val (.int (1 : Int32)), .val (.ref ob24), .val (.ref b_28), .val (.ref b_32)] [(.int (1 : Int32)), (.int (2 : Int32)), (.ref b_32), (.ref b_28)])
    refine own_go (fun _ => XS.iconst X40.here hx rfl (hb hby at_331)) ?_
    show own_G p e below Φ T40 (mkF m 332 #[.val (.int p0), .val (.int p1), .val (.int p2), .val (.int p3), .val (.int (1 : Int32)), .val (.int x5_14), .val (.int x6_22), .val (.int x7_33), .val (.int x8_42), .val (.int x9_53), .val (.int x10_62), .val (.ref ob22), .val (.int (1 : Int32)), .val (.ref ob24), .val (.ref b_28), .val (.ref b_32)] [(.int (0 : Int32)), (.int (1 : Int32)), (.int (2 : Int32)), (.ref b_32), (.ref b_28)])
    refine own_go (fun _ => XS.iload X40.here hx rfl (hb hby at_332) rfl) ?_
    show own_G p e below Φ T40 (mkF m 334 #[.val (.int p0), .val (.int p1), .val (.int p2), .val (.int p3), .val (.int (1 : Int32)), .val (.int x5_14), .val (.int x6_22), .val (.int x7_33), .val (.int x8_42), .val (.int x9_53), .val (.int x10_62), .val (.ref ob22), .val (.int (1 : Int32)), .val (.ref ob24), .val (.ref b_28), .val (.ref b_32)] [(.int x5_14), (.int (0 : Int32)), (.int (1 : Int32)), (.int (2 : Int32)), (.ref b_32), (.ref b_28)])
    refine own_go (fun _ => XS.iload X40.here hx rfl (hb hby at_334) rfl) ?_
    show own_G p e below Φ T40 (mkF m 336 #[.val (.int p0), .val (.int p1), .val (.int p2), .val (.int p3), .val (.int (1 : Int32)), .val (.int x5_14), .val (.int x6_22), .val (.int x7_33), .val (.int x8_42), .val (.int x9_53), .val (.int x10_62), .val (.ref ob22), .val (.int (1 : Int32)), .val (.ref ob24), .val (.ref b_28), .val (.ref b_32)] [(.int x7_33), (.int x5_14), (.int (0 : Int32)), (.int (1 : Int32)), (.int (2 : Int32)), (.ref b_32), (.ref b_28)])
    refine own_go (fun _ => XS.iload X40.here hx rfl (hb hby at_336) rfl) ?_
    show own_G p e below Φ T40 (mkF m 338 #[.val (.int p0), .val (.int p1), .val (.int p2), .val (.int p3), .val (.int (1 : Int32)), .val (.int x5_14), .val (.int x6_22), .val (.int x7_33), .val (.int x8_42), .val (.int x9_53), .val (.int x10_62), .val (.ref ob22), .val (.int (1 : Int32)), .val (.ref ob24), .val (.ref b_28), .val (.ref b_32)] [(.int x9_53), (.int x7_33), (.int x5_14), (.int (0 : Int32)), (.int (1 : Int32)), (.int (2 : Int32)), (.ref b_32), (.ref b_28)])
    obtain ⟨_, _, ⟨T41, zL41, zk41, zn41⟩, -, X41, ⟨Lc41, hQ41, l41, y41, z41⟩, st41⟩ := Jvm.LawKit.callS X40 hx (y := (⟨"com/example/edgewarden/edgewarden/graph/LikenessGetClassSizesPinLaw", "sizeOk", "([I[IIIIIII)Z"⟩ : MethodName)) hown (mvT hZ (wd_24 hw)) (mvT hZ (wd_25 hw)) (mvT hZ (wd_26 hw)) (mvT hZ (wd_27 hw)) (by decide) (backOf (W := 0) (rmK l Z a0 hw [] b_28 b_32 kb_28 kb_32 (own_max (0 : Int32) ((0 : Int32) + (1 : Int32))) (own_inc (own_zeros (own_max (0 : Int32) ((0 : Int32) + (1 : Int32)))) (0 : Int32)) (2 : Int32) (1 : Int32) (0 : Int32) x5_14 x7_33 x9_53 T32.heap n0 Zp32 f34 p32_0 (by decide) (own_use (P := fun t => (2 : Int32) < (own_max (0 : Int32) ((0 : Int32) + (1 : Int32))) → ((own_inc (own_zeros (own_max (0 : Int32) ((0 : Int32) + (1 : Int32)))) (0 : Int32))).getD ((2 : Int32)).toNatClampNeg 0 = own_cnt (2 : Int32) (1 : Int32) (0 : Int32) t.1 t.2.2.1 t.2.2.2.2.1) (by decide +kernel) hall)) hZ (wd_27 hw) (wd_26 hw) (by decide) (by decide)) (g := (mkF m 338 #[.val (.int p0), .val (.int p1), .val (.int p2), .val (.int p3), .val (.int (1 : Int32)), .val (.int x5_14), .val (.int x6_22), .val (.int x7_33), .val (.int x8_42), .val (.int x9_53), .val (.int x10_62), .val (.ref ob22), .val (.int (1 : Int32)), .val (.ref ob24), .val (.ref b_28), .val (.ref b_32)] [(.int x9_53), (.int x7_33), (.int x5_14), (.int (0 : Int32)), (.int (1 : Int32)), (.int (2 : Int32)), (.ref b_32), (.ref b_28)])) rfl (by rw [hml]; rfl) (argsL := [(.ref b_28), (.ref b_32), (.int (2 : Int32)), (.int (1 : Int32)), (.int (0 : Int32)), (.int x5_14), (.int x7_33), (.int x9_53)]) (rest := []) (lenOf pd_4 rfl) rfl (by show 2 * 0 + _ ≤ _; exact Nat.le_of_eq rfl) (hb hby at_338) (fun _ _ => ⟨rfl, hs40, (by decide : 4 + 0 ≤ _), (by decide : 13 + 0 ≤ _)⟩)
    dsimp only [Pt.U, Pt.locs, Pt.cells, Pt.slots] at X41 l41 y41 z41 st41 hQ41
    subst l41 y41 z41
    obtain ⟨rfl, N41q, hs41⟩ := hQ41
    have N41 := Fr.app N40 N41q
    refine own_go st41 ?_
    show own_G p e below Φ T41 (mkF m 341 #[.val (.int p0), .val (.int p1), .val (.int p2), .val (.int p3), .val (.int (1 : Int32)), .val (.int x5_14), .val (.int x6_22), .val (.int x7_33), .val (.int x8_42), .val (.int x9_53), .val (.int x10_62), .val (.ref ob22), .val (.int (1 : Int32)), .val (.ref ob24), .val (.ref b_28), .val (.ref b_32)] [(.int (1 : Int32))])
    refine own_go (fun _ => XS.ifNo X41.here hx rfl (hb hby at_341) rfl (Jvm.Free.XT.i0_eq_f (by decide : ¬ ((1 : Int32) = (0 : Int32))))) ?_
    show own_G p e below Φ T41 (mkF m 344 #[.val (.int p0), .val (.int p1), .val (.int p2), .val (.int p3), .val (.int (1 : Int32)), .val (.int x5_14), .val (.int x6_22), .val (.int x7_33), .val (.int x8_42), .val (.int x9_53), .val (.int x10_62), .val (.ref ob22), .val (.int (1 : Int32)), .val (.ref ob24), .val (.ref b_28), .val (.ref b_32)] [])
    refine own_go (fun _ => XS.aload X41.here hx rfl (hb hby at_344) rfl rfl) ?_
    show own_G p e below Φ T41 (mkF m 346 #[.val (.int p0), .val (.int p1), .val (.int p2), .val (.int p3), .val (.int (1 : Int32)), .val (.int x5_14), .val (.int x6_22), .val (.int x7_33), .val (.int x8_42), .val (.int x9_53), .val (.int x10_62), .val (.ref ob22), .val (.int (1 : Int32)), .val (.ref ob24), .val (.ref b_28), .val (.ref b_32)] [(.ref b_28)])
    refine own_go (fun _ => XS.aload X41.here hx rfl (hb hby at_346) rfl rfl) ?_
    show own_G p e below Φ T41 (mkF m 348 #[.val (.int p0), .val (.int p1), .val (.int p2), .val (.int p3), .val (.int (1 : Int32)), .val (.int x5_14), .val (.int x6_22), .val (.int x7_33), .val (.int x8_42), .val (.int x9_53), .val (.int x10_62), .val (.ref ob22), .val (.int (1 : Int32)), .val (.ref ob24), .val (.ref b_28), .val (.ref b_32)] [(.ref b_32), (.ref b_28)])
    refine own_go (fun _ => XS.iconst X41.here hx rfl (hb hby at_348)) ?_
    show own_G p e below Φ T41 (mkF m 349 #[.val (.int p0), .val (.int p1), .val (.int p2), .val (.int p3), .val (.int (1 : Int32)), .val (.int x5_14), .val (.int x6_22), .val (.int x7_33), .val (.int x8_42), .val (.int x9_53), .val (.int x10_62), .val (.ref ob22), .val (.int (1 : Int32)), .val (.ref ob24), .val (.ref b_28), .val (.ref b_32)] [(.int (3 : Int32)), (.ref b_32), (.ref b_28)])
    refine own_go (fun _ => XS.iload X41.here hx rfl (hb hby at_349) rfl) ?_
    show own_G p e below Φ T41 (mkF m 351 #[.val (.int p0), .val (.int p1), .val (.int p2), .val (.int p3), .val (.int (1 : Int32)), .val (.int x5_14), .val (.int x6_22), .val (.int x7_33), .val (.int x8_42), .val (.int x9_53), .val (.int x10_62), .val (.ref ob22), .val (.int (1 : Int32)), .val (.ref ob24), .val (.ref b_28), .val (.ref b_32)] [(.int (1 : Int32)), (.int (3 : Int32)), (.ref b_32), (.ref b_28)])
    refine own_go (fun _ => XS.iconst X41.here hx rfl (hb hby at_351)) ?_
    show own_G p e below Φ T41 (mkF m 352 #[.val (.int p0), .val (.int p1), .val (.int p2), .val (.int p3), .val (.int (1 : Int32)), .val (.int x5_14), .val (.int x6_22), .val (.int x7_33), .val (.int x8_42), .val (.int x9_53), .val (.int x10_62), .val (.ref ob22), .val (.int (1 : Int32)), .val (.ref ob24), .val (.ref b_28), .val (.ref b_32)] [(.int (0 : Int32)), (.int (1 : Int32)), (.int (3 : Int32)), (.ref b_32), (.ref b_28)])
    refine own_go (fun _ => XS.iload X41.here hx rfl (hb hby at_352) rfl) ?_
    show own_G p e below Φ T41 (mkF m 354 #[.val (.int p0), .val (.int p1), .val (.int p2), .val (.int p3), .val (.int (1 : Int32)), .val (.int x5_14), .val (.int x6_22), .val (.int x7_33), .val (.int x8_42), .val (.int x9_53), .val (.int x10_62), .val (.ref ob22), .val (.int (1 : Int32)), .val (.ref ob24), .val (.ref b_28), .val (.ref b_32)] [(.int x5_14), (.int (0 : Int32)), (.int (1 : Int32)), (.int (3 : Int32)), (.ref b_32), (.ref b_28)])
    refine own_go (fun _ => XS.iload X41.here hx rfl (hb hby at_354) rfl) ?_
    show own_G p e below Φ T41 (mkF m 356 #[.val (.int p0), .val (.int p1), .val (.int p2), .val (.int p3), .val (.int (1 : Int32)), .val (.int x5_14), .val (.int x6_22), .val (.int x7_33), .val (.int x8_42), .val (.int x9_53), .val (.int x10_62), .val (.ref ob22), .val (.int (1 : Int32)), .val (.ref ob24), .val (.ref b_28), .val (.ref b_32)] [(.int x7_33), (.int x5_14), (.int (0 : Int32)), (.int (1 : Int32)), (.int (3 : Int32)), (.ref b_32), (.ref b_28)])
    refine own_go (fun _ => XS.iload X41.here hx rfl (hb hby at_356) rfl) ?_
    show own_G p e below Φ T41 (mkF m 358 #[.val (.int p0), .val (.int p1), .val (.int p2), .val (.int p3), .val (.int (1 : Int32)), .val (.int x5_14), .val (.int x6_22), .val (.int x7_33), .val (.int x8_42), .val (.int x9_53), .val (.int x10_62), .val (.ref ob22), .val (.int (1 : Int32)), .val (.ref ob24), .val (.ref b_28), .val (.ref b_32)] [(.int x9_53), (.int x7_33), (.int x5_14), (.int (0 : Int32)), (.int (1 : Int32)), (.int (3 : Int32)), (.ref b_32), (.ref b_28)])
    obtain ⟨_, _, ⟨T42, zL42, zk42, zn42⟩, -, X42, ⟨Lc42, hQ42, l42, y42, z42⟩, st42⟩ := Jvm.LawKit.callS X41 hx (y := (⟨"com/example/edgewarden/edgewarden/graph/LikenessGetClassSizesPinLaw", "sizeOk", "([I[IIIIIII)Z"⟩ : MethodName)) hown (mvT hZ (wd_24 hw)) (mvT hZ (wd_25 hw)) (mvT hZ (wd_26 hw)) (mvT hZ (wd_27 hw)) (by decide) (backOf (W := 0) (rmK l Z a0 hw [] b_28 b_32 kb_28 kb_32 (own_max (0 : Int32) ((0 : Int32) + (1 : Int32))) (own_inc (own_zeros (own_max (0 : Int32) ((0 : Int32) + (1 : Int32)))) (0 : Int32)) (3 : Int32) (1 : Int32) (0 : Int32) x5_14 x7_33 x9_53 T32.heap n0 Zp32 f34 p32_0 (by decide) (own_use (P := fun t => (3 : Int32) < (own_max (0 : Int32) ((0 : Int32) + (1 : Int32))) → ((own_inc (own_zeros (own_max (0 : Int32) ((0 : Int32) + (1 : Int32)))) (0 : Int32))).getD ((3 : Int32)).toNatClampNeg 0 = own_cnt (3 : Int32) (1 : Int32) (0 : Int32) t.1 t.2.2.1 t.2.2.2.2.1) (by decide +kernel) hall)) hZ (wd_27 hw) (wd_26 hw) (by decide) (by decide)) (g := (mkF m 358 #[.val (.int p0), .val (.int p1), .val (.int p2), .val (.int p3), .val (.int (1 : Int32)), .val (.int x5_14), .val (.int x6_22), .val (.int x7_33), .val (.int x8_42), .val (.int x9_53), .val (.int x10_62), .val (.ref ob22), .val (.int (1 : Int32)), .val (.ref ob24), .val (.ref b_28), .val (.ref b_32)] [(.int x9_53), (.int x7_33), (.int x5_14), (.int (0 : Int32)), (.int (1 : Int32)), (.int (3 : Int32)), (.ref b_32), (.ref b_28)])) rfl (by rw [hml]; rfl) (argsL := [(.ref b_28), (.ref b_32), (.int (3 : Int32)), (.int (1 : Int32)), (.int (0 : Int32)), (.int x5_14), (.int x7_33), (.int x9_53)]) (rest := []) (lenOf pd_4 rfl) rfl (by show 2 * 0 + _ ≤ _; exact Nat.le_of_eq rfl) (hb hby at_358) (fun _ _ => ⟨rfl, hs41, (by decide : 4 + 0 ≤ _), (by decide : 13 + 0 ≤ _)⟩)
    dsimp only [Pt.U, Pt.locs, Pt.cells, Pt.slots] at X42 l42 y42 z42 st42 hQ42
    subst l42 y42 z42
    obtain ⟨rfl, N42q, hs42⟩ := hQ42
    have N42 := Fr.app N41 N42q
    refine own_go st42 ?_
    show own_G p e below Φ T42 (mkF m 361 #[.val (.int p0), .val (.int p1), .val (.int p2), .val (.int p3), .val (.int (1 : Int32)), .val (.int x5_14), .val (.int x6_22), .val (.int x7_33), .val (.int x8_42), .val (.int x9_53), .val (.int x10_62), .val (.ref ob22), .val (.int (1 : Int32)), .val (.ref ob24), .val (.ref b_28), .val (.ref b_32)] [(.int (1 : Int32))])
    refine own_go (fun _ => XS.ifNo X42.here hx rfl (hb hby at_361) rfl (Jvm.Free.XT.i0_eq_f (by decide : ¬ ((1 : Int32) = (0 : Int32))))) ?_
    show own_G p e below Φ T42 (mkF m 364 #[.val (.int p0), .val (.int p1), .val (.int p2), .val (.int p3), .val (.int (1 : Int32)), .val (.int x5_14), .val (.int x6_22), .val (.int x7_33), .val (.int x8_42), .val (.int x9_53), .val (.int x10_62), .val (.ref ob22), .val (.int (1 : Int32)), .val (.ref ob24), .val (.ref b_28), .val (.ref b_32)] [])
    refine own_go (fun _ => XS.iconst X42.here hx rfl (hb hby at_364)) ?_
    show own_G p e below Φ T42 (mkF m 365 #[.val (.int p0), .val (.int p1), .val (.int p2), .val (.int p3), .val (.int (1 : Int32)), .val (.int x5_14), .val (.int x6_22), .val (.int x7_33), .val (.int x8_42), .val (.int x9_53), .val (.int x10_62), .val (.ref ob22), .val (.int (1 : Int32)), .val (.ref ob24), .val (.ref b_28), .val (.ref b_32)] [(.int (1 : Int32))])
    refine own_go (fun _ => XS.goto X42.here hx rfl (pc0 := 365) (pc' := 369) rfl (hb hby at_365) (by decide) (by decide)) ?_
    show own_G p e below Φ T42 (mkF m 369 #[.val (.int p0), .val (.int p1), .val (.int p2), .val (.int p3), .val (.int (1 : Int32)), .val (.int x5_14), .val (.int x6_22), .val (.int x7_33), .val (.int x8_42), .val (.int x9_53), .val (.int x10_62), .val (.ref ob22), .val (.int (1 : Int32)), .val (.ref ob24), .val (.ref b_28), .val (.ref b_32)] [(.int (1 : Int32))])
    rw [hΦ]
    refine own_ret X42 (v := some (.int (1 : Int32))) (fun h => by rw [Bd.returns] at h; cases h) (BodyLoose.notSynchronized Bd) (fun fs hr => retN X42 hx (t := .boolean) Bd.returns (by simp) (hb hby at_369) hr) ?_ (by decide) (by decide)
    rw [hs42]
    exact ⟨rfl, N42⟩
  · show own_G p e below Φ T3 (mkF m 64 #[.val (.int p0), .val (.int p1), .val (.int p2), .val (.int p3), .val (.int (2 : Int32)), .val (.int x5_14), .val (.int x6_22), .val (.int x7_33), .val (.int x8_42), .val (.int x9_53), .val (.int x10_62), .unset, .unset, .unset, .unset, .unset] [])
    refine own_go (fun _ => XS.iload X3.here hx rfl (hb hby at_64) rfl) ?_
    show own_G p e below Φ T3 (mkF m 66 #[.val (.int p0), .val (.int p1), .val (.int p2), .val (.int p3), .val (.int (2 : Int32)), .val (.int x5_14), .val (.int x6_22), .val (.int x7_33), .val (.int x8_42), .val (.int x9_53), .val (.int x10_62), .unset, .unset, .unset, .unset, .unset] [(.int (2 : Int32))])
    obtain ⟨T43, h43, ka43, X43, e43, E43, A43, st43⟩ := newP (aty := .int) X3 hx hZ (wd_5 hw) hs3 (g := (mkF m 66 #[.val (.int p0), .val (.int p1), .val (.int p2), .val (.int p3), .val (.int (2 : Int32)), .val (.int x5_14), .val (.int x6_22), .val (.int x7_33), .val (.int x8_42), .val (.int x9_53), .val (.int x10_62), .unset, .unset, .unset, .unset, .unset] [(.int (2 : Int32))])) rfl (hb hby at_66) rfl (by decide) (cap := 2) (by decide) (by decide) (by decide) (by decide)
    obtain ⟨ob43, g43⟩ : ∃ z, z = h0.size := ⟨_, rfl⟩
    rw [← g43] at A43 st43
    have V43 : Arv Z h43 ob43 ka43 .int (2 : Int32) [(.int (0 : Int32)), (.int (0 : Int32))] (.int (0 : Int32)) := (Arv.new A43 (by decide)).pad (pad_rep [] (.int (0 : Int32)) 2)
    have g_ob43 : n0 ≤ ob43 := Nat.le_trans Z0 (Nat.le_of_eq g43.symm)
    have Zp43 : n0 ≤ h43.size := Nat.le_trans Z0 E43.1
    refine own_go st43 ?_
    show own_G p e below Φ T43 (mkF m 68 #[.val (.int p0), .val (.int p1), .val (.int p2), .val (.int p3), .val (.int (2 : Int32)), .val (.int x5_14), .val (.int x6_22), .val (.int x7_33), .val (.int x8_42), .val (.int x9_53), .val (.int x10_62), .unset, .unset, .unset, .unset, .unset] [(.ref ob43)])
    refine own_go (fun _ => XS.astore X43.here hx rfl (hb hby at_68) rfl rfl (l' := #[.val (.int p0), .val (.int p1), .val (.int p2), .val (.int p3), .val (.int (2 : Int32)), .val (.int x5_14), .val (.int x6_22), .val (.int x7_33), .val (.int x8_42), .val (.int x9_53), .val (.int x10_62), .val (.ref ob43), .unset, .unset, .unset, .unset]) rfl) ?_
    show own_G p e below Φ T43 (mkF m 70 #[.val (.int p0), .val (.int p1), .val (.int p2), .val (.int p3), .val (.int (2 : Int32)), .val (.int x5_14), .val (.int x6_22), .val (.int x7_33), .val (.int x8_42), .val (.int x9_53), .val (.int x10_62), .val (.ref ob43), .unset, .unset, .unset, .unset] [])
    refine own_go (fun _ => XS.iload X43.here hx rfl (hb hby at_70) rfl) ?_
    show own_G p e below Φ T43 (mkF m 72 #[.val (.int p0), .val (.int p1), .val (.int p2), .val (.int p3), .val (.int (2 : Int32)), .val (.int x5_14), .val (.int x6_22), .val (.int x7_33), .val (.int x8_42), .val (.int x9_53), .val (.int x10_62), .val (.ref ob43), .unset, .unset, .unset, .unset] [(.int (2 : Int32))])
    refine own_go (fun _ => XS.ifNo X43.here hx rfl (hb hby at_72) rfl (Jvm.Free.XT.i0_le_f (by decide : ((0 : Int32) < (2 : Int32))))) ?_
    show own_G p e below Φ T43 (mkF m 75 #[.val (.int p0), .val (.int p1), .val (.int p2), .val (.int p3), .val (.int (2 : Int32)), .val (.int x5_14), .val (.int x6_22), .val (.int x7_33), .val (.int x8_42), .val (.int x9_53), .val (.int x10_62), .val (.ref ob43), .unset, .unset, .unset, .unset] [])
    refine own_go (fun _ => XS.aload X43.here hx rfl (hb hby at_75) rfl rfl) ?_
    show own_G p e below Φ T43 (mkF m 77 #[.val (.int p0), .val (.int p1), .val (.int p2), .val (.int p3), .val (.int (2 : Int32)), .val (.int x5_14), .val (.int x6_22), .val (.int x7_33), .val (.int x8_42), .val (.int x9_53), .val (.int x10_62), .val (.ref ob43), .unset, .unset, .unset, .unset] [(.ref ob43)])
    refine own_go (fun _ => XS.iconst X43.here hx rfl (hb hby at_77)) ?_
    show own_G p e below Φ T43 (mkF m 78 #[.val (.int p0), .val (.int p1), .val (.int p2), .val (.int p3), .val (.int (2 : Int32)), .val (.int x5_14), .val (.int x6_22), .val (.int x7_33), .val (.int x8_42), .val (.int x9_53), .val (.int x10_62), .val (.ref ob43), .unset, .unset, .unset, .unset] [(.int (0 : Int32)), (.ref ob43)])
    refine own_go (fun _ => XS.iconst X43.here hx rfl (hb hby at_78)) ?_
    show own_G p e below Φ T43 (mkF m 79 #[.val (.int p0), .val (.int p1), .val (.int p2), .val (.int p3), .val (.int (2 : Int32)), .val (.int x5_14), .val (.int x6_22), .val (.int x7_33), .val (.int x8_42), .val (.int x9_53), .val (.int x10_62), .val (.ref ob43), .unset, .unset, .unset, .unset] [(.int (0 : Int32)), (.int (0 : Int32)), (.ref ob43)])
    obtain ⟨cl44, Ar44, q44, S44, M44, H44, G44⟩ := id V43
    have hin44 : ¬ ((0 : Int32) < 0 ∨ cl44.slots.size ≤ ((0 : Int32)).toNatClampNeg) := inb_of S44 ⟨by decide, by decide⟩
    obtain ⟨T44, h44, X44, e44, W44, st44⟩ := stI X43 hx hZ e43 Ar44 (j := (0 : Int32)) hin44 (g := (mkF m 79 #[.val (.int p0), .val (.int p1), .val (.int p2), .val (.int p3), .val (.int (2 : Int32)), .val (.int x5_14), .val (.int x6_22), .val (.int x7_33), .val (.int x8_42), .val (.int x9_53), .val (.int x10_62), .val (.ref ob43), .unset, .unset, .unset, .unset] [(.int (0 : Int32)), (.int (0 : Int32)), (.ref ob43)])) rfl rfl (hb hby at_79)
    refine own_go st44 ?_
    have V44 : Arv Z h44 ob43 ka43 .int (2 : Int32) [(.int (0 : Int32)), (.int (0 : Int32))] (.int (0 : Int32)) := Arv.set Ar44 q44 S44 M44 H44 G44 rfl W44 0 rfl (Nat.le_of_ble_eq_true rfl)
    have N44 := Fr.snoc X44 N3 g_ob43
    have Zp44 : n0 ≤ h44.size := Nat.le_trans Zp43 (Keep.of_wr W44).1
    show own_G p e below Φ T44 (mkF m 80 #[.val (.int p0), .val (.int p1), .val (.int p2), .val (.int p3), .val (.int (2 : Int32)), .val (.int x5_14), .val (.int x6_22), .val (.int x7_33), .val (.int x8_42), .val (.int x9_53), .val (.int x10_62), .val (.ref ob43), .unset, .unset, .unset, .unset] [])
    refine own_go (fun _ => XS.iload X44.here hx rfl (hb hby at_80) rfl) ?_
    show own_G p e below Φ T44 (mkF m 82 #[.val (.int p0), .val (.int p1), .val (.int p2), .val (.int p3), .val (.int (2 : Int32)), .val (.int x5_14), .val (.int x6_22), .val (.int x7_33), .val (.int x8_42), .val (.int x9_53), .val (.int x10_62), .val (.ref ob43), .unset, .unset, .unset, .unset] [(.int (2 : Int32))])
    refine own_go (fun _ => XS.iconst X44.here hx rfl (hb hby at_82)) ?_
    show own_G p e below Φ T44 (mkF m 83 #[.val (.int p0), .val (.int p1), .val (.int p2), .val (.int p3), .val (.int (2 : Int32)), .val (.int x5_14), .val (.int x6_22), .val (.int x7_33), .val (.int x8_42), .val (.int x9_53), .val (.int x10_62), .val (.ref ob43), .unset, .unset, .unset, .unset] [(.int (1 : Int32)), (.int (2 : Int32))])
    refine own_go (fun _ => XS.icmpNo X44.here hx rfl (hb hby at_83) rfl (Jvm.Free.XT.ii_le_f (by decide : ((1 : Int32) < (2 : Int32))))) ?_
    show own_G p e below Φ T44 (mkF m 86 #[.val (.int p0), .val (.int p1), .val (.int p2), .val (.int p3), .val (.int (2 : Int32)), .val (.int x5_14), .val (.int x6_22), .val (.int x7_33), .val (.int x8_42), .val (.int x9_53), .val (.int x10_62), .val (.ref ob43), .unset, .unset, .unset, .unset] [])
    refine own_go (fun _ => XS.aload X44.here hx rfl (hb hby at_86) rfl rfl) ?_
    show own_G p e below Φ T44 (mkF m 88 #[.val (.int p0), .val (.int p1), .val (.int p2), .val (.int p3), .val (.int (2 : Int32)), .val (.int x5_14), .val (.int x6_22), .val (.int x7_33), .val (.int x8_42), .val (.int x9_53), .val (.int x10_62), .val (.ref ob43), .unset, .unset, .unset, .unset] [(.ref ob43)])
    refine own_go (fun _ => XS.iconst X44.here hx rfl (hb hby at_88)) ?_
    show own_G p e below Φ T44 (mkF m 89 #[.val (.int p0), .val (.int p1), .val (.int p2), .val (.int p3), .val (.int (2 : Int32)), .val (.int x5_14), .val (.int x6_22), .val (.int x7_33), .val (.int x8_42), .val (.int x9_53), .val (.int x10_62), .val (.ref ob43), .unset, .unset, .unset, .unset] [(.int (1 : Int32)), (.ref ob43)])
    refine own_go (fun _ => XS.iload X44.here hx rfl (hb hby at_89) rfl) ?_
    show own_G p e below Φ T44 (mkF m 91 #[.val (.int p0), .val (.int p1), .val (.int p2), .val (.int p3), .val (.int (2 : Int32)), .val (.int x5_14), .val (.int x6_22), .val (.int x7_33), .val (.int x8_42), .val (.int x9_53), .val (.int x10_62), .val (.ref ob43), .unset, .unset, .unset, .unset] [(.int x5_14), (.int (1 : Int32)), (.ref ob43)])
    obtain ⟨cl45, Ar45, q45, S45, M45, H45, G45⟩ := id V44
    have hin45 : ¬ ((1 : Int32) < 0 ∨ cl45.slots.size ≤ ((1 : Int32)).toNatClampNeg) := inb_of S45 ⟨by decide, by decide⟩
    obtain ⟨T45, h45, X45, e45, W45, st45⟩ := stI X44 hx hZ e44 Ar45 (j := (1 : Int32)) hin45 (g := (mkF m 91 #[.val (.int p0), .val (.int p1), .val (.int p2), .val (.int p3), .val (.int (2 : Int32)), .val (.int x5_14), .val (.int x6_22), .val (.int x7_33), .val (.int x8_42), .val (.int x9_53), .val (.int x10_62), .val (.ref ob43), .unset, .unset, .unset, .unset] [(.int x5_14), (.int (1 : Int32)), (.ref ob43)])) rfl rfl (hb hby at_91)
    refine own_go st45 ?_
    have V45 : Arv Z h45 ob43 ka43 .int (2 : Int32) [(.int (0 : Int32)), (.int x5_14)] (.int (0 : Int32)) := Arv.set Ar45 q45 S45 M45 H45 G45 rfl W45 1 rfl (Nat.le_of_ble_eq_true rfl)
    have N45 := Fr.snoc X45 N44 g_ob43
    have Zp45 : n0 ≤ h45.size := Nat.le_trans Zp44 (Keep.of_wr W45).1
    show own_G p e below Φ T45 (mkF m 92 #[.val (.int p0), .val (.int p1), .val (.int p2), .val (.int p3), .val (.int (2 : Int32)), .val (.int x5_14), .val (.int x6_22), .val (.int x7_33), .val (.int x8_42), .val (.int x9_53), .val (.int x10_62), .val (.ref ob43), .unset, .unset, .unset, .unset] [])
    refine own_go (fun _ => XS.iload X45.here hx rfl (hb hby at_92) rfl) ?_
    show own_G p e below Φ T45 (mkF m 94 #[.val (.int p0), .val (.int p1), .val (.int p2), .val (.int p3), .val (.int (2 : Int32)), .val (.int x5_14), .val (.int x6_22), .val (.int x7_33), .val (.int x8_42), .val (.int x9_53), .val (.int x10_62), .val (.ref ob43), .unset, .unset, .unset, .unset] [(.int (2 : Int32))])
    refine own_go (fun _ => XS.iconst X45.here hx rfl (hb hby at_94)) ?_
    show own_G p e below Φ T45 (mkF m 95 #[.val (.int p0), .val (.int p1), .val (.int p2), .val (.int p3), .val (.int (2 : Int32)), .val (.int x5_14), .val (.int x6_22), .val (.int x7_33), .val (.int x8_42), .val (.int x9_53), .val (.int x10_62), .val (.ref ob43), .unset, .unset, .unset, .unset] [(.int (2 : Int32)), (.int (2 : Int32))])
    refine own_go (fun _ => XS.icmpYes X45.here hx rfl (pc0 := 95) (pc' := 104) rfl (hb hby at_95) rfl (Jvm.Free.XT.ii_le_t (by decide : ¬ ((2 : Int32) < (2 : Int32)))) (by decide) (by decide)) ?_
    show own_G p e below Φ T45 (mkF m 104 #[.val (.int p0), .val (.int p1), .val (.int p2), .val (.int p3), .val (.int (2 : Int32)), .val (.int x5_14), .val (.int x6_22), .val (.int x7_33), .val (.int x8_42), .val (.int x9_53), .val (.int x10_62), .val (.ref ob43), .unset, .unset, .unset, .unset] [])
    refine own_go (fun _ => XS.iload X45.here hx rfl (hb hby at_104) rfl) ?_
    show own_G p e below Φ T45 (mkF m 106 #[.val (.int p0), .val (.int p1), .val (.int p2), .val (.int p3), .val (.int (2 : Int32)), .val (.int x5_14), .val (.int x6_22), .val (.int x7_33), .val (.int x8_42), .val (.int x9_53), .val (.int x10_62), .val (.ref ob43), .unset, .unset, .unset, .unset] [(.int (2 : Int32))])
    refine own_go (fun _ => XS.iconst X45.here hx rfl (hb hby at_106)) ?_
    show own_G p e below Φ T45 (mkF m 107 #[.val (.int p0), .val (.int p1), .val (.int p2), .val (.int p3), .val (.int (2 : Int32)), .val (.int x5_14), .val (.int x6_22), .val (.int x7_33), .val (.int x8_42), .val (.int x9_53), .val (.int x10_62), .val (.ref ob43), .unset, .unset, .unset, .unset] [(.int (3 : Int32)), (.int (2 : Int32))])
    refine own_go (fun _ => XS.icmpYes X45.here hx rfl (pc0 := 107) (pc' := 116) rfl (hb hby at_107) rfl (Jvm.Free.XT.ii_le_t (by decide : ¬ ((3 : Int32) < (2 : Int32)))) (by decide) (by decide)) ?_
    show own_G p e below Φ T45 (mkF m 116 #[.val (.int p0), .val (.int p1), .val (.int p2), .val (.int p3), .val (.int (2 : Int32)), .val (.int x5_14), .val (.int x6_22), .val (.int x7_33), .val (.int x8_42), .val (.int x9_53), .val (.int x10_62), .val (.ref ob43), .unset, .unset, .unset, .unset] [])
    refine own_go (fun _ => XS.iload X45.here hx rfl (hb hby at_116) rfl) ?_
    show own_G p e below Φ T45 (mkF m 118 #[.val (.int p0), .val (.int p1), .val (.int p2), .val (.int p3), .val (.int (2 : Int32)), .val (.int x5_14), .val (.int x6_22), .val (.int x7_33), .val (.int x8_42), .val (.int x9_53), .val (.int x10_62), .val (.ref ob43), .unset, .unset, .unset, .unset] [(.int (2 : Int32))])
    refine own_go (fun _ => XS.ifYes X45.here hx rfl (pc0 := 118) (pc' := 125) rfl (hb hby at_118) rfl (Jvm.Free.XT.i0_ne_t (by decide : ¬ ((2 : Int32) = (0 : Int32)))) (by decide) (by decide)) ?_
    show own_G p e below Φ T45 (mkF m 125 #[.val (.int p0), .val (.int p1), .val (.int p2), .val (.int p3), .val (.int (2 : Int32)), .val (.int x5_14), .val (.int x6_22), .val (.int x7_33), .val (.int x8_42), .val (.int x9_53), .val (.int x10_62), .val (.ref ob43), .unset, .unset, .unset, .unset] [])
    refine own_go (fun _ => XS.iload X45.here hx rfl (hb hby at_125) rfl) ?_
    show own_G p e below Φ T45 (mkF m 127 #[.val (.int p0), .val (.int p1), .val (.int p2), .val (.int p3), .val (.int (2 : Int32)), .val (.int x5_14), .val (.int x6_22), .val (.int x7_33), .val (.int x8_42), .val (.int x9_53), .val (.int x10_62), .val (.ref ob43), .unset, .unset, .unset, .unset] [(.int (2 : Int32))])
    refine own_go (fun _ => XS.iconst X45.here hx rfl (hb hby at_127)) ?_
    show own_G p e below Φ T45 (mkF m 128 #[.val (.int p0), .val (.int p1), .val (.int p2), .val (.int p3), .val (.int (2 : Int32)), .val (.int x5_14), .val (.int x6_22), .val (.int x7_33), .val (.int x8_42), .val (.int x9_53), .val (.int x10_62), .val (.ref ob43), .unset, .unset, .unset, .unset] [(.int (1 : Int32)), (.int (2 : Int32))])
    refine own_go (fun _ => XS.icmpYes X45.here hx rfl (pc0 := 128) (pc' := 135) rfl (hb hby at_128) rfl (Jvm.Free.XT.ii_ne_t (by decide : ¬ ((2 : Int32) = (1 : Int32)))) (by decide) (by decide)) ?_
    show own_G p e below Φ T45 (mkF m 135 #[.val (.int p0), .val (.int p1), .val (.int p2), .val (.int p3), .val (.int (2 : Int32)), .val (.int x5_14), .val (.int x6_22), .val (.int x7_33), .val (.int x8_42), .val (.int x9_53), .val (.int x10_62), .val (.ref ob43), .unset, .unset, .unset, .unset] [])
    refine own_go (fun _ => XS.iload X45.here hx rfl (hb hby at_135) rfl) ?_
    show own_G p e below Φ T45 (mkF m 137 #[.val (.int p0), .val (.int p1), .val (.int p2), .val (.int p3), .val (.int (2 : Int32)), .val (.int x5_14), .val (.int x6_22), .val (.int x7_33), .val (.int x8_42), .val (.int x9_53), .val (.int x10_62), .val (.ref ob43), .unset, .unset, .unset, .unset] [(.int (2 : Int32))])
    refine own_go (fun _ => XS.iconst X45.here hx rfl (hb hby at_137)) ?_
    show own_G p e below Φ T45 (mkF m 138 #[.val (.int p0), .val (.int p1), .val (.int p2), .val (.int p3), .val (.int (2 : Int32)), .val (.int x5_14), .val (.int x6_22), .val (.int x7_33), .val (.int x8_42), .val (.int x9_53), .val (.int x10_62), .val (.ref ob43), .unset, .unset, .unset, .unset] [(.int (2 : Int32)), (.int (2 : Int32))])
    refine own_go (fun _ => XS.icmpNo X45.here hx rfl (hb hby at_138) rfl (Jvm.Free.XT.ii_ne_f (by decide : ((2 : Int32) = (2 : Int32))))) ?_
    show own_G p e below Φ T45 (mkF m 141 #[.val (.int p0), .val (.int p1), .val (.int p2), .val (.int p3), .val (.int (2 : Int32)), .val (.int x5_14), .val (.int x6_22), .val (.int x7_33), .val (.int x8_42), .val (.int x9_53), .val (.int x10_62), .val (.ref ob43), .unset, .unset, .unset, .unset] [])
    refine own_go (fun _ => XS.iload X45.here hx rfl (hb hby at_141) rfl) ?_
    show own_G p e below Φ T45 (mkF m 143 #[.val (.int p0), .val (.int p1), .val (.int p2), .val (.int p3), .val (.int (2 : Int32)), .val (.int x5_14), .val (.int x6_22), .val (.int x7_33), .val (.int x8_42), .val (.int x9_53), .val (.int x10_62), .val (.ref ob43), .unset, .unset, .unset, .unset] [(.int x6_22)])
    refine own_go (fun _ => XS.iconst X45.here hx rfl (hb hby at_143)) ?_
    show own_G p e below Φ T45 (mkF m 144 #[.val (.int p0), .val (.int p1), .val (.int p2), .val (.int p3), .val (.int (2 : Int32)), .val (.int x5_14), .val (.int x6_22), .val (.int x7_33), .val (.int x8_42), .val (.int x9_53), .val (.int x10_62), .val (.ref ob43), .unset, .unset, .unset, .unset] [(.int (1 : Int32)), (.int x6_22)])
    refine own_go (fun _ => XS.iadd X45.here hx rfl (hb hby at_144) rfl) ?_
    show own_G p e below Φ T45 (mkF m 145 #[.val (.int p0), .val (.int p1), .val (.int p2), .val (.int p3), .val (.int (2 : Int32)), .val (.int x5_14), .val (.int x6_22), .val (.int x7_33), .val (.int x8_42), .val (.int x9_53), .val (.int x10_62), .val (.ref ob43), .unset, .unset, .unset, .unset] [(.int (x6_22 + (1 : Int32)))])
    refine own_go (fun _ => XS.goto X45.here hx rfl (pc0 := 145) (pc' := 165) rfl (hb hby at_145) (by decide) (by decide)) ?_
    show own_G p e below Φ T45 (mkF m 165 #[.val (.int p0), .val (.int p1), .val (.int p2), .val (.int p3), .val (.int (2 : Int32)), .val (.int x5_14), .val (.int x6_22), .val (.int x7_33), .val (.int x8_42), .val (.int x9_53), .val (.int x10_62), .val (.ref ob43), .unset, .unset, .unset, .unset] [(.int (x6_22 + (1 : Int32)))])
    refine own_go (fun _ => XS.istore X45.here hx rfl (hb hby at_165) rfl (l' := #[.val (.int p0), .val (.int p1), .val (.int p2), .val (.int p3), .val (.int (2 : Int32)), .val (.int x5_14), .val (.int x6_22), .val (.int x7_33), .val (.int x8_42), .val (.int x9_53), .val (.int x10_62), .val (.ref ob43), .val (.int (x6_22 + (1 : Int32))), .unset, .unset, .unset]) rfl) ?_
    show own_G p e below Φ T45 (mkF m 167 #[.val (.int p0), .val (.int p1), .val (.int p2), .val (.int p3), .val (.int (2 : Int32)), .val (.int x5_14), .val (.int x6_22), .val (.int x7_33), .val (.int x8_42), .val (.int x9_53), .val (.int x10_62), .val (.ref ob43), .val (.int (x6_22 + (1 : Int32))), .unset, .unset, .unset] [])
    obtain ⟨T46, h46, X46, e46, E46, A46, D46, -, st46⟩ := newO X45 hx hZ hown (wd_6 hw) (wd_7 hw) (wd_8 hw) e45 (g := (mkF m 167 #[.val (.int p0), .val (.int p1), .val (.int p2), .val (.int p3), .val (.int (2 : Int32)), .val (.int x5_14), .val (.int x6_22), .val (.int x7_33), .val (.int x8_42), .val (.int x9_53), .val (.int x10_62), .val (.ref ob43), .val (.int (x6_22 + (1 : Int32))), .unset, .unset, .unset] [])) rfl (hb hby at_167) (by decide) (by decide)
    obtain ⟨ob46, g46⟩ : ∃ z, z = h45.size := ⟨_, rfl⟩
    rw [← g46] at A46 D46 st46
    have ne_ob43_ob46 : ob43 ≠ ob46 := Nat.ne_of_lt (Nat.lt_of_lt_of_le V45.lt (Nat.le_of_eq g46.symm))
    have g_ob46 : n0 ≤ ob46 := Nat.le_trans Zp45 (Nat.le_of_eq g46.symm)
    have Zp46 : n0 ≤ h46.size := Nat.le_trans Zp45 E46.1
    refine own_go st46 ?_
    have F_m_aClasses_ob46 : Fld Z h46 ob46 "com/example/edgewarden/edgewarden/graph/Likeness" "m_aClasses" "[I" .null := D46 (Or.inr (wd_16 hw)) (ty := (.array .int)) (by decide)
    have F_m_nClassCount_ob46 : Fld Z h46 ob46 "com/example/edgewarden/edgewarden/graph/Likeness" "m_nClassCount" "I" (.int (0 : Int32)) := D46 (Or.inr (wd_18 hw)) (ty := .int) (by decide)
    show own_G p e below Φ T46 (mkF m 170 #[.val (.int p0), .val (.int p1), .val (.int p2), .val (.int p3), .val (.int (2 : Int32)), .val (.int x5_14), .val (.int x6_22), .val (.int x7_33), .val (.int x8_42), .val (.int x9_53), .val (.int x10_62), .val (.ref ob43), .val (.int (x6_22 + (1 : Int32))), .unset, .unset, .unset] [(.ref ob46)])
    refine own_go (fun _ => XS.dup X46.here hx rfl (hb hby at_170) rfl rfl) ?_
    show own_G p e below Φ T46 (mkF m 171 #[.val (.int p0), .val (.int p1), .val (.int p2), .val (.int p3), .val (.int (2 : Int32)), .val (.int x5_14), .val (.int x6_22), .val (.int x7_33), .val (.int x8_42), .val (.int x9_53), .val (.int x10_62), .val (.ref ob43), .val (.int (x6_22 + (1 : Int32))), .unset, .unset, .unset] [(.ref ob46), (.ref ob46)])
    refine own_go (fun _ => XS.aload X46.here hx rfl (hb hby at_171) rfl rfl) ?_
    show own_G p e below Φ T46 (mkF m 173 #[.val (.int p0), .val (.int p1), .val (.int p2), .val (.int p3), .val (.int (2 : Int32)), .val (.int x5_14), .val (.int x6_22), .val (.int x7_33), .val (.int x8_42), .val (.int x9_53), .val (.int x10_62), .val (.ref ob43), .val (.int (x6_22 + (1 : Int32))), .unset, .unset, .unset] [(.ref ob43), (.ref ob46), (.ref ob46)])
    have f47 : Arv Z h46 ob43 ka43 .int (2 : Int32) [(.int (0 : Int32)), (.int x5_14)] (.int (0 : Int32)) := V45.ext E46
    obtain ⟨_, _, ⟨T48, zL48, zk48, zn48⟩, -, X48, ⟨Lc48, hQ48, l48, y48, z48⟩, st48⟩ := X46.specialBack hx (y := (⟨"com/example/edgewarden/edgewarden/graph/Likeness", "<init>", "([I)V"⟩ : MethodName)) rfl hown (mvT hZ (wd_9 hw)) (mvT hZ (wd_10 hw)) (mvT hZ (wd_11 hw)) (by decide) (backOf (W := 1) (rmI2 l Z a0 hw [] ob46 ob43 ka43 (0 : Int32) x5_14 .null (.int (0 : Int32)) h46 n0 Zp46 A46 F_m_aClasses_ob46 F_m_nClassCount_ob46 g_ob46 f47 ne_ob43_ob46) hZ (wd_11 hw) (wd_8 hw) (by decide) (by decide)) (g := (mkF m 173 #[.val (.int p0), .val (.int p1), .val (.int p2), .val (.int p3), .val (.int (2 : Int32)), .val (.int x5_14), .val (.int x6_22), .val (.int x7_33), .val (.int x8_42), .val (.int x9_53), .val (.int x10_62), .val (.ref ob43), .val (.int (x6_22 + (1 : Int32))), .unset, .unset, .unset] [(.ref ob43), (.ref ob46), (.ref ob46)])) rfl (by rw [hml]; rfl) (Steps.refl _) (a := ob46) (argsL := [(.ref ob43)]) (rest := [(.ref ob46)]) (lenOf pd_2 rfl) rfl (by show 2 * 0 + _ ≤ _; exact Nat.le_of_eq rfl) (hb hby at_173) (fun _ _ => ⟨rfl, e46, (by decide : 2 + 0 ≤ _), (by decide : 4 + 0 ≤ _)⟩)
    dsimp only [Pt.U, Pt.locs, Pt.cells, Pt.slots] at X48 l48 y48 z48 st48 hQ48
    subst l48 y48 z48
    obtain ⟨rfl, N48q, Kq48, p48_0, p48_1, p48_2⟩ := hQ48
    have N48 := Fr.app N45 N48q
    refine own_on st48 ?_
    have Zp48 : n0 ≤ T48.heap.size := Nat.le_trans Zp46 Kq48.1
    show own_G p e below Φ T48 (mkF m 176 #[.val (.int p0), .val (.int p1), .val (.int p2), .val (.int p3), .val (.int (2 : Int32)), .val (.int x5_14), .val (.int x6_22), .val (.int x7_33), .val (.int x8_42), .val (.int x9_53), .val (.int x10_62), .val (.ref ob43), .val (.int (x6_22 + (1 : Int32))), .unset, .unset, .unset] [(.ref ob46)])
    refine own_go (fun _ => XS.astore X48.here hx rfl (hb hby at_176) rfl rfl (l' := #[.val (.int p0), .val (.int p1), .val (.int p2), .val (.int p3), .val (.int (2 : Int32)), .val (.int x5_14), .val (.int x6_22), .val (.int x7_33), .val (.int x8_42), .val (.int x9_53), .val (.int x10_62), .val (.ref ob43), .val (.int (x6_22 + (1 : Int32))), .val (.ref ob46), .unset, .unset]) rfl) ?_
    show own_G p e below Φ T48 (mkF m 178 #[.val (.int p0), .val (.int p1), .val (.int p2), .val (.int p3), .val (.int (2 : Int32)), .val (.int x5_14), .val (.int x6_22), .val (.int x7_33), .val (.int x8_42), .val (.int x9_53), .val (.int x10_62), .val (.ref ob43), .val (.int (x6_22 + (1 : Int32))), .val (.ref ob46), .unset, .unset] [])
    refine own_go (fun _ => XS.aload X48.here hx rfl (hb hby at_178) rfl rfl) ?_
    show own_G p e below Φ T48 (mkF m 180 #[.val (.int p0), .val (.int p1), .val (.int p2), .val (.int p3), .val (.int (2 : Int32)), .val (.int x5_14), .val (.int x6_22), .val (.int x7_33), .val (.int x8_42), .val (.int x9_53), .val (.int x10_62), .val (.ref ob43), .val (.int (x6_22 + (1 : Int32))), .val (.ref ob46), .unset, .unset] [(.ref ob46)])
    have f49 : Arv Z T48.heap ob43 ka43 .int (2 : Int32) [(.int (0 : Int32)), (.int x5_14)] (.int (0 : Int32)) := f47.keep Kq48 (ninS ne_ob43_ob46 nin0)
    obtain ⟨cq50, kq50, q50a, q50b, q50c⟩ := isOf hZ rfl p48_0
    obtain ⟨_, _, ⟨T50, zL50, zk50, zn50⟩, -, X50, ⟨Lc50, hQ50, l50, y50, z50⟩, st50⟩ := X48.virtualBack hx (y := (⟨"com/example/edgewarden/edgewarden/graph/Likeness", "getClassSizes", "()[I"⟩ : MethodName)) (z := (⟨"com/example/edgewarden/edgewarden/graph/Likeness", "getClassSizes", "()[I"⟩ : MethodName)) hown (mvT hZ (wd_19 hw)) (mvT hZ (wd_20 hw)) (notFace_of_selects (args := #[]) (mvT hZ (wd_22 hw))) (mvT hZ (wd_22 hw)) (mvT hZ (wd_21 hw)) (by decide) (backOf (W := 0) (rmS2 l Z a0 hw [] ob46 ob43 ka43 (own_max (own_max (0 : Int32) ((0 : Int32) + (1 : Int32))) (x5_14 + (1 : Int32))) (0 : Int32) x5_14 T48.heap n0 Zp48 p48_2 p48_1 f49 (own_use (P := fun t => ¬ (own_max (own_max (0 : Int32) ((0 : Int32) + (1 : Int32))) (t.1 + (1 : Int32))) < 0) (by decide +kernel) hall) (own_use (P := fun t => ((own_max (own_max (0 : Int32) ((0 : Int32) + (1 : Int32))) (t.1 + (1 : Int32)))).toNatClampNeg ≤ 5) (by decide +kernel) hall) (own_use (P := fun t => ¬ (0 : Int32) < 0 ∧ (0 : Int32) < (own_max (own_max (0 : Int32) ((0 : Int32) + (1 : Int32))) (t.1 + (1 : Int32)))) (by decide +kernel) hall) (own_use (P := fun t => ¬ t.1 < 0 ∧ t.1 < (own_max (own_max (0 : Int32) ((0 : Int32) + (1 : Int32))) (t.1 + (1 : Int32)))) (by decide +kernel) hall)) hZ (wd_23 hw) (wd_8 hw) (by decide) (by decide)) q50a q50c (g := (mkF m 180 #[.val (.int p0), .val (.int p1), .val (.int p2), .val (.int p3), .val (.int (2 : Int32)), .val (.int x5_14), .val (.int x6_22), .val (.int x7_33), .val (.int x8_42), .val (.int x9_53), .val (.int x10_62), .val (.ref ob43), .val (.int (x6_22 + (1 : Int32))), .val (.ref ob46), .unset, .unset] [(.ref ob46)])) rfl (by rw [hml]; rfl) (Steps.refl _) (argsL := []) (rest := []) (lenOf pd_3 rfl) rfl (by show 2 * 0 + _ ≤ _; exact Nat.le_of_eq rfl) (hb hby at_180) (fun _ _ => ⟨rfl, rfl, (by decide : 2 + 1 ≤ _), (by decide : 4 + 5 ≤ _)⟩)
    dsimp only [Pt.U, Pt.locs, Pt.cells, Pt.slots] at X50 l50 y50 z50 st50 hQ50
    subst l50 y50 z50
    obtain ⟨b_50, ns_b_50, kb_50, rfl, N50q, Kq50, p50_0⟩ := hQ50
    have N50 := Fr.app N48 N50q
    refine own_on st50 ?_
    have ne_ob43_b_50 : ob43 ≠ b_50 := Nat.ne_of_lt (Nat.lt_of_lt_of_le f49.lt ns_b_50)
    have ne_ob46_b_50 : ob46 ≠ b_50 := Nat.ne_of_lt (Nat.lt_of_lt_of_le p48_0.lt ns_b_50)
    have g_b_50 : n0 ≤ b_50 := Nat.le_trans Zp48 ns_b_50
    have Zp50 : n0 ≤ T50.heap.size := Nat.le_trans Zp48 Kq50.1
    show own_G p e below Φ T50 (mkF m 183 #[.val (.int p0), .val (.int p1), .val (.int p2), .val (.int p3), .val (.int (2 : Int32)), .val (.int x5_14), .val (.int x6_22), .val (.int x7_33), .val (.int x8_42), .val (.int x9_53), .val (.int x10_62), .val (.ref ob43), .val (.int (x6_22 + (1 : Int32))), .val (.ref ob46), .unset, .unset] [(.ref b_50)])
    refine own_go (fun _ => XS.astore X50.here hx rfl (hb hby at_183) rfl rfl (l' := #[.val (.int p0), .val (.int p1), .val (.int p2), .val (.int p3), .val (.int (2 : Int32)), .val (.int x5_14), .val (.int x6_22), .val (.int x7_33), .val (.int x8_42), .val (.int x9_53), .val (.int x10_62), .val (.ref ob43), .val (.int (x6_22 + (1 : Int32))), .val (.ref ob46), .val (.ref b_50), .unset]) rfl) ?_
    show own_G p e below Φ T50 (mkF m 185 #[.val (.int p0), .val (.int p1), .val (.int p2), .val (.int p3), .val (.int (2 : Int32)), .val (.int x5_14), .val (.int x6_22), .val (.int x7_33), .val (.int x8_42), .val (.int x9_53), .val (.int x10_62), .val (.ref ob43), .val (.int (x6_22 + (1 : Int32))), .val (.ref ob46), .val (.ref b_50), .unset] [])
    refine own_go (fun _ => XS.aload X50.here hx rfl (hb hby at_185) rfl rfl) ?_
    show own_G p e below Φ T50 (mkF m 187 #[.val (.int p0), .val (.int p1), .val (.int p2), .val (.int p3), .val (.int (2 : Int32)), .val (.int x5_14), .val (.int x6_22), .val (.int x7_33), .val (.int x8_42), .val (.int x9_53), .val (.int x10_62), .val (.ref ob43), .val (.int (x6_22 + (1 : Int32))), .val (.ref ob46), .val (.ref b_50), .unset] [(.ref ob46)])
    have f51 : Fld Z T50.heap ob46 "com/example/edgewarden/edgewarden/graph/Likeness" "m_nClassCount" "I" (.int (own_max (own_max (0 : Int32) ((0 : Int32) + (1 : Int32))) (x5_14 + (1 : Int32)))) := p48_2.keep Kq50 nin0
    have f52 : Fld Z T50.heap ob46 "com/example/edgewarden/edgewarden/graph/Likeness" "m_aClasses" "[I" (.ref ob43) := p48_1.keep Kq50 nin0
    have f53 : Arv Z T50.heap ob43 ka43 .int (2 : Int32) [(.int (0 : Int32)), (.int x5_14)] (.int (0 : Int32)) := f49.keep Kq50 nin0
    have f55 : Exa Z T50.heap ob46 "com/example/edgewarden/edgewarden/graph/Likeness" := p48_0.keep Kq50
    obtain ⟨cq54, kq54, q54a, q54b, q54c⟩ := isOf hZ rfl f55
    obtain ⟨_, _, ⟨T54, zL54, zk54, zn54⟩, -, X54, ⟨Lc54, hQ54, l54, y54, z54⟩, st54⟩ := X50.virtualBack hx (y := (⟨"com/example/edgewarden/edgewarden/graph/Likeness", "getClassSizes", "()[I"⟩ : MethodName)) (z := (⟨"com/example/edgewarden/edgewarden/graph/Likeness", "getClassSizes", "()[I"⟩ : MethodName)) hown (mvT hZ (wd_19 hw)) (mvT hZ (wd_20 hw)) (notFace_of_selects (args := #[]) (mvT hZ (wd_22 hw))) (mvT hZ (wd_22 hw)) (mvT hZ (wd_21 hw)) (by decide) (backOf (W := 0) (rmS2 l Z a0 hw [] ob46 ob43 ka43 (own_max (own_max (0 : Int32) ((0 : Int32) + (1 : Int32))) (x5_14 + (1 : Int32))) (0 : Int32) x5_14 T50.heap n0 Zp50 f51 f52 f53 (own_use (P := fun t => ¬ (own_max (own_max (0 : Int32) ((0 : Int32) + (1 : Int32))) (t.1 + (1 : Int32))) < 0) (by decide +kernel) hall) (own_use (P := fun t => ((own_max (own_max (0 : Int32) ((0 : Int32) + (1 : Int32))) (t.1 + (1 : Int32)))).toNatClampNeg ≤ 5) (by decide +kernel) hall) (own_use (P := fun t => ¬ (0 : Int32) < 0 ∧ (0 : Int32) < (own_max (own_max (0 : Int32) ((0 : Int32) + (1 : Int32))) (t.1 + (1 : Int32)))) (by decide +kernel) hall) (own_use (P := fun t => ¬ t.1 < 0 ∧ t.1 < (own_max (own_max (0 : Int32) ((0 : Int32) + (1 : Int32))) (t.1 + (1 : Int32)))) (by decide +kernel) hall)) hZ (wd_23 hw) (wd_8 hw) (by decide) (by decide)) q54a q54c (g := (mkF m 187 #[.val (.int p0), .val (.int p1), .val (.int p2), .val (.int p3), .val (.int (2 : Int32)), .val (.int x5_14), .val (.int x6_22), .val (.int x7_33), .val (.int x8_42), .val (.int x9_53), .val (.int x10_62), .val (.ref ob43), .val (.int (x6_22 + (1 : Int32))), .val (.ref ob46), .val (.ref b_50), .unset] [(.ref ob46)])) rfl (by rw [hml]; rfl) (Steps.refl _) (argsL := []) (rest := []) (lenOf pd_3 rfl) rfl (by show 2 * 0 + _ ≤ _; exact Nat.le_of_eq rfl) (hb hby at_187) (fun _ _ => ⟨rfl, rfl, (by decide : 3 + 1 ≤ _), (by decide : 9 + 5 ≤ _)⟩)
    dsimp only [Pt.U, Pt.locs, Pt.cells, Pt.slots] at X54 l54 y54 z54 st54 hQ54
    subst l54 y54 z54
    obtain ⟨b_54, ns_b_54, kb_54, rfl, N54q, Kq54, p54_0⟩ := hQ54
    have N54 := Fr.app N50 N54q
    refine own_on st54 ?_
    have ne_ob43_b_54 : ob43 ≠ b_54 := Nat.ne_of_lt (Nat.lt_of_lt_of_le f53.lt ns_b_54)
    have ne_ob46_b_54 : ob46 ≠ b_54 := Nat.ne_of_lt (Nat.lt_of_lt_of_le f55.lt ns_b_54)
    have ne_b_50_b_54 : b_50 ≠ b_54 := Nat.ne_of_lt (Nat.lt_of_lt_of_le p50_0.lt ns_b_54)
    have g_b_54 : n0 ≤ b_54 := Nat.le_trans Zp50 ns_b_54
    have Zp54 : n0 ≤ T54.heap.size := Nat.le_trans Zp50 Kq54.1
    show own_G p e below Φ T54 (mkF m 190 #[.val (.int p0), .val (.int p1), .val (.int p2), .val (.int p3), .val (.int (2 : Int32)), .val (.int x5_14), .val (.int x6_22), .val (.int x7_33), .val (.int x8_42), .val (.int x9_53), .val (.int x10_62), .val (.ref ob43), .val (.int (x6_22 + (1 : Int32))), .val (.ref ob46), .val (.ref b_50), .unset] [(.ref b_54)])
    refine own_go (fun _ => XS.astore X54.here hx rfl (hb hby at_190) rfl rfl (l' := #[.val (.int p0), .val (.int p1), .val (.int p2), .val (.int p3), .val (.int (2 : Int32)), .val (.int x5_14), .val (.int x6_22), .val (.int x7_33), .val (.int x8_42), .val (.int x9_53), .val (.int x10_62), .val (.ref ob43), .val (.int (x6_22 + (1 : Int32))), .val (.ref ob46), .val (.ref b_50), .val (.ref b_54)]) rfl) ?_
    show own_G p e below Φ T54 (mkF m 192 #[.val (.int p0), .val (.int p1), .val (.int p2), .val (.int p3), .val (.int (2 : Int32)), .val (.int x5_14), .val (.int x6_22), .val (.int x7_33), .val (.int x8_42), .val (.int x9_53), .val (.int x10_62), .val (.ref ob43), .val (.int (x6_22 + (1 : Int32))), .val (.ref ob46), .val (.ref b_50), .val (.ref b_54)] [])
    refine own_go (fun _ => XS.aload X54.here hx rfl (hb hby at_192) rfl rfl) ?_
    show own_G p e below Φ T54 (mkF m 194 #[.val (.int p0), .val (.int p1), .val (.int p2), .val (.int p3), .val (.int (2 : Int32)), .val (.int x5_14), .val (.int x6_22), .val (.int x7_33), .val (.int x8_42), .val (.int x9_53), .val (.int x10_62), .val (.ref ob43), .val (.int (x6_22 + (1 : Int32))), .val (.ref ob46), .val (.ref b_50), .val (.ref b_54)] [(.ref b_50)])
    refine own_go (fun _ => XS.aload X54.here hx rfl (hb hby at_194) rfl rfl) ?_
    show own_G p e below Φ T54 (mkF m 196 #[.val (.int p0), .val (.int p1), .val (.int p2), .val (.int p3), .val (.int (2 : Int32)), .val (.int x5_14), .val (.int x6_22), .val (.int x7_33), .val (.int x8_42), .val (.int x9_53), .val (.int x10_62), .val (.ref ob43), .val (.int (x6_22 + (1 : Int32))), .val (.ref ob46), .val (.ref b_50), .val (.ref b_54)] [(.ref b_54), (.ref b_50)])
    refine own_go (fun _ => Jvm.RoadKit.acmp (g := (mkF m 196 #[.val (.int p0), .val (.int p1), .val (.int p2), .val (.int p3), .val (.int (2 : Int32)), .val (.int x5_14), .val (.int x6_22), .val (.int x7_33), .val (.int x8_42), .val (.int x9_53), .val (.int x10_62), .val (.ref ob43), .val (.int (x6_22 + (1 : Int32))), .val (.ref ob46), .val (.ref b_50), .val (.ref b_54)] [(.ref b_54), (.ref b_50)])) X54 hx rfl rfl rfl (pc0 := 196) (pc' := 201) (same := false) rfl (hb hby at_196) rfl (decide_eq_false fun q => ne_b_50_b_54 (Value.ref.inj q)) (by decide) (by decide)) ?_
    show own_G p e below Φ T54 (mkF m 201 #[.val (.int p0), .val (.int p1), .val (.int p2), .val (.int p3), .val (.int (2 : Int32)), .val (.int x5_14), .val (.int x6_22), .val (.int x7_33), .val (.int x8_42), .val (.int x9_53), .val (.int x10_62), .val (.ref ob43), .val (.int (x6_22 + (1 : Int32))), .val (.ref ob46), .val (.ref b_50), .val (.ref b_54)] [])
    refine own_go (fun _ => XS.aload X54.here hx rfl (hb hby at_201) rfl rfl) ?_
    show own_G p e below Φ T54 (mkF m 203 #[.val (.int p0), .val (.int p1), .val (.int p2), .val (.int p3), .val (.int (2 : Int32)), .val (.int x5_14), .val (.int x6_22), .val (.int x7_33), .val (.int x8_42), .val (.int x9_53), .val (.int x10_62), .val (.ref ob43), .val (.int (x6_22 + (1 : Int32))), .val (.ref ob46), .val (.ref b_50), .val (.ref b_54)] [(.ref b_50)])
    have f56 : Arv Z T54.heap b_50 kb_50 .int (own_max (own_max (0 : Int32) ((0 : Int32) + (1 : Int32))) (x5_14 + (1 : Int32))) (own_vs (own_inc (own_inc (own_zeros (own_max (own_max (0 : Int32) ((0 : Int32) + (1 : Int32))) (x5_14 + (1 : Int32)))) (0 : Int32)) x5_14)) (.int (0 : Int32)) := p50_0.keep Kq54 nin0
    obtain ⟨cl57, Ar57, q57, S57, M57, H57, G57⟩ := id f56
    refine own_go (fun _ => X54.arraylength hx Ar57.1 (State.isArrayOf_alike hZ.alike Ar57.2.1) (g := (mkF m 203 #[.val (.int p0), .val (.int p1), .val (.int p2), .val (.int p3), .val (.int (2 : Int32)), .val (.int x5_14), .val (.int x6_22), .val (.int x7_33), .val (.int x8_42), .val (.int x9_53), .val (.int x10_62), .val (.ref ob43), .val (.int (x6_22 + (1 : Int32))), .val (.ref ob46), .val (.ref b_50), .val (.ref b_54)] [(.ref b_50)])) rfl rfl (hb hby at_203) _) ?_
    rw [len_of S57 M57]
    show own_G p e below Φ T54 (mkF m 204 #[.val (.int p0), .val (.int p1), .val (.int p2), .val (.int p3), .val (.int (2 : Int32)), .val (.int x5_14), .val (.int x6_22), .val (.int x7_33), .val (.int x8_42), .val (.int x9_53), .val (.int x10_62), .val (.ref ob43), .val (.int (x6_22 + (1 : Int32))), .val (.ref ob46), .val (.ref b_50), .val (.ref b_54)] [(.int (own_max (own_max (0 : Int32) ((0 : Int32) + (1 : Int32))) (x5_14 + (1 : Int32))))])
    refine own_go (fun _ => XS.iload X54.here hx rfl (hb hby at_204) rfl) ?_
    show own_G p e below Φ T54 (mkF m 206 #[.val (.int p0), .val (.int p1), .val (.int p2), .val (.int p3), .val (.int (2 : Int32)), .val (.int x5_14), .val (.int x6_22), .val (.int x7_33), .val (.int x8_42), .val (.int x9_53), .val (.int x10_62), .val (.ref ob43), .val (.int (x6_22 + (1 : Int32))), .val (.ref ob46), .val (.ref b_50), .val (.ref b_54)] [(.int (x6_22 + (1 : Int32))), (.int (own_max (own_max (0 : Int32) ((0 : Int32) + (1 : Int32))) (x5_14 + (1 : Int32))))])
    refine own_go (fun _ => XS.icmpNo X54.here hx rfl (hb hby at_206) rfl (Jvm.Free.XT.ii_ne_f (own_use (P := fun t => (own_max (own_max (0 : Int32) ((0 : Int32) + (1 : Int32))) (t.1 + (1 : Int32))) = (t.2.1 + (1 : Int32))) (by decide +kernel) hall))) ?_
    show own_G p e below Φ T54 (mkF m 209 #[.val (.int p0), .val (.int p1), .val (.int p2), .val (.int p3), .val (.int (2 : Int32)), .val (.int x5_14), .val (.int x6_22), .val (.int x7_33), .val (.int x8_42), .val (.int x9_53), .val (.int x10_62), .val (.ref ob43), .val (.int (x6_22 + (1 : Int32))), .val (.ref ob46), .val (.ref b_50), .val (.ref b_54)] [])
    refine own_go (fun _ => XS.aload X54.here hx rfl (hb hby at_209) rfl rfl) ?_
    show own_G p e below Φ T54 (mkF m 211 #[.val (.int p0), .val (.int p1), .val (.int p2), .val (.int p3), .val (.int (2 : Int32)), .val (.int x5_14), .val (.int x6_22), .val (.int x7_33), .val (.int x8_42), .val (.int x9_53), .val (.int x10_62), .val (.ref ob43), .val (.int (x6_22 + (1 : Int32))), .val (.ref ob46), .val (.ref b_50), .val (.ref b_54)] [(.ref b_54)])
    obtain ⟨cl58, Ar58, q58, S58, M58, H58, G58⟩ := id p54_0
    refine own_go (fun _ => X54.arraylength hx Ar58.1 (State.isArrayOf_alike hZ.alike Ar58.2.1) (g := (mkF m 211 #[.val (.int p0), .val (.int p1), .val (.int p2), .val (.int p3), .val (.int (2 : Int32)), .val (.int x5_14), .val (.int x6_22), .val (.int x7_33), .val (.int x8_42), .val (.int x9_53), .val (.int x10_62), .val (.ref ob43), .val (.int (x6_22 + (1 : Int32))), .val (.ref ob46), .val (.ref b_50), .val (.ref b_54)] [(.ref b_54)])) rfl rfl (hb hby at_211) _) ?_
    rw [len_of S58 M58]
    show own_G p e below Φ T54 (mkF m 212 #[.val (.int p0), .val (.int p1), .val (.int p2), .val (.int p3), .val (.int (2 : Int32)), .val (.int x5_14), .val (.int x6_22), .val (.int x7_33), .val (.int x8_42), .val (.int x9_53), .val (.int x10_62), .val (.ref ob43), .val (.int (x6_22 + (1 : Int32))), .val (.ref ob46), .val (.ref b_50), .val (.ref b_54)] [(.int (own_max (own_max (0 : Int32) ((0 : Int32) + (1 : Int32))) (x5_14 + (1 : Int32))))])
    refine own_go (fun _ => XS.iload X54.here hx rfl (hb hby at_212) rfl) ?_
    show own_G p e below Φ T54 (mkF m 214 #[.val (.int p0), .val (.int p1), .val (.int p2), .val (.int p3), .val (.int (2 : Int32)), .val (.int x5_14), .val (.int x6_22), .val (.int x7_33), .val (.int x8_42), .val (.int x9_53), .val (.int x10_62), .val (.ref ob43), .val (.int (x6_22 + (1 : Int32))), .val (.ref ob46), .val (.ref b_50), .val (.ref b_54)] [(.int (x6_22 + (1 : Int32))), (.int (own_max (own_max (0 : Int32) ((0 : Int32) + (1 : Int32))) (x5_14 + (1 : Int32))))])
    refine own_go (fun _ => XS.icmpYes X54.here hx rfl (pc0 := 214) (pc' := 219) rfl (hb hby at_214) rfl (Jvm.Free.XT.ii_eq_t (own_use (P := fun t => (own_max (own_max (0 : Int32) ((0 : Int32) + (1 : Int32))) (t.1 + (1 : Int32))) = (t.2.1 + (1 : Int32))) (by decide +kernel) hall)) (by decide) (by decide)) ?_
    show own_G p e below Φ T54 (mkF m 219 #[.val (.int p0), .val (.int p1), .val (.int p2), .val (.int p3), .val (.int (2 : Int32)), .val (.int x5_14), .val (.int x6_22), .val (.int x7_33), .val (.int x8_42), .val (.int x9_53), .val (.int x10_62), .val (.ref ob43), .val (.int (x6_22 + (1 : Int32))), .val (.ref ob46), .val (.ref b_50), .val (.ref b_54)] [])
    refine own_go (fun _ => XS.iload X54.here hx rfl (hb hby at_219) rfl) ?_
    show own_G p e below Φ T54 (mkF m 221 #[.val (.int p0), .val (.int p1), .val (.int p2), .val (.int p3), .val (.int (2 : Int32)), .val (.int x5_14), .val (.int x6_22), .val (.int x7_33), .val (.int x8_42), .val (.int x9_53), .val (.int x10_62), .val (.ref ob43), .val (.int (x6_22 + (1 : Int32))), .val (.ref ob46), .val (.ref b_50), .val (.ref b_54)] [(.int (2 : Int32))])
    refine own_go (fun _ => XS.ifNo X54.here hx rfl (hb hby at_221) rfl (Jvm.Free.XT.i0_le_f (by decide : ((0 : Int32) < (2 : Int32))))) ?_
    show own_G p e below Φ T54 (mkF m 224 #[.val (.int p0), .val (.int p1), .val (.int p2), .val (.int p3), .val (.int (2 : Int32)), .val (.int x5_14), .val (.int x6_22), .val (.int x7_33), .val (.int x8_42), .val (.int x9_53), .val (.int x10_62), .val (.ref ob43), .val (.int (x6_22 + (1 : Int32))), .val (.ref ob46), .val (.ref b_50), .val (.ref b_54)] [])
    refine own_go (fun _ => XS.aload X54.here hx rfl (hb hby at_224) rfl rfl) ?_
    show own_G p e below Φ T54 (mkF m 226 #[.val (.int p0), .val (.int p1), .val (.int p2), .val (.int p3), .val (.int (2 : Int32)), .val (.int x5_14), .val (.int x6_22), .val (.int x7_33), .val (.int x8_42), .val (.int x9_53), .val (.int x10_62), .val (.ref ob43), .val (.int (x6_22 + (1 : Int32))), .val (.ref ob46), .val (.ref b_50), .val (.ref b_54)] [(.ref ob43)])
    refine own_go (fun _ => XS.iconst X54.here hx rfl (hb hby at_226)) ?_
    show own_G p e below Φ T54 (mkF m 227 #[.val (.int p0), .val (.int p1), .val (.int p2), .val (.int p3), .val (.int (2 : Int32)), .val (.int x5_14), .val (.int x6_22), .val (.int x7_33), .val (.int x8_42), .val (.int x9_53), .val (.int x10_62), .val (.ref ob43), .val (.int (x6_22 + (1 : Int32))), .val (.ref ob46), .val (.ref b_50), .val (.ref b_54)] [(.int (0 : Int32)), (.ref ob43)])
    have f59 : Arv Z T54.heap ob43 ka43 .int (2 : Int32) [(.int (0 : Int32)), (.int x5_14)] (.int (0 : Int32)) := f53.keep Kq54 nin0
    obtain ⟨cl60, Ar60, q60, S60, M60, H60, G60⟩ := id f59
    have hin60 : ¬ ((0 : Int32) < 0 ∨ cl60.slots.size ≤ ((0 : Int32)).toNatClampNeg) := inb_of S60 ⟨by decide, by decide⟩
    refine own_go (fun _ => X54.iaload hx (j := (0 : Int32)) (v := (.int (0 : Int32))) Ar60.1 (State.isArrayOf_alike hZ.alike Ar60.2.1) Ar60.2.2 hin60 (H60.at hin60 rfl) (g := (mkF m 227 #[.val (.int p0), .val (.int p1), .val (.int p2), .val (.int p3), .val (.int (2 : Int32)), .val (.int x5_14), .val (.int x6_22), .val (.int x7_33), .val (.int x8_42), .val (.int x9_53), .val (.int x10_62), .val (.ref ob43), .val (.int (x6_22 + (1 : Int32))), .val (.ref ob46), .val (.ref b_50), .val (.ref b_54)] [(.int (0 : Int32)), (.ref ob43)])) rfl rfl (hb hby at_227) _) ?_
    show own_G p e below Φ T54 (mkF m 228 #[.val (.int p0), .val (.int p1), .val (.int p2), .val (.int p3), .val (.int (2 : Int32)), .val (.int x5_14), .val (.int x6_22), .val (.int x7_33), .val (.int x8_42), .val (.int x9_53), .val (.int x10_62), .val (.ref ob43), .val (.int (x6_22 + (1 : Int32))), .val (.ref ob46), .val (.ref b_50), .val (.ref b_54)] [(.int (0 : Int32))])
    refine own_go (fun _ => XS.ifYes X54.here hx rfl (pc0 := 228) (pc' := 233) rfl (hb hby at_228) rfl (Jvm.Free.XT.i0_eq_t (by decide : ((0 : Int32) = (0 : Int32)))) (by decide) (by decide)) ?_
    show own_G p e below Φ T54 (mkF m 233 #[.val (.int p0), .val (.int p1), .val (.int p2), .val (.int p3), .val (.int (2 : Int32)), .val (.int x5_14), .val (.int x6_22), .val (.int x7_33), .val (.int x8_42), .val (.int x9_53), .val (.int x10_62), .val (.ref ob43), .val (.int (x6_22 + (1 : Int32))), .val (.ref ob46), .val (.ref b_50), .val (.ref b_54)] [])
    refine own_go (fun _ => XS.iload X54.here hx rfl (hb hby at_233) rfl) ?_
    show own_G p e below Φ T54 (mkF m 235 #[.val (.int p0), .val (.int p1), .val (.int p2), .val (.int p3), .val (.int (2 : Int32)), .val (.int x5_14), .val (.int x6_22), .val (.int x7_33), .val (.int x8_42), .val (.int x9_53), .val (.int x10_62), .val (.ref ob43), .val (.int (x6_22 + (1 : Int32))), .val (.ref ob46), .val (.ref b_50), .val (.ref b_54)] [(.int (2 : Int32))])
    refine own_go (fun _ => XS.iconst X54.here hx rfl (hb hby at_235)) ?_
    show own_G p e below Φ T54 (mkF m 236 #[.val (.int p0), .val (.int p1), .val (.int p2), .val (.int p3), .val (.int (2 : Int32)), .val (.int x5_14), .val (.int x6_22), .val (.int x7_33), .val (.int x8_42), .val (.int x9_53), .val (.int x10_62), .val (.ref ob43), .val (.int (x6_22 + (1 : Int32))), .val (.ref ob46), .val (.ref b_50), .val (.ref b_54)] [(.int (1 : Int32)), (.int (2 : Int32))])
    refine own_go (fun _ => XS.icmpNo X54.here hx rfl (hb hby at_236) rfl (Jvm.Free.XT.ii_le_f (by decide : ((1 : Int32) < (2 : Int32))))) ?_
    show own_G p e below Φ T54 (mkF m 239 #[.val (.int p0), .val (.int p1), .val (.int p2), .val (.int p3), .val (.int (2 : Int32)), .val (.int x5_14), .val (.int x6_22), .val (.int x7_33), .val (.int x8_42), .val (.int x9_53), .val (.int x10_62), .val (.ref ob43), .val (.int (x6_22 + (1 : Int32))), .val (.ref ob46), .val (.ref b_50), .val (.ref b_54)] [])
    refine own_go (fun _ => XS.aload X54.here hx rfl (hb hby at_239) rfl rfl) ?_
    show own_G p e below Φ T54 (mkF m 241 #[.val (.int p0), .val (.int p1), .val (.int p2), .val (.int p3), .val (.int (2 : Int32)), .val (.int x5_14), .val (.int x6_22), .val (.int x7_33), .val (.int x8_42), .val (.int x9_53), .val (.int x10_62), .val (.ref ob43), .val (.int (x6_22 + (1 : Int32))), .val (.ref ob46), .val (.ref b_50), .val (.ref b_54)] [(.ref ob43)])
    refine own_go (fun _ => XS.iconst X54.here hx rfl (hb hby at_241)) ?_
    show own_G p e below Φ T54 (mkF m 242 #[.val (.int p0), .val (.int p1), .val (.int p2), .val (.int p3), .val (.int (2 : Int32)), .val (.int x5_14), .val (.int x6_22), .val (.int x7_33), .val (.int x8_42), .val (.int x9_53), .val (.int x10_62), .val (.ref ob43), .val (.int (x6_22 + (1 : Int32))), .val (.ref ob46), .val (.ref b_50), .val (.ref b_54)] [(.int (1 : Int32)), (.ref ob43)])
    obtain ⟨cl61, Ar61, q61, S61, M61, H61, G61⟩ := id f59
    have hin61 : ¬ ((1 : Int32) < 0 ∨ cl61.slots.size ≤ ((1 : Int32)).toNatClampNeg) := inb_of S61 ⟨by decide, by decide⟩
    refine own_go (fun _ => X54.iaload hx (j := (1 : Int32)) (v := (.int x5_14)) Ar61.1 (State.isArrayOf_alike hZ.alike Ar61.2.1) Ar61.2.2 hin61 (H61.at hin61 rfl) (g := (mkF m 242 #[.val (.int p0), .val (.int p1), .val (.int p2), .val (.int p3), .val (.int (2 : Int32)), .val (.int x5_14), .val (.int x6_22), .val (.int x7_33), .val (.int x8_42), .val (.int x9_53), .val (.int x10_62), .val (.ref ob43), .val (.int (x6_22 + (1 : Int32))), .val (.ref ob46), .val (.ref b_50), .val (.ref b_54)] [(.int (1 : Int32)), (.ref ob43)])) rfl rfl (hb hby at_242) _) ?_
    show own_G p e below Φ T54 (mkF m 243 #[.val (.int p0), .val (.int p1), .val (.int p2), .val (.int p3), .val (.int (2 : Int32)), .val (.int x5_14), .val (.int x6_22), .val (.int x7_33), .val (.int x8_42), .val (.int x9_53), .val (.int x10_62), .val (.ref ob43), .val (.int (x6_22 + (1 : Int32))), .val (.ref ob46), .val (.ref b_50), .val (.ref b_54)] [(.int x5_14)])
    refine own_go (fun _ => XS.iload X54.here hx rfl (hb hby at_243) rfl) ?_
    show own_G p e below Φ T54 (mkF m 245 #[.val (.int p0), .val (.int p1), .val (.int p2), .val (.int p3), .val (.int (2 : Int32)), .val (.int x5_14), .val (.int x6_22), .val (.int x7_33), .val (.int x8_42), .val (.int x9_53), .val (.int x10_62), .val (.ref ob43), .val (.int (x6_22 + (1 : Int32))), .val (.ref ob46), .val (.ref b_50), .val (.ref b_54)] [(.int x5_14), (.int x5_14)])
    refine own_go (fun _ => XS.icmpYes X54.here hx rfl (pc0 := 245) (pc' := 250) rfl (hb hby at_245) rfl (Jvm.Free.XT.ii_eq_t (rfl : x5_14 = x5_14)) (by decide) (by decide)) ?_
    show own_G p e below Φ T54 (mkF m 250 #[.val (.int p0), .val (.int p1), .val (.int p2), .val (.int p3), .val (.int (2 : Int32)), .val (.int x5_14), .val (.int x6_22), .val (.int x7_33), .val (.int x8_42), .val (.int x9_53), .val (.int x10_62), .val (.ref ob43), .val (.int (x6_22 + (1 : Int32))), .val (.ref ob46), .val (.ref b_50), .val (.ref b_54)] [])
    refine own_go (fun _ => XS.iload X54.here hx rfl (hb hby at_250) rfl) ?_
    show own_G p e below Φ T54 (mkF m 252 #[.val (.int p0), .val (.int p1), .val (.int p2), .val (.int p3), .val (.int (2 : Int32)), .val (.int x5_14), .val (.int x6_22), .val (.int x7_33), .val (.int x8_42), .val (.int x9_53), .val (.int x10_62), .val (.ref ob43), .val (.int (x6_22 + (1 : Int32))), .val (.ref ob46), .val (.ref b_50), .val (.ref b_54)] [(.int (2 : Int32))])
    refine own_go (fun _ => XS.iconst X54.here hx rfl (hb hby at_252)) ?_
    show own_G p e below Φ T54 (mkF m 253 #[.val (.int p0), .val (.int p1), .val (.int p2), .val (.int p3), .val (.int (2 : Int32)), .val (.int x5_14), .val (.int x6_22), .val (.int x7_33), .val (.int x8_42), .val (.int x9_53), .val (.int x10_62), .val (.ref ob43), .val (.int (x6_22 + (1 : Int32))), .val (.ref ob46), .val (.ref b_50), .val (.ref b_54)] [(.int (2 : Int32)), (.int (2 : Int32))])
    refine own_go (fun _ => XS.icmpYes X54.here hx rfl (pc0 := 253) (pc' := 267) rfl (hb hby at_253) rfl (Jvm.Free.XT.ii_le_t (by decide : ¬ ((2 : Int32) < (2 : Int32)))) (by decide) (by decide)) ?_
    show own_G p e below Φ T54 (mkF m 267 #[.val (.int p0), .val (.int p1), .val (.int p2), .val (.int p3), .val (.int (2 : Int32)), .val (.int x5_14), .val (.int x6_22), .val (.int x7_33), .val (.int x8_42), .val (.int x9_53), .val (.int x10_62), .val (.ref ob43), .val (.int (x6_22 + (1 : Int32))), .val (.ref ob46), .val (.ref b_50), .val (.ref b_54)] [])
    refine own_go (fun _ => XS.iload X54.here hx rfl (hb hby at_267) rfl) ?_
    show own_G p e below Φ T54 (mkF m 269 #[.val (.int p0), .val (.int p1), .val (.int p2), .val (.int p3), .val (.int (2 : Int32)), .val (.int x5_14), .val (.int x6_22), .val (.int x7_33), .val (.int x8_42), .val (.int x9_53), .val (.int x10_62), .val (.ref ob43), .val (.int (x6_22 + (1 : Int32))), .val (.ref ob46), .val (.ref b_50), .val (.ref b_54)] [(.int (2 : Int32))])
    refine own_go (fun _ => XS.iconst X54.here hx rfl (hb hby at_269)) ?_
    show own_G p e below Φ T54 (mkF m 270 #[.val (.int p0), .val (.int p1), .val (.int p2), .val (.int p3), .val (.int (2 : Int32)), .val (.int x5_14), .val (.int x6_22), .val (.int x7_33), .val (.int x8_42), .val (.int x9_53), .val (.int x10_62), .val (.ref ob43), .val (.int (x6_22 + (1 : Int32))), .val (.ref ob46), .val (.ref b_50), .val (.ref b_54)] [(.int (3 : Int32)), (.int (2 : Int32))])
    refine own_go (fun _ => XS.icmpYes X54.here hx rfl (pc0 := 270) (pc' := 284) rfl (hb hby at_270) rfl (Jvm.Free.XT.ii_le_t (by decide : ¬ ((3 : Int32) < (2 : Int32)))) (by decide) (by decide)) ?_
    show own_G p e below Φ T54 (mkF m 284 #[.val (.int p0), .val (.int p1), .val (.int p2), .val (.int p3), .val (.int (2 : Int32)), .val (.int x5_14), .val (.int x6_22), .val (.int x7_33), .val (.int x8_42), .val (.int x9_53), .val (.int x10_62), .val (.ref ob43), .val (.int (x6_22 + (1 : Int32))), .val (.ref ob46), .val (.ref b_50), .val (.ref b_54)] [])
    refine own_go (fun _ => XS.aload X54.here hx rfl (hb hby at_284) rfl rfl) ?_
    show own_G p e below Φ T54 (mkF m 286 #[.val (.int p0), .val (.int p1), .val (.int p2), .val (.int p3), .val (.int (2 : Int32)), .val (.int x5_14), .val (.int x6_22), .val (.int x7_33), .val (.int x8_42), .val (.int x9_53), .val (.int x10_62), .val (.ref ob43), .val (.int (x6_22 + (1 : Int32))), .val (.ref ob46), .val (.ref b_50), .val (.ref b_54)] [(.ref b_50)])
    refine own_go (fun _ => XS.aload X54.here hx rfl (hb hby at_286) rfl rfl) ?_
    show own_G p e below Φ T54 (mkF m 288 #[.val (.int p0), .val (.int p1), .val (.int p2), .val (.int p3), .val (.int (2 : Int32)), .val (.int x5_14), .val (.int x6_22), .val (.int x7_33), .val (.int x8_42), .val (.int x9_53), .val (.int x10_62), .val (.ref ob43), .val (.int (x6_22 + (1 : Int32))), .val (.ref ob46), .val (.ref b_50), .val (.ref b_54)] [(.ref b_54), (.ref b_50)])
    refine own_go (fun _ => XS.iconst X54.here hx rfl (hb hby at_288)) ?_
    show own_G p e below Φ T54 (mkF m 289 #[.val (.int p0), .val (.int p1), .val (.int p2), .val (.int p3), .val (.int (2 : Int32)), .val (.int x5_14), .val (.int x6_22), .val (.int x7_33), .val (.int x8_42), .val (.int x9_53), .val (.int x10_62), .val (.ref ob43), .val (.int (x6_22 + (1 : Int32))), .val (.ref ob46), .val (.ref b_50), .val (.ref b_54)] [(.int (0 : Int32)), (.ref b_54), (.ref b_50)])
    refine own_go (fun _ => XS.iload X54.here hx rfl (hb hby at_289) rfl) ?_
    show own_G p e below Φ T54 (mkF m 291 #[.val (.int p0), .val (.int p1), .val (.int p2), .val (.int p3), .val (.int (2 : Int32)), .val (.int x5_14), .val (.int x6_22), .val (.int x7_33), .val (.int x8_42), .val (.int x9_53), .val (.int x10_62), .val (.ref ob43), .val (.int (x6_22 + (1 : Int32))), .val (.ref ob46), .val (.ref b_50), .val (.ref b_54)] [(.int (2 : Int32)), (.int (0 : Int32)), (.ref b_54), (.ref b_50)])
    refine own_go (fun _ => XS.iconst X54.here hx rfl (hb hby at_291)) ?_
    show own_G p e below Φ T54 (mkF m 292 #[.val (.int p0), .val (.int p1), .val (.int p2), .val (.int p3), .val (.int (2 : Int32)), .val (.int x5_14), .val (.int x6_22), .val (.int x7_33), .val (.int x8_42), .val (.int x9_53), .val (.int x10_62), .val (.ref ob43), .val (.int (x6_22 + (1 : Int32))), .val (.ref ob46), .val (.ref b_50), .val (.ref b_54)] [(.int (0 : Int32)), (.int (2 : Int32)), (.int (0 : Int32)), (.ref b_54), (.ref b_50)])
    refine own_go (fun _ => XS.iload X54.here hx rfl (hb hby at_292) rfl) ?_
    show own_G p e below Φ T54 (mkF m 294 #[.val (.int p0), .val (.int p1), .val (.int p2), .val (.int p3), .val (.int (2 : Int32)), .val (.int x5_14), .val (.int x6_22), .val (.int x7_33), .val (.int x8_42), .val (.int x9_53), .val (.int x10_62), .val (.ref ob43), .val (.int (x6_22 + (1 : Int32))), .val (.ref ob46), .val (.ref b_50), .val (.ref b_54)] [(.int x5_14), (.int (0 : Int32)), (.int (2 : Int32)), (.int (0 : Int32)), (.ref b_54), (.ref b_50)])
    refine own_go (fun _ => XS.iload X54.here hx rfl (hb hby at_294) rfl) ?_
    show own_G p e below Φ T54 (mkF m 296 #[.val (.int p0), .val (.int p1), .val (.int p2), .val (.int p3), .val (.int (2 : Int32)), .val (.int x5_14), .val (.int x6_22), .val (.int x7_33), .val (.int x8_42), .val (.int x9_53), .val (.int x10_62), .val (.ref ob43), .val (.int (x6_22 + (1 : Int32))), .val (.ref ob46), .val (.ref b_50), .val (.ref b_54)] [(.int x7_33), (.int x5_14), (.int (0 : Int32)), (.int (2 : Int32)), (.int (0 : Int32)), (.ref b_54), (.ref b_50)])
    refine own_go (fun _ => XS.iload X54.here hx rfl (hb hby at_296) rfl) ?_
    show own_G p e below Φ T54 (mkF m 298 #[.val (.int p0), .val (.int p1), .val (.int p2), .val (.int p3), .val (.int (2 : Int32)), .val (.int x5_14), .val (.int x6_22), .val (.int x7_33), .val (.int x8_42), .val (.int x9_53), .val (.int x10_62), .val (.ref ob43), .val (.int (x6_22 + (1 : Int32))), .val (.ref ob46), .val (.ref b_50), .val (.ref b_54)] [(.int x9_53), (.int x7_33), (.int x5_14), (.int (0 : Int32)), (.int (2 : Int32)), (.int (0 : Int32)), (.ref b_54), (.ref b_50)])
    obtain ⟨_, _, ⟨T62, zL62, zk62, zn62⟩, -, X62, ⟨Lc62, hQ62, l62, y62, z62⟩, st62⟩ := Jvm.LawKit.callS X54 hx (y := (⟨"com/example/edgewarden/edgewarden/graph/LikenessGetClassSizesPinLaw", "sizeOk", "([I[IIIIIII)Z"⟩ : MethodName)) hown (mvT hZ (wd_24 hw)) (mvT hZ (wd_25 hw)) (mvT hZ (wd_26 hw)) (mvT hZ (wd_27 hw)) (by decide) (backOf (W := 0) (rmK l Z a0 hw [] b_50 b_54 kb_50 kb_54 (own_max (own_max (0 : Int32) ((0 : Int32) + (1 : Int32))) (x5_14 + (1 : Int32))) (own_inc (own_inc (own_zeros (own_max (own_max (0 : Int32) ((0 : Int32) + (1 : Int32))) (x5_14 + (1 : Int32)))) (0 : Int32)) x5_14) (0 : Int32) (2 : Int32) (0 : Int32) x5_14 x7_33 x9_53 T54.heap n0 Zp54 f56 p54_0 (by decide) (own_use (P := fun t => (0 : Int32) < (own_max (own_max (0 : Int32) ((0 : Int32) + (1 : Int32))) (t.1 + (1 : Int32))) → ((own_inc (own_inc (own_zeros (own_max (own_max (0 : Int32) ((0 : Int32) + (1 : Int32))) (t.1 + (1 : Int32)))) (0 : Int32)) t.1)).getD ((0 : Int32)).toNatClampNeg 0 = own_cnt (0 : Int32) (2 : Int32) (0 : Int32) t.1 t.2.2.1 t.2.2.2.2.1) (by decide +kernel) hall)) hZ (wd_27 hw) (wd_26 hw) (by decide) (by decide)) (g := (mkF m 298 #[.val (.int p0), .val (.int p1), .val (.int p2), .val (.int p3), .val (.int (2 : Int32)), .val (.int x5_14), .val (.int x6_22), .val (.int x7_33), .val (.int x8_42), .val (.int x9_53), .val (.int x10_62), .val (.ref ob43), .val (.int (x6_22 + (1 : Int32))), .val (.ref ob46), .val (.ref b_50), .val (.ref b_54)] [(.int x9_53), (.int x7_33), (.int x5_14), (.int (0 : Int32)), (.int (2 : Int32)), (.int (0 : Int32)), (.ref b_54), (.ref b_50)])) rfl (by rw [hml]; rfl) (argsL := [(.ref b_50), (.ref b_54), (.int (0 : Int32)), (.int (2 : Int32)), (.int (0 : Int32)), (.int x5_14), (.int x7_33), (.int x9_53)]) (rest := []) (lenOf pd_4 rfl) rfl (by show 2 * 0 + _ ≤ _; exact Nat.le_of_eq rfl) (hb hby at_298) (fun _ _ => ⟨rfl, rfl, (by decide : 4 + 0 ≤ _), (by decide : 14 + 0 ≤ _)⟩)
    dsimp only [Pt.U, Pt.locs, Pt.cells, Pt.slots] at X62 l62 y62 z62 st62 hQ62
    subst l62 y62 z62
    obtain ⟨rfl, N62q, hs62⟩ := hQ62
    have N62 := Fr.app N54 N62q
    refine own_go st62 ?_
    show own_G p e below Φ T62 (mkF m 301 #[.val (.int p0), .val (.int p1), .val (.int p2), .val (.int p3), .val (.int (2 : Int32)), .val (.int x5_14), .val (.int x6_22), .val (.int x7_33), .val (.int x8_42), .val (.int x9_53), .val (.int x10_62), .val (.ref ob43), .val (.int (x6_22 + (1 : Int32))), .val (.ref ob46), .val (.ref b_50), .val (.ref b_54)] [(.int (1 : Int32))])
    refine own_go (fun _ => XS.ifNo X62.here hx rfl (hb hby at_301) rfl (Jvm.Free.XT.i0_eq_f (by decide : ¬ ((1 : Int32) = (0 : Int32))))) ?_
    show own_G p e below Φ T62 (mkF m 304 #[.val (.int p0), .val (.int p1), .val (.int p2), .val (.int p3), .val (.int (2 : Int32)), .val (.int x5_14), .val (.int x6_22), .val (.int x7_33), .val (.int x8_42), .val (.int x9_53), .val (.int x10_62), .val (.ref ob43), .val (.int (x6_22 + (1 : Int32))), .val (.ref ob46), .val (.ref b_50), .val (.ref b_54)] [])
    refine own_go (fun _ => XS.aload X62.here hx rfl (hb hby at_304) rfl rfl) ?_
    show own_G p e below Φ T62 (mkF m 306 #[.val (.int p0), .val (.int p1), .val (.int p2), .val (.int p3), .val (.int (2 : Int32)), .val (.int x5_14), .val (.int x6_22), .val (.int x7_33), .val (.int x8_42), .val (.int x9_53), .val (.int x10_62), .val (.ref ob43), .val (.int (x6_22 + (1 : Int32))), .val (.ref ob46), .val (.ref b_50), .val (.ref b_54)] [(.ref b_50)])
    refine own_go (fun _ => XS.aload X62.here hx rfl (hb hby at_306) rfl rfl) ?_
    show own_G p e below Φ T62 (mkF m 308 #[.val (.int p0), .val (.int p1), .val (.int p2), .val (.int p3), .val (.int (2 : Int32)), .val (.int x5_14), .val (.int x6_22), .val (.int x7_33), .val (.int x8_42), .val (.int x9_53), .val (.int x10_62), .val (.ref ob43), .val (.int (x6_22 + (1 : Int32))), .val (.ref ob46), .val (.ref b_50), .val (.ref b_54)] [(.ref b_54), (.ref b_50)])
    refine own_go (fun _ => XS.iconst X62.here hx rfl (hb hby at_308)) ?_
    show own_G p e below Φ T62 (mkF m 309 #[.val (.int p0), .val (.int p1), .val (.int p2), .val (.int p3), .val (.int (2 : Int32)), .val (.int x5_14), .val (.int x6_22), .val (.int x7_33), .val (.int x8_42), .val (.int x9_53), .val (.int x10_62), .val (.ref ob43), .val (.int (x6_22 + (1 : Int32))), .val (.ref ob46), .val (.ref b_50), .val (.ref b_54)] [(.int (1 : Int32)), (.ref b_54), (.ref b_50)])
    refine own_go (fun _ => XS.iload X62.here hx rfl (hb hby at_309) rfl) ?_
    show own_G p e below Φ T62 (mkF m 311 #[.val (.int p0), .val (.int p1), .val (.int p2), .val (.int p3), .val (.int (2 : Int32)), .val (.int x5_14), .val (.int x6_22), .val (.int x7_33), .val (.int x8_42), .val (.int x9_53), .val (.int x10_62), .val (.ref ob43), .val (.int (x6_22 + (1 : Int32))), .val (.ref ob46), .val (.ref b_50), .val (.ref b_54)] [(.int (2 : Int32)), (.int (1 : Int32)), (.ref b_54), (.ref b_50)])
    refine own_go (fun _ => XS.iconst X62.here hx rfl (hb hby at_311)) ?_
    show own_G p e below Φ T62 (mkF m 312 #[.val (.int p0), .val (.int p1), .val (.int p2), .val (.int p3), .val (.int (2 : Int32)), .val (.int x5_14), .val (.int x6_22), .val (.int x7_33), .val (.int x8_42), .val (.int x9_53), .val (.int x10_62), .val (.ref ob43), .val (.int (x6_22 + (1 : Int32))), .val (.ref ob46), .val (.ref b_50), .val (.ref b_54)] [(.int (0 : Int32)), (.int (2 : Int32)), (.int (1 : Int32)), (.ref b_54), (.ref b_50)])
    refine own_go (fun _ => XS.iload X62.here hx rfl (hb hby at_312) rfl) ?_
    show own_G p e below Φ T62 (mkF m 314 #[.val (.int p0), .val (.int p1), .val (.int p2), .val (.int p3), .val (.int (2 : Int32)), .val (.int x5_14), .val (.int x6_22), .val (.int x7_33), .val (.int x8_42), .val (.int x9_53), .val (.int x10_62), .val (.ref ob43), .val (.int (x6_22 + (1 : Int32))), .val (.ref ob46), .val (.ref b_50), .val (.ref b_54)] [(.int x5_14), (.int (0 : Int32)), (.int (2 : Int32)), (.int (1 : Int32)), (.ref b_54), (.ref b_50)])
    refine own_go (fun _ => XS.iload X62.here hx rfl (hb hby at_314) rfl) ?_
    show own_G p e below Φ T62 (mkF m 316 #[.val (.int p0), .val (.int p1), .val (.int p2), .val (.int p3), .val (.int (2 : Int32)), .val (.int x5_14), .val (.int x6_22), .val (.int x7_33), .val (.int x8_42), .val (.int x9_53), .val (.int x10_62), .val (.ref ob43), .val (.int (x6_22 + (1 : Int32))), .val (.ref ob46), .val (.ref b_50), .val (.ref b_54)] [(.int x7_33), (.int x5_14), (.int (0 : Int32)), (.int (2 : Int32)), (.int (1 : Int32)), (.ref b_54), (.ref b_50)])
    refine own_go (fun _ => XS.iload X62.here hx rfl (hb hby at_316) rfl) ?_
    show own_G p e below Φ T62 (mkF m 318 #[.val (.int p0), .val (.int p1), .val (.int p2), .val (.int p3), .val (.int (2 : Int32)), .val (.int x5_14), .val (.int x6_22), .val (.int x7_33), .val (.int x8_42), .val (.int x9_53), .val (.int x10_62), .val (.ref ob43), .val (.int (x6_22 + (1 : Int32))), .val (.ref ob46), .val (.ref b_50), .val (.ref b_54)] [(.int x9_53), (.int x7_33), (.int x5_14), (.int (0 : Int32)), (.int (2 : Int32)), (.int (1 : Int32)), (.ref b_54), (.ref b_50)])
    obtain ⟨_, _, ⟨T63, zL63, zk63, zn63⟩, -, X63, ⟨Lc63, hQ63, l63, y63, z63⟩, st63⟩ := Jvm.LawKit.callS X62 hx (y := (⟨"com/example/edgewarden/edgewarden/graph/LikenessGetClassSizesPinLaw", "sizeOk", "([I[IIIIIII)Z"⟩ : MethodName)) hown (mvT hZ (wd_24 hw)) (mvT hZ (wd_25 hw)) (mvT hZ (wd_26 hw)) (mvT hZ (wd_27 hw)) (by decide) (backOf (W := 0) (rmK l Z a0 hw [] b_50 b_54 kb_50 kb_54 (own_max (own_max (0 : Int32) ((0 : Int32) + (1 : Int32))) (x5_14 + (1 : Int32))) (own_inc (own_inc (own_zeros (own_max (own_max (0 : Int32) ((0 : Int32) + (1 : Int32))) (x5_14 + (1 : Int32)))) (0 : Int32)) x5_14) (1 : Int32) (2 : Int32) (0 : Int32) x5_14 x7_33 x9_53 T54.heap n0 Zp54 f56 p54_0 (by decide) (own_use (P := fun t => (1 : Int32) < (own_max (own_max (0 : Int32) ((0 : Int32) + (1 : Int32))) (t.1 + (1 : Int32))) → ((own_inc (own_inc (own_zeros (own_max (own_max (0 : Int32) ((0 : Int32) + (1 : Int32))) (t.1 + (1 : Int32)))) (0 : Int32)) t.1)).getD ((1 : Int32)).toNatClampNeg 0 = own_cnt (1 : Int32) (2 : Int32) (0 : Int32) t.1 t.2.2.1 t.2.2.2.2.1) (by decide +kernel) hall)) hZ (wd_27 hw) (wd_26 hw) (by decide) (by decide)) (g := (mkF m 318 #[.val (.int p0), .val (.int p1), .val (.int p2), .val (.int p3), .val (.int (2 : Int32)), .val (.int x5_14), .val (.int x6_22), .val (.int x7_33), .val (.int x8_42), .val (.int x9_53), .val (.int x10_62), .val (.ref ob43), .val (.int (x6_22 + (1 : Int32))), .val (.ref ob46), .val (.ref b_50), .val (.ref b_54)] [(.int x9_53), (.int x7_33), (.int x5_14), (.int (0 : Int32)), (.int (2 : Int32)), (.int (1 : Int32)), (.ref b_54), (.ref b_50)])) rfl (by rw [hml]; rfl) (argsL := [(.ref b_50), (.ref b_54), (.int (1 : Int32)), (.int (2 : Int32)), (.int (0 : Int32)), (.int x5_14), (.int x7_33), (.int x9_53)]) (rest := []) (lenOf pd_4 rfl) rfl (by show 2 * 0 + _ ≤ _; exact Nat.le_of_eq rfl) (hb hby at_318) (fun _ _ => ⟨rfl, hs62, (by decide : 4 + 0 ≤ _), (by decide : 14 + 0 ≤ _)⟩)
    dsimp only [Pt.U, Pt.locs, Pt.cells, Pt.slots] at X63 l63 y63 z63 st63 hQ63
    subst l63 y63 z63
    obtain ⟨rfl, N63q, hs63⟩ := hQ63
    have N63 := Fr.app N62 N63q
    refine own_go st63 ?_
    show own_G p e below Φ T63 (mkF m 321 #[.val (.int p0), .val (.int p1), .val (.int p2), .val (.int p3), .val (.int (2 : Int32)), .val (.int x5_14), .val (.int x6_22), .val (.int x7_33), .val (.int x8_42), .val (.int x9_53), .val (.int x10_62), .val (.ref ob43), .val (.int (x6_22 + (1 : Int32))), .val (.ref ob46), .val (.ref b_50), .val (.ref b_54)] [(.int (1 : Int32))])
    refine own_go (fun _ => XS.ifNo X63.here hx rfl (hb hby at_321) rfl (Jvm.Free.XT.i0_eq_f (by decide : ¬ ((1 : Int32) = (0 : Int32))))) ?_
    show own_G p e below Φ T63 (mkF m 324 #[.val (.int p0), .val (.int p1), .val (.int p2), .val (.int p3), .val (.int (2 : Int32)), .val (.int x5_14), .val (.int x6_22), .val (.int x7_33), .val (.int x8_42), .val (.int x9_53), .val (.int x10_62), .val (.ref ob43), .val (.int (x6_22 + (1 : Int32))), .val (.ref ob46), .val (.ref b_50), .val (.ref b_54)] [])
    refine own_go (fun _ => XS.aload X63.here hx rfl (hb hby at_324) rfl rfl) ?_
    show own_G p e below Φ T63 (mkF m 326 #[.val (.int p0), .val (.int p1), .val (.int p2), .val (.int p3), .val (.int (2 : Int32)), .val (.int x5_14), .val (.int x6_22), .val (.int x7_33), .val (.int x8_42), .val (.int x9_53), .val (.int x10_62), .val (.ref ob43), .val (.int (x6_22 + (1 : Int32))), .val (.ref ob46), .val (.ref b_50), .val (.ref b_54)] [(.ref b_50)])
    refine own_go (fun _ => XS.aload X63.here hx rfl (hb hby at_326) rfl rfl) ?_
    show own_G p e below Φ T63 (mkF m 328 #[.val (.int p0), .val (.int p1), .val (.int p2), .val (.int p3), .val (.int (2 : Int32)), .val (.int x5_14), .val (.int x6_22), .val (.int x7_33), .val (.int x8_42), .val (.int x9_53), .val (.int x10_62), .val (.ref ob43), .val (.int (x6_22 + (1 : Int32))), .val (.ref ob46), .val (.ref b_50), .val (.ref b_54)] [(.ref b_54), (.ref b_50)])
    refine own_go (fun _ => XS.iconst X63.here hx rfl (hb hby at_328)) ?_
    show own_G p e below Φ T63 (mkF m 329 #[.val (.int p0), .val (.int p1), .val (.int p2), .val (.int p3), .val (.int (2 : Int32)), .val (.int x5_14), .val (.int x6_22), .val (.int x7_33), .val (.int x8_42), .val (.int x9_53), .val (.int x10_62), .val (.ref ob43), .val (.int (x6_22 + (1 : Int32))), .val (.ref ob46), .val (.ref b_50), .val (.ref b_54)] [(.int (2 : Int32)), (.ref b_54), (.ref b_50)])
    refine own_go (fun _ => XS.iload X63.here hx rfl (hb hby at_329) rfl) ?_
    show own_G p e below Φ T63 (mkF m 331 #[.val (.int p0), .val (.int p1), .val (.int p2), .val (.int p3), .val (.int (2 : Int32)), .val (.int x5_14), .val (.int x6_22), .val (.int x7_33), .val (.int x8_42), .val (.int x9_53), .val (.int x10_62), .val (.ref ob43), .val (.int (x6_22 + (1 : Int32))), .val (.ref ob46), .val (.ref b_50), .val (.ref b_54)] [(.int (2 : Int32)), (.int (2 : Int32)), (.ref b_54), (.ref b_50)])
    refine own_go (fun _ => XS.iconst X63.here hx rfl (hb hby at_331)) ?_
    show own_G p e below Φ T63 (mkF m 332 #[.val (.int p0), .val (.int p1), .val (.int p2), .val (.int p3), .val (.int (2 : Int32)), .val (.int x5_14), .val (.int x6_22), .val (.int x7_33), .val (.int x8_42), .val (.int x9_53), .val (.int x10_62), .val (.ref ob43), .val (.int (x6_22 + (1 : Int32))), .val (.ref ob46), .val (.ref b_50), .val (.ref b_54)] [(.int (0 : Int32)), (.int (2 : Int32)), (.int (2 : Int32)), (.ref b_54), (.ref b_50)])
    refine own_go (fun _ => XS.iload X63.here hx rfl (hb hby at_332) rfl) ?_
    show own_G p e below Φ T63 (mkF m 334 #[.val (.int p0), .val (.int p1), .val (.int p2), .val (.int p3), .val (.int (2 : Int32)), .val (.int x5_14), .val (.int x6_22), .val (.int x7_33), .val (.int x8_42), .val (.int x9_53), .val (.int x10_62), .val (.ref ob43), .val (.int (x6_22 + (1 : Int32))), .val (.ref ob46), .val (.ref b_50), .val (.ref b_54)] [(.int x5_14), (.int (0 : Int32)), (.int (2 : Int32)), (.int (2 : Int32)), (.ref b_54), (.ref b_50)])
    refine own_go (fun _ => XS.iload X63.here hx rfl (hb hby at_334) rfl) ?_
    show own_G p e below Φ T63 (mkF m 336 #[.val (.int p0), .val (.int p1), .val (.int p2), .val (.int p3), .val (.int (2 : Int32)), .val (.int x5_14), .val (.int x6_22), .val (.int x7_33), .val (.int x8_42), .val (.int x9_53), .val (.int x10_62), .val (.ref ob43), .val (.int (x6_22 + (1 : Int32))), .val (.ref ob46), .val (.ref b_50), .val (.ref b_54)] [(.int x7_33), (.int x5_14), (.int (0 : Int32)), (.int (2 : Int32)), (.int (2 : Int32)), (.ref b_54), (.ref b_50)])
    refine own_go (fun _ => XS.iload X63.here hx rfl (hb hby at_336) rfl) ?_
    show own_G p e below Φ T63 (mkF m 338 #[.val (.int p0), .val (.int p1), .val (.int p2), .val (.int p3), .val (.int (2 : Int32)), .val (.int x5_14), .val (.int x6_22), .val (.int x7_33), .val (.int x8_42), .val (.int x9_53), .val (.int x10_62), .val (.ref ob43), .val (.int (x6_22 + (1 : Int32))), .val (.ref ob46), .val (.ref b_50), .val (.ref b_54)] [(.int x9_53), (.int x7_33), (.int x5_14), (.int (0 : Int32)), (.int (2 : Int32)), (.int (2 : Int32)), (.ref b_54), (.ref b_50)])
    obtain ⟨_, _, ⟨T64, zL64, zk64, zn64⟩, -, X64, ⟨Lc64, hQ64, l64, y64, z64⟩, st64⟩ := Jvm.LawKit.callS X63 hx (y := (⟨"com/example/edgewarden/edgewarden/graph/LikenessGetClassSizesPinLaw", "sizeOk", "([I[IIIIIII)Z"⟩ : MethodName)) hown (mvT hZ (wd_24 hw)) (mvT hZ (wd_25 hw)) (mvT hZ (wd_26 hw)) (mvT hZ (wd_27 hw)) (by decide) (backOf (W := 0) (rmK l Z a0 hw [] b_50 b_54 kb_50 kb_54 (own_max (own_max (0 : Int32) ((0 : Int32) + (1 : Int32))) (x5_14 + (1 : Int32))) (own_inc (own_inc (own_zeros (own_max (own_max (0 : Int32) ((0 : Int32) + (1 : Int32))) (x5_14 + (1 : Int32)))) (0 : Int32)) x5_14) (2 : Int32) (2 : Int32) (0 : Int32) x5_14 x7_33 x9_53 T54.heap n0 Zp54 f56 p54_0 (by decide) (own_use (P := fun t => (2 : Int32) < (own_max (own_max (0 : Int32) ((0 : Int32) + (1 : Int32))) (t.1 + (1 : Int32))) → ((own_inc (own_inc (own_zeros (own_max (own_max (0 : Int32) ((0 : Int32) + (1 : Int32))) (t.1 + (1 : Int32)))) (0 : Int32)) t.1)).getD ((2 : Int32)).toNatClampNeg 0 = own_cnt (2 : Int32) (2 : Int32) (0 : Int32) t.1 t.2.2.1 t.2.2.2.2.1) (by decide +kernel) hall)) hZ (wd_27 hw) (wd_26 hw) (by decide) (by decide)) (g := (mkF m 338 #[.val (.int p0), .val (.int p1), .val (.int p2), .val (.int p3), .val (.int (2 : Int32)), .val (.int x5_14), .val (.int x6_22), .val (.int x7_33), .val (.int x8_42), .val (.int x9_53), .val (.int x10_62), .val (.ref ob43), .val (.int (x6_22 + (1 : Int32))), .val (.ref ob46), .val (.ref b_50), .val (.ref b_54)] [(.int x9_53), (.int x7_33), (.int x5_14), (.int (0 : Int32)), (.int (2 : Int32)), (.int (2 : Int32)), (.ref b_54), (.ref b_50)])) rfl (by rw [hml]; rfl) (argsL := [(.ref b_50), (.ref b_54), (.int (2 : Int32)), (.int (2 : Int32)), (.int (0 : Int32)), (.int x5_14), (.int x7_33), (.int x9_53)]) (rest := []) (lenOf pd_4 rfl) rfl (by show 2 * 0 + _ ≤ _; exact Nat.le_of_eq rfl) (hb hby at_338) (fun _ _ => ⟨rfl, hs63, (by decide : 4 + 0 ≤ _), (by decide : 14 + 0 ≤ _)⟩)
    dsimp only [Pt.U, Pt.locs, Pt.cells, Pt.slots] at X64 l64 y64 z64 st64 hQ64
    subst l64 y64 z64
    obtain ⟨rfl, N64q, hs64⟩ := hQ64
    have N64 := Fr.app N63 N64q
    refine own_go st64 ?_
    show own_G p e below Φ T64 (mkF m 341 #[.val (.int p0), .val (.int p1), .val (.int p2), .val (.int p3), .val (.int (2 : Int32)), .val (.int x5_14), .val (.int x6_22), .val (.int x7_33), .val (.int x8_42), .val (.int x9_53), .val (.int x10_62), .val (.ref ob43), .val (.int (x6_22 + (1 : Int32))), .val (.ref ob46), .val (.ref b_50), .val (.ref b_54)] [(.int (1 : Int32))])
    refine own_go (fun _ => XS.ifNo X64.here hx rfl (hb hby at_341) rfl (Jvm.Free.XT.i0_eq_f (by decide : ¬ ((1 : Int32) = (0 : Int32))))) ?_
    show own_G p e below Φ T64 (mkF m 344 #[.val (.int p0), .val (.int p1), .val (.int p2), .val (.int p3), .val (.int (2 : Int32)), .val (.int x5_14), .val (.int x6_22), .val (.int x7_33), .val (.int x8_42), .val (.int x9_53), .val (.int x10_62), .val (.ref ob43), .val (.int (x6_22 + (1 : Int32))), .val (.ref ob46), .val (.ref b_50), .val (.ref b_54)] [])
    refine own_go (fun _ => XS.aload X64.here hx rfl (hb hby at_344) rfl rfl) ?_
    show own_G p e below Φ T64 (mkF m 346 #[.val (.int p0), .val (.int p1), .val (.int p2), .val (.int p3), .val (.int (2 : Int32)), .val (.int x5_14), .val (.int x6_22), .val (.int x7_33), .val (.int x8_42), .val (.int x9_53), .val (.int x10_62), .val (.ref ob43), .val (.int (x6_22 + (1 : Int32))), .val (.ref ob46), .val (.ref b_50), .val (.ref b_54)] [(.ref b_50)])
    refine own_go (fun _ => XS.aload X64.here hx rfl (hb hby at_346) rfl rfl) ?_
    show own_G p e below Φ T64 (mkF m 348 #[.val (.int p0), .val (.int p1), .val (.int p2), .val (.int p3), .val (.int (2 : Int32)), .val (.int x5_14), .val (.int x6_22), .val (.int x7_33), .val (.int x8_42), .val (.int x9_53), .val (.int x10_62), .val (.ref ob43), .val (.int (x6_22 + (1 : Int32))), .val (.ref ob46), .val (.ref b_50), .val (.ref b_54)] [(.ref b_54), (.ref b_50)])
    refine own_go (fun _ => XS.iconst X64.here hx rfl (hb hby at_348)) ?_
    show own_G p e below Φ T64 (mkF m 349 #[.val (.int p0), .val (.int p1), .val (.int p2), .val (.int p3), .val (.int (2 : Int32)), .val (.int x5_14), .val (.int x6_22), .val (.int x7_33), .val (.int x8_42), .val (.int x9_53), .val (.int x10_62), .val (.ref ob43), .val (.int (x6_22 + (1 : Int32))), .val (.ref ob46), .val (.ref b_50), .val (.ref b_54)] [(.int (3 : Int32)), (.ref b_54), (.ref b_50)])
    refine own_go (fun _ => XS.iload X64.here hx rfl (hb hby at_349) rfl) ?_
    show own_G p e below Φ T64 (mkF m 351 #[.val (.int p0), .val (.int p1), .val (.int p2), .val (.int p3), .val (.int (2 : Int32)), .val (.int x5_14), .val (.int x6_22), .val (.int x7_33), .val (.int x8_42), .val (.int x9_53), .val (.int x10_62), .val (.ref ob43), .val (.int (x6_22 + (1 : Int32))), .val (.ref ob46), .val (.ref b_50), .val (.ref b_54)] [(.int (2 : Int32)), (.int (3 : Int32)), (.ref b_54), (.ref b_50)])
    refine own_go (fun _ => XS.iconst X64.here hx rfl (hb hby at_351)) ?_
    show own_G p e below Φ T64 (mkF m 352 #[.val (.int p0), .val (.int p1), .val (.int p2), .val (.int p3), .val (.int (2 : Int32)), .val (.int x5_14), .val (.int x6_22), .val (.int x7_33), .val (.int x8_42), .val (.int x9_53), .val (.int x10_62), .val (.ref ob43), .val (.int (x6_22 + (1 : Int32))), .val (.ref ob46), .val (.ref b_50), .val (.ref b_54)] [(.int (0 : Int32)), (.int (2 : Int32)), (.int (3 : Int32)), (.ref b_54), (.ref b_50)])
    refine own_go (fun _ => XS.iload X64.here hx rfl (hb hby at_352) rfl) ?_
    show own_G p e below Φ T64 (mkF m 354 #[.val (.int p0), .val (.int p1), .val (.int p2), .val (.int p3), .val (.int (2 : Int32)), .val (.int x5_14), .val (.int x6_22), .val (.int x7_33), .val (.int x8_42), .val (.int x9_53), .val (.int x10_62), .val (.ref ob43), .val (.int (x6_22 + (1 : Int32))), .val (.ref ob46), .val (.ref b_50), .val (.ref b_54)] [(.int x5_14), (.int (0 : Int32)), (.int (2 : Int32)), (.int (3 : Int32)), (.ref b_54), (.ref b_50)])
    refine own_go (fun _ => XS.iload X64.here hx rfl (hb hby at_354) rfl) ?_
    show own_G p e below Φ T64 (mkF m 356 #[.val (.int p0), .val (.int p1), .val (.int p2), .val (.int p3), .val (.int (2 : Int32)), .val (.int x5_14), .val (.int x6_22), .val (.int x7_33), .val (.int x8_42), .val (.int x9_53), .val (.int x10_62), .val (.ref ob43), .val (.int (x6_22 + (1 : Int32))), .val (.ref ob46), .val (.ref b_50), .val (.ref b_54)] [(.int x7_33), (.int x5_14), (.int (0 : Int32)), (.int (2 : Int32)), (.int (3 : Int32)), (.ref b_54), (.ref b_50)])
    refine own_go (fun _ => XS.iload X64.here hx rfl (hb hby at_356) rfl) ?_
    show own_G p e below Φ T64 (mkF m 358 #[.val (.int p0), .val (.int p1), .val (.int p2), .val (.int p3), .val (.int (2 : Int32)), .val (.int x5_14), .val (.int x6_22), .val (.int x7_33), .val (.int x8_42), .val (.int x9_53), .val (.int x10_62), .val (.ref ob43), .val (.int (x6_22 + (1 : Int32))), .val (.ref ob46), .val (.ref b_50), .val (.ref b_54)] [(.int x9_53), (.int x7_33), (.int x5_14), (.int (0 : Int32)), (.int (2 : Int32)), (.int (3 : Int32)), (.ref b_54), (.ref b_50)])
    obtain ⟨_, _, ⟨T65, zL65, zk65, zn65⟩, -, X65, ⟨Lc65, hQ65, l65, y65, z65⟩, st65⟩ := Jvm.LawKit.callS X64 hx (y := (⟨"com/example/edgewarden/edgewarden/graph/LikenessGetClassSizesPinLaw", "sizeOk", "([I[IIIIIII)Z"⟩ : MethodName)) hown (mvT hZ (wd_24 hw)) (mvT hZ (wd_25 hw)) (mvT hZ (wd_26 hw)) (mvT hZ (wd_27 hw)) (by decide) (backOf (W := 0) (rmK l Z a0 hw [] b_50 b_54 kb_50 kb_54 (own_max (own_max (0 : Int32) ((0 : Int32) + (1 : Int32))) (x5_14 + (1 : Int32))) (own_inc (own_inc (own_zeros (own_max (own_max (0 : Int32) ((0 : Int32) + (1 : Int32))) (x5_14 + (1 : Int32)))) (0 : Int32)) x5_14) (3 : Int32) (2 : Int32) (0 : Int32) x5_14 x7_33 x9_53 T54.heap n0 Zp54 f56 p54_0 (by decide) (own_use (P := fun t => (3 : Int32) < (own_max (own_max (0 : Int32) ((0 : Int32) + (1 : Int32))) (t.1 + (1 : Int32))) → ((own_inc (own_inc (own_zeros (own_max (own_max (0 : Int32) ((0 : Int32) + (1 : Int32))) (t.1 + (1 : Int32)))) (0 : Int32)) t.1)).getD ((3 : Int32)).toNatClampNeg 0 = own_cnt (3 : Int32) (2 : Int32) (0 : Int32) t.1 t.2.2.1 t.2.2.2.2.1) (by decide +kernel) hall)) hZ (wd_27 hw) (wd_26 hw) (by decide) (by decide)) (g := (mkF m 358 #[.val (.int p0), .val (.int p1), .val (.int p2), .val (.int p3), .val (.int (2 : Int32)), .val (.int x5_14), .val (.int x6_22), .val (.int x7_33), .val (.int x8_42), .val (.int x9_53), .val (.int x10_62), .val (.ref ob43), .val (.int (x6_22 + (1 : Int32))), .val (.ref ob46), .val (.ref b_50), .val (.ref b_54)] [(.int x9_53), (.int x7_33), (.int x5_14), (.int (0 : Int32)), (.int (2 : Int32)), (.int (3 : Int32)), (.ref b_54), (.ref b_50)])) rfl (by rw [hml]; rfl) (argsL := [(.ref b_50), (.ref b_54), (.int (3 : Int32)), (.int (2 : Int32)), (.int (0 : Int32)), (.int x5_14), (.int x7_33), (.int x9_53)]) (rest := []) (lenOf pd_4 rfl) rfl (by show 2 * 0 + _ ≤ _; exact Nat.le_of_eq rfl) (hb hby at_358) (fun _ _ => ⟨rfl, hs64, (by decide : 4 + 0 ≤ _), (by decide : 14 + 0 ≤ _)⟩)
    dsimp only [Pt.U, Pt.locs, Pt.cells, Pt.slots] at X65 l65 y65 z65 st65 hQ65
    subst l65 y65 z65
    obtain ⟨rfl, N65q, hs65⟩ := hQ65
    have N65 := Fr.app N64 N65q
    refine own_go st65 ?_
    show own_G p e below Φ T65 (mkF m 361 #[.val (.int p0), .val (.int p1), .val (.int p2), .val (.int p3), .val (.int (2 : Int32)), .val (.int x5_14), .val (.int x6_22), .val (.int x7_33), .val (.int x8_42), .val (.int x9_53), .val (.int x10_62), .val (.ref ob43), .val (.int (x6_22 + (1 : Int32))), .val (.ref ob46), .val (.ref b_50), .val (.ref b_54)] [(.int (1 : Int32))])
    refine own_go (fun _ => XS.ifNo X65.here hx rfl (hb hby at_361) rfl (Jvm.Free.XT.i0_eq_f (by decide : ¬ ((1 : Int32) = (0 : Int32))))) ?_
    show own_G p e below Φ T65 (mkF m 364 #[.val (.int p0), .val (.int p1), .val (.int p2), .val (.int p3), .val (.int (2 : Int32)), .val (.int x5_14), .val (.int x6_22), .val (.int x7_33), .val (.int x8_42), .val (.int x9_53), .val (.int x10_62), .val (.ref ob43), .val (.int (x6_22 + (1 : Int32))), .val (.ref ob46), .val (.ref b_50), .val (.ref b_54)] [])
    refine own_go (fun _ => XS.iconst X65.here hx rfl (hb hby at_364)) ?_
    show own_G p e below Φ T65 (mkF m 365 #[.val (.int p0), .val (.int p1), .val (.int p2), .val (.int p3), .val (.int (2 : Int32)), .val (.int x5_14), .val (.int x6_22), .val (.int x7_33), .val (.int x8_42), .val (.int x9_53), .val (.int x10_62), .val (.ref ob43), .val (.int (x6_22 + (1 : Int32))), .val (.ref ob46), .val (.ref b_50), .val (.ref b_54)] [(.int (1 : Int32))])
    refine own_go (fun _ => XS.goto X65.here hx rfl (pc0 := 365) (pc' := 369) rfl (hb hby at_365) (by decide) (by decide)) ?_
    show own_G p e below Φ T65 (mkF m 369 #[.val (.int p0), .val (.int p1), .val (.int p2), .val (.int p3), .val (.int (2 : Int32)), .val (.int x5_14), .val (.int x6_22), .val (.int x7_33), .val (.int x8_42), .val (.int x9_53), .val (.int x10_62), .val (.ref ob43), .val (.int (x6_22 + (1 : Int32))), .val (.ref ob46), .val (.ref b_50), .val (.ref b_54)] [(.int (1 : Int32))])
    rw [hΦ]
    refine own_ret X65 (v := some (.int (1 : Int32))) (fun h => by rw [Bd.returns] at h; cases h) (BodyLoose.notSynchronized Bd) (fun fs hr => retN X65 hx (t := .boolean) Bd.returns (by simp) (hb hby at_369) hr) ?_ (by decide) (by decide)
    rw [hs65]
    exact ⟨rfl, N65⟩
  · show own_G p e below Φ T3 (mkF m 64 #[.val (.int p0), .val (.int p1), .val (.int p2), .val (.int p3), .val (.int (3 : Int32)), .val (.int x5_14), .val (.int x6_22), .val (.int x7_33), .val (.int x8_42), .val (.int x9_53), .val (.int x10_62), .unset, .unset, .unset, .unset, .unset] [])
    refine own_go (fun _ => XS.iload X3.here hx rfl (hb hby at_64) rfl) ?_
    show own_G p e below Φ T3 (mkF m 66 #[.val (.int p0), .val (.int p1), .val (.int p2), .val (.int p3), .val (.int (3 : Int32)), .val (.int x5_14), .val (.int x6_22), .val (.int x7_33), .val (.int x8_42), .val (.int x9_53), .val (.int x10_62), .unset, .unset, .unset, .unset, .unset] [(.int (3 : Int32))])
    obtain ⟨T66, h66, ka66, X66, e66, E66, A66, st66⟩ := newP (aty := .int) X3 hx hZ (wd_5 hw) hs3 (g := (mkF m 66 #[.val (.int p0), .val (.int p1), .val (.int p2), .val (.int p3), .val (.int (3 : Int32)), .val (.int x5_14), .val (.int x6_22), .val (.int x7_33), .val (.int x8_42), .val (.int x9_53), .val (.int x10_62), .unset, .unset, .unset, .unset, .unset] [(.int (3 : Int32))])) rfl (hb hby at_66) rfl (by decide) (cap := 3) (by decide) (by decide) (by decide) (by decide)
    obtain ⟨ob66, g66⟩ : ∃ z, z = h0.size := ⟨_, rfl⟩
    rw [← g66] at A66 st66
    have V66 : Arv Z h66 ob66 ka66 .int (3 : Int32) [(.int (0 : Int32)), (.int (0 : Int32)), (.int (0 : Int32))] (.int (0 : Int32)) := (Arv.new A66 (by decide)).pad (pad_rep [] (.int (0 : Int32)) 3)
    have g_ob66 : n0 ≤ ob66 := Nat.le_trans Z0 (Nat.le_of_eq g66.symm)
    have Zp66 : n0 ≤ h66.size := Nat.le_trans Z0 E66.1
    refine own_go st66 ?_
    show own_G p e below Φ T66 (mkF m 68 #[.val (.int p0), .val (.int p1), .val (.int p2), .val (.int p3), .val (.int (3 : Int32)), .val (.int x5_14), .val (.int x6_22), .val (.int x7_33), .val (.int x8_42), .val (.int x9_53), .val (.int x10_62), .unset, .unset, .unset, .unset, .unset] [(.ref ob66)])
    refine own_go (fun _ => XS.astore X66.here hx rfl (hb hby at_68) rfl rfl (l' := #[.val (.int p0), .val (.int p1), .val (.int p2), .val (.int p3), .val (.int (3 : Int32)), .val (.int x5_14), .val (.int x6_22), .val (.int x7_33), .val (.int x8_42), .val (.int x9_53), .val (.int x10_62), .val (.ref ob66), .unset, .unset, .unset, .unset]) rfl) ?_
    show own_G p e below Φ T66 (mkF m 70 #[.val (.int p0), .val (.int p1), .val (.int p2), .val (.int p3), .val (.int (3 : Int32)), .val (.int x5_14), .val (.int x6_22), .val (.int x7_33), .val (.int x8_42), .val (.int x9_53), .val (.int x10_62), .val (.ref ob66), .unset, .unset, .unset, .unset] [])
    refine own_go (fun _ => XS.iload X66.here hx rfl (hb hby at_70) rfl) ?_
    show own_G p e below Φ T66 (mkF m 72 #[.val (.int p0), .val (.int p1), .val (.int p2), .val (.int p3), .val (.int (3 : Int32)), .val (.int x5_14), .val (.int x6_22), .val (.int x7_33), .val (.int x8_42), .val (.int x9_53), .val (.int x10_62), .val (.ref ob66), .unset, .unset, .unset, .unset] [(.int (3 : Int32))])
    refine own_go (fun _ => XS.ifNo X66.here hx rfl (hb hby at_72) rfl (Jvm.Free.XT.i0_le_f (by decide : ((0 : Int32) < (3 : Int32))))) ?_
    show own_G p e below Φ T66 (mkF m 75 #[.val (.int p0), .val (.int p1), .val (.int p2), .val (.int p3), .val (.int (3 : Int32)), .val (.int x5_14), .val (.int x6_22), .val (.int x7_33), .val (.int x8_42), .val (.int x9_53), .val (.int x10_62), .val (.ref ob66), .unset, .unset, .unset, .unset] [])
    refine own_go (fun _ => XS.aload X66.here hx rfl (hb hby at_75) rfl rfl) ?_
    show own_G p e below Φ T66 (mkF m 77 #[.val (.int p0), .val (.int p1), .val (.int p2), .val (.int p3), .val (.int (3 : Int32)), .val (.int x5_14), .val (.int x6_22), .val (.int x7_33), .val (.int x8_42), .val (.int x9_53), .val (.int x10_62), .val (.ref ob66), .unset, .unset, .unset, .unset] [(.ref ob66)])
    refine own_go (fun _ => XS.iconst X66.here hx rfl (hb hby at_77)) ?_
    show own_G p e below Φ T66 (mkF m 78 #[.val (.int p0), .val (.int p1), .val (.int p2), .val (.int p3), .val (.int (3 : Int32)), .val (.int x5_14), .val (.int x6_22), .val (.int x7_33), .val (.int x8_42), .val (.int x9_53), .val (.int x10_62), .val (.ref ob66), .unset, .unset, .unset, .unset] [(.int (0 : Int32)), (.ref ob66)])
    refine own_go (fun _ => XS.iconst X66.here hx rfl (hb hby at_78)) ?_
    show own_G p e below Φ T66 (mkF m 79 #[.val (.int p0), .val (.int p1), .val (.int p2), .val (.int p3), .val (.int (3 : Int32)), .val (.int x5_14), .val (.int x6_22), .val (.int x7_33), .val (.int x8_42), .val (.int x9_53), .val (.int x10_62), .val (.ref ob66), .unset, .unset, .unset, .unset] [(.int (0 : Int32)), (.int (0 : Int32)), (.ref ob66)])
    obtain ⟨cl67, Ar67, q67, S67, M67, H67, G67⟩ := id V66
    have hin67 : ¬ ((0 : Int32) < 0 ∨ cl67.slots.size ≤ ((0 : Int32)).toNatClampNeg) := inb_of S67 ⟨by decide, by decide⟩
    obtain ⟨T67, h67, X67, e67, W67, st67⟩ := stI X66 hx hZ e66 Ar67 (j := (0 : Int32)) hin67 (g := (mkF m 79 #[.val (.int p0), .val (.int p1), .val (.int p2), .val (.int p3), .val (.int (3 : Int32)), .val (.int x5_14), .val (.int x6_22), .val (.int x7_33), .val (.int x8_42), .val (.int x9_53), .val (.int x10_62), .val (.ref ob66), .unset, .unset, .unset, .unset] [(.int (0 : Int32)), (.int (0 : Int32)), (.ref ob66)])) rfl rfl (hb hby at_79)
    refine own_go st67 ?_
    have V67 : Arv Z h67 ob66 ka66 .int (3 : Int32) [(.int (0 : Int32)), (.int (0 : Int32)), (.int (0 : Int32))] (.int (0 : Int32)) := Arv.set Ar67 q67 S67 M67 H67 G67 rfl W67 0 rfl (Nat.le_of_ble_eq_true rfl)
    have N67 := Fr.snoc X67 N3 g_ob66
    have Zp67 : n0 ≤ h67.size := Nat.le_trans Zp66 (Keep.of_wr W67).1
    show own_G p e below Φ T67 (mkF m 80 #[.val (.int p0), .val (.int p1), .val (.int p2), .val (.int p3), .val (.int (3 : Int32)), .val (.int x5_14), .val (.int x6_22), .val (.int x7_33), .val (.int x8_42), .val (.int x9_53), .val (.int x10_62), .val (.ref ob66), .unset, .unset, .unset, .unset] [])
    refine own_go (fun _ => XS.iload X67.here hx rfl (hb hby at_80) rfl) ?_
    show own_G p e below Φ T67 (mkF m 82 #[.val (.int p0), .val (.int p1), .val (.int p2), .val (.int p3), .val (.int (3 : Int32)), .val (.int x5_14), .val (.int x6_22), .val (.int x7_33), .val (.int x8_42), .val (.int x9_53), .val (.int x10_62), .val (.ref ob66), .unset, .unset, .unset, .unset] [(.int (3 : Int32))])
    refine own_go (fun _ => XS.iconst X67.here hx rfl (hb hby at_82)) ?_
    show own_G p e below Φ T67 (mkF m 83 #[.val (.int p0), .val (.int p1), .val (.int p2), .val (.int p3), .val (.int (3 : Int32)), .val (.int x5_14), .val (.int x6_22), .val (.int x7_33), .val (.int x8_42), .val (.int x9_53), .val (.int x10_62), .val (.ref ob66), .unset, .unset, .unset, .unset] [(.int (1 : Int32)), (.int (3 : Int32))])
    refine own_go (fun _ => XS.icmpNo X67.here hx rfl (hb hby at_83) rfl (Jvm.Free.XT.ii_le_f (by decide : ((1 : Int32) < (3 : Int32))))) ?_
    show own_G p e below Φ T67 (mkF m 86 #[.val (.int p0), .val (.int p1), .val (.int p2), .val (.int p3), .val (.int (3 : Int32)), .val (.int x5_14), .val (.int x6_22), .val (.int x7_33), .val (.int x8_42), .val (.int x9_53), .val (.int x10_62), .val (.ref ob66), .unset, .unset, .unset, .unset] [])
    refine own_go (fun _ => XS.aload X67.here hx rfl (hb hby at_86) rfl rfl) ?_
    show own_G p e below Φ T67 (mkF m 88 #[.val (.int p0), .val (.int p1), .val (.int p2), .val (.int p3), .val (.int (3 : Int32)), .val (.int x5_14), .val (.int x6_22), .val (.int x7_33), .val (.int x8_42), .val (.int x9_53), .val (.int x10_62), .val (.ref ob66), .unset, .unset, .unset, .unset] [(.ref ob66)])
    refine own_go (fun _ => XS.iconst X67.here hx rfl (hb hby at_88)) ?_
    show own_G p e below Φ T67 (mkF m 89 #[.val (.int p0), .val (.int p1), .val (.int p2), .val (.int p3), .val (.int (3 : Int32)), .val (.int x5_14), .val (.int x6_22), .val (.int x7_33), .val (.int x8_42), .val (.int x9_53), .val (.int x10_62), .val (.ref ob66), .unset, .unset, .unset, .unset] [(.int (1 : Int32)), (.ref ob66)])
    refine own_go (fun _ => XS.iload X67.here hx rfl (hb hby at_89) rfl) ?_
    show own_G p e below Φ T67 (mkF m 91 #[.val (.int p0), .val (.int p1), .val (.int p2), .val (.int p3), .val (.int (3 : Int32)), .val (.int x5_14), .val (.int x6_22), .val (.int x7_33), .val (.int x8_42), .val (.int x9_53), .val (.int x10_62), .val (.ref ob66), .unset, .unset, .unset, .unset] [(.int x5_14), (.int (1 : Int32)), (.ref ob66)])
    obtain ⟨cl68, Ar68, q68, S68, M68, H68, G68⟩ := id V67
    have hin68 : ¬ ((1 : Int32) < 0 ∨ cl68.slots.size ≤ ((1 : Int32)).toNatClampNeg) := inb_of S68 ⟨by decide, by decide⟩
    obtain ⟨T68, h68, X68, e68, W68, st68⟩ := stI X67 hx hZ e67 Ar68 (j := (1 : Int32)) hin68 (g := (mkF m 91 #[.val (.int p0), .val (.int p1), .val (.int p2), .val (.int p3), .val (.int (3 : Int32)), .val (.int x5_14), .val (.int x6_22), .val (.int x7_33), .val (.int x8_42), .val (.int x9_53), .val (.int x10_62), .val (.ref ob66), .unset, .unset, .unset, .unset] [(.int x5_14), (.int (1 : Int32)), (.ref ob66)])) rfl rfl (hb hby at_91)
    refine own_go st68 ?_
    have V68 : Arv Z h68 ob66 ka66 .int (3 : Int32) [(.int (0 : Int32)), (.int x5_14), (.int (0 : Int32))] (.int (0 : Int32)) := Arv.set Ar68 q68 S68 M68 H68 G68 rfl W68 1 rfl (Nat.le_of_ble_eq_true rfl)
    have N68 := Fr.snoc X68 N67 g_ob66
    have Zp68 : n0 ≤ h68.size := Nat.le_trans Zp67 (Keep.of_wr W68).1
    show own_G p e below Φ T68 (mkF m 92 #[.val (.int p0), .val (.int p1), .val (.int p2), .val (.int p3), .val (.int (3 : Int32)), .val (.int x5_14), .val (.int x6_22), .val (.int x7_33), .val (.int x8_42), .val (.int x9_53), .val (.int x10_62), .val (.ref ob66), .unset, .unset, .unset, .unset] [])
    refine own_go (fun _ => XS.iload X68.here hx rfl (hb hby at_92) rfl) ?_
    show own_G p e below Φ T68 (mkF m 94 #[.val (.int p0), .val (.int p1), .val (.int p2), .val (.int p3), .val (.int (3 : Int32)), .val (.int x5_14), .val (.int x6_22), .val (.int x7_33), .val (.int x8_42), .val (.int x9_53), .val (.int x10_62), .val (.ref ob66), .unset, .unset, .unset, .unset] [(.int (3 : Int32))])
    refine own_go (fun _ => XS.iconst X68.here hx rfl (hb hby at_94)) ?_
    show own_G p e below Φ T68 (mkF m 95 #[.val (.int p0), .val (.int p1), .val (.int p2), .val (.int p3), .val (.int (3 : Int32)), .val (.int x5_14), .val (.int x6_22), .val (.int x7_33), .val (.int x8_42), .val (.int x9_53), .val (.int x10_62), .val (.ref ob66), .unset, .unset, .unset, .unset] [(.int (2 : Int32)), (.int (3 : Int32))])
    refine own_go (fun _ => XS.icmpNo X68.here hx rfl (hb hby at_95) rfl (Jvm.Free.XT.ii_le_f (by decide : ((2 : Int32) < (3 : Int32))))) ?_
    show own_G p e below Φ T68 (mkF m 98 #[.val (.int p0), .val (.int p1), .val (.int p2), .val (.int p3), .val (.int (3 : Int32)), .val (.int x5_14), .val (.int x6_22), .val (.int x7_33), .val (.int x8_42), .val (.int x9_53), .val (.int x10_62), .val (.ref ob66), .unset, .unset, .unset, .unset] [])
    refine own_go (fun _ => XS.aload X68.here hx rfl (hb hby at_98) rfl rfl) ?_
    show own_G p e below Φ T68 (mkF m 100 #[.val (.int p0), .val (.int p1), .val (.int p2), .val (.int p3), .val (.int (3 : Int32)), .val (.int x5_14), .val (.int x6_22), .val (.int x7_33), .val (.int x8_42), .val (.int x9_53), .val (.int x10_62), .val (.ref ob66), .unset, .unset, .unset, .unset] [(.ref ob66)])
    refine own_go (fun _ => XS.iconst X68.here hx rfl (hb hby at_100)) ?_
    show own_G p e below Φ T68 (mkF m 101 #[.val (.int p0), .val (.int p1), .val (.int p2), .val (.int p3), .val (.int (3 : Int32)), .val (.int x5_14), .val (.int x6_22), .val (.int x7_33), .val (.int x8_42), .val (.int x9_53), .val (.int x10_62), .val (.ref ob66), .unset, .unset, .unset, .unset] [(.int (2 : Int32)), (.ref ob66)])
    refine own_go (fun _ => XS.iload X68.here hx rfl (hb hby at_101) rfl) ?_
    show own_G p e below Φ T68 (mkF m 103 #[.val (.int p0), .val (.int p1), .val (.int p2), .val (.int p3), .val (.int (3 : Int32)), .val (.int x5_14), .val (.int x6_22), .val (.int x7_33), .val (.int x8_42), .val (.int x9_53), .val (.int x10_62), .val (.ref ob66), .unset, .unset, .unset, .unset] [(.int x7_33), (.int (2 : Int32)), (.ref ob66)])
    obtain ⟨cl69, Ar69, q69, S69, M69, H69, G69⟩ := id V68
    have hin69 : ¬ ((2 : Int32) < 0 ∨ cl69.slots.size ≤ ((2 : Int32)).toNatClampNeg) := inb_of S69 ⟨by decide, by decide⟩
    obtain ⟨T69, h69, X69, e69, W69, st69⟩ := stI X68 hx hZ e68 Ar69 (j := (2 : Int32)) hin69 (g := (mkF m 103 #[.val (.int p0), .val (.int p1), .val (.int p2), .val (.int p3), .val (.int (3 : Int32)), .val (.int x5_14), .val (.int x6_22), .val (.int x7_33), .val (.int x8_42), .val (.int x9_53), .val (.int x10_62), .val (.ref ob66), .unset, .unset, .unset, .unset] [(.int x7_33), (.int (2 : Int32)), (.ref ob66)])) rfl rfl (hb hby at_103)
    refine own_go st69 ?_
    have V69 : Arv Z h69 ob66 ka66 .int (3 : Int32) [(.int (0 : Int32)), (.int x5_14), (.int x7_33)] (.int (0 : Int32)) := Arv.set Ar69 q69 S69 M69 H69 G69 rfl W69 2 rfl (Nat.le_of_ble_eq_true rfl)
    have N69 := Fr.snoc X69 N68 g_ob66
    have Zp69 : n0 ≤ h69.size := Nat.le_trans Zp68 (Keep.of_wr W69).1
    show own_G p e below Φ T69 (mkF m 104 #[.val (.int p0), .val (.int p1), .val (.int p2), .val (.int p3), .val (.int (3 : Int32)), .val (.int x5_14), .val (.int x6_22), .val (.int x7_33), .val (.int x8_42), .val (.int x9_53), .val (.int x10_62), .val (.ref ob66), .unset, .unset, .unset, .unset] [])
    refine own_go (fun _ => XS.iload X69.here hx rfl (hb hby at_104) rfl) ?_
    show own_G p e below Φ T69 (mkF m 106 #[.val (.int p0), .val (.int p1), .val (.int p2), .val (.int p3), .val (.int (3 : Int32)), .val (.int x5_14), .val (.int x6_22), .val (.int x7_33), .val (.int x8_42), .val (.int x9_53), .val (.int x10_62), .val (.ref ob66), .unset, .unset, .unset, .unset] [(.int (3 : Int32))])
    refine own_go (fun _ => XS.iconst X69.here hx rfl (hb hby at_106)) ?_
    show own_G p e below Φ T69 (mkF m 107 #[.val (.int p0), .val (.int p1), .val (.int p2), .val (.int p3), .val (.int (3 : Int32)), .val (.int x5_14), .val (.int x6_22), .val (.int x7_33), .val (.int x8_42), .val (.int x9_53), .val (.int x10_62), .val (.ref ob66), .unset, .unset, .unset, .unset] [(.int (3 : Int32)), (.int (3 : Int32))])
    refine own_go (fun _ => XS.icmpYes X69.here hx rfl (pc0 := 107) (pc' := 116) rfl (hb hby at_107) rfl (Jvm.Free.XT.ii_le_t (by decide : ¬ ((3 : Int32) < (3 : Int32)))) (by decide) (by decide)) ?_
    show own_G p e below Φ T69 (mkF m 116 #[.val (.int p0), .val (.int p1), .val (.int p2), .val (.int p3), .val (.int (3 : Int32)), .val (.int x5_14), .val (.int x6_22), .val (.int x7_33), .val (.int x8_42), .val (.int x9_53), .val (.int x10_62), .val (.ref ob66), .unset, .unset, .unset, .unset] [])
    refine own_go (fun _ => XS.iload X69.here hx rfl (hb hby at_116) rfl) ?_
    show own_G p e below Φ T69 (mkF m 118 #[.val (.int p0), .val (.int p1), .val (.int p2), .val (.int p3), .val (.int (3 : Int32)), .val (.int x5_14), .val (.int x6_22), .val (.int x7_33), .val (.int x8_42), .val (.int x9_53), .val (.int x10_62), .val (.ref ob66), .unset, .unset, .unset, .unset] [(.int (3 : Int32))])
    refine own_go (fun _ => XS.ifYes X69.here hx rfl (pc0 := 118) (pc' := 125) rfl (hb hby at_118) rfl (Jvm.Free.XT.i0_ne_t (by decide : ¬ ((3 : Int32) = (0 : Int32)))) (by decide) (by decide)) ?_
    show own_G p e below Φ T69 (mkF m 125 #[.val (.int p0), .val (.int p1), .val (.int p2), .val (.int p3), .val (.int (3 : Int32)), .val (.int x5_14), .val (.int x6_22), .val (.int x7_33), .val (.int x8_42), .val (.int x9_53), .val (.int x10_62), .val (.ref ob66), .unset, .unset, .unset, .unset] [])
    refine own_go (fun _ => XS.iload X69.here hx rfl (hb hby at_125) rfl) ?_
    show own_G p e below Φ T69 (mkF m 127 #[.val (.int p0), .val (.int p1), .val (.int p2), .val (.int p3), .val (.int (3 : Int32)), .val (.int x5_14), .val (.int x6_22), .val (.int x7_33), .val (.int x8_42), .val (.int x9_53), .val (.int x10_62), .val (.ref ob66), .unset, .unset, .unset, .unset] [(.int (3 : Int32))])
    refine own_go (fun _ => XS.iconst X69.here hx rfl (hb hby at_127)) ?_
    show own_G p e below Φ T69 (mkF m 128 #[.val (.int p0), .val (.int p1), .val (.int p2), .val (.int p3), .val (.int (3 : Int32)), .val (.int x5_14), .val (.int x6_22), .val (.int x7_33), .val (.int x8_42), .val (.int x9_53), .val (.int x10_62), .val (.ref ob66), .unset, .unset, .unset, .unset] [(.int (1 : Int32)), (.int (3 : Int32))])
    refine own_go (fun _ => XS.icmpYes X69.here hx rfl (pc0 := 128) (pc' := 135) rfl (hb hby at_128) rfl (Jvm.Free.XT.ii_ne_t (by decide : ¬ ((3 : Int32) = (1 : Int32)))) (by decide) (by decide)) ?_
    show own_G p e below Φ T69 (mkF m 135 #[.val (.int p0), .val (.int p1), .val (.int p2), .val (.int p3), .val (.int (3 : Int32)), .val (.int x5_14), .val (.int x6_22), .val (.int x7_33), .val (.int x8_42), .val (.int x9_53), .val (.int x10_62), .val (.ref ob66), .unset, .unset, .unset, .unset] [])
    refine own_go (fun _ => XS.iload X69.here hx rfl (hb hby at_135) rfl) ?_
    show own_G p e below Φ T69 (mkF m 137 #[.val (.int p0), .val (.int p1), .val (.int p2), .val (.int p3), .val (.int (3 : Int32)), .val (.int x5_14), .val (.int x6_22), .val (.int x7_33), .val (.int x8_42), .val (.int x9_53), .val (.int x10_62), .val (.ref ob66), .unset, .unset, .unset, .unset] [(.int (3 : Int32))])
    refine own_go (fun _ => XS.iconst X69.here hx rfl (hb hby at_137)) ?_
    show own_G p e below Φ T69 (mkF m 138 #[.val (.int p0), .val (.int p1), .val (.int p2), .val (.int p3), .val (.int (3 : Int32)), .val (.int x5_14), .val (.int x6_22), .val (.int x7_33), .val (.int x8_42), .val (.int x9_53), .val (.int x10_62), .val (.ref ob66), .unset, .unset, .unset, .unset] [(.int (2 : Int32)), (.int (3 : Int32))])
    refine own_go (fun _ => XS.icmpYes X69.here hx rfl (pc0 := 138) (pc' := 148) rfl (hb hby at_138) rfl (Jvm.Free.XT.ii_ne_t (by decide : ¬ ((3 : Int32) = (2 : Int32)))) (by decide) (by decide)) ?_
    show own_G p e below Φ T69 (mkF m 148 #[.val (.int p0), .val (.int p1), .val (.int p2), .val (.int p3), .val (.int (3 : Int32)), .val (.int x5_14), .val (.int x6_22), .val (.int x7_33), .val (.int x8_42), .val (.int x9_53), .val (.int x10_62), .val (.ref ob66), .unset, .unset, .unset, .unset] [])
    refine own_go (fun _ => XS.iload X69.here hx rfl (hb hby at_148) rfl) ?_
    show own_G p e below Φ T69 (mkF m 150 #[.val (.int p0), .val (.int p1), .val (.int p2), .val (.int p3), .val (.int (3 : Int32)), .val (.int x5_14), .val (.int x6_22), .val (.int x7_33), .val (.int x8_42), .val (.int x9_53), .val (.int x10_62), .val (.ref ob66), .unset, .unset, .unset, .unset] [(.int (3 : Int32))])
    refine own_go (fun _ => XS.iconst X69.here hx rfl (hb hby at_150)) ?_
    show own_G p e below Φ T69 (mkF m 151 #[.val (.int p0), .val (.int p1), .val (.int p2), .val (.int p3), .val (.int (3 : Int32)), .val (.int x5_14), .val (.int x6_22), .val (.int x7_33), .val (.int x8_42), .val (.int x9_53), .val (.int x10_62), .val (.ref ob66), .unset, .unset, .unset, .unset] [(.int (3 : Int32)), (.int (3 : Int32))])
    refine own_go (fun _ => XS.icmpNo X69.here hx rfl (hb hby at_151) rfl (Jvm.Free.XT.ii_ne_f (by decide : ((3 : Int32) = (3 : Int32))))) ?_
    show own_G p e below Φ T69 (mkF m 154 #[.val (.int p0), .val (.int p1), .val (.int p2), .val (.int p3), .val (.int (3 : Int32)), .val (.int x5_14), .val (.int x6_22), .val (.int x7_33), .val (.int x8_42), .val (.int x9_53), .val (.int x10_62), .val (.ref ob66), .unset, .unset, .unset, .unset] [])
    refine own_go (fun _ => XS.iload X69.here hx rfl (hb hby at_154) rfl) ?_
    show own_G p e below Φ T69 (mkF m 156 #[.val (.int p0), .val (.int p1), .val (.int p2), .val (.int p3), .val (.int (3 : Int32)), .val (.int x5_14), .val (.int x6_22), .val (.int x7_33), .val (.int x8_42), .val (.int x9_53), .val (.int x10_62), .val (.ref ob66), .unset, .unset, .unset, .unset] [(.int x8_42)])
    refine own_go (fun _ => XS.iconst X69.here hx rfl (hb hby at_156)) ?_
    show own_G p e below Φ T69 (mkF m 157 #[.val (.int p0), .val (.int p1), .val (.int p2), .val (.int p3), .val (.int (3 : Int32)), .val (.int x5_14), .val (.int x6_22), .val (.int x7_33), .val (.int x8_42), .val (.int x9_53), .val (.int x10_62), .val (.ref ob66), .unset, .unset, .unset, .unset] [(.int (1 : Int32)), (.int x8_42)])
    refine own_go (fun _ => XS.iadd X69.here hx rfl (hb hby at_157) rfl) ?_
    show own_G p e below Φ T69 (mkF m 158 #[.val (.int p0), .val (.int p1), .val (.int p2), .val (.int p3), .val (.int (3 : Int32)), .val (.int x5_14), .val (.int x6_22), .val (.int x7_33), .val (.int x8_42), .val (.int x9_53), .val (.int x10_62), .val (.ref ob66), .unset, .unset, .unset, .unset] [(.int (x8_42 + (1 : Int32)))])
    refine own_go (fun _ => XS.goto X69.here hx rfl (pc0 := 158) (pc' := 165) rfl (hb hby at_158) (by decide) (by decide)) ?_
    show own_G p e below Φ T69 (mkF m 165 #[.val (.int p0), .val (.int p1), .val (.int p2), .val (.int p3), .val (.int (3 : Int32)), .val (.int x5_14), .val (.int x6_22), .val (.int x7_33), .val (.int x8_42), .val (.int x9_53), .val (.int x10_62), .val (.ref ob66), .unset, .unset, .unset, .unset] [(.int (x8_42 + (1 : Int32)))])
    refine own_go (fun _ => XS.istore X69.here hx rfl (hb hby at_165) rfl (l' := #[.val (.int p0), .val (.int p1), .val (.int p2), .val (.int p3), .val (.int (3 : Int32)), .val (.int x5_14), .val (.int x6_22), .val (.int x7_33), .val (.int x8_42), .val (.int x9_53), .val (.int x10_62), .val (.ref ob66), .val (.int (x8_42 + (1 : Int32))), .unset, .unset, .unset]) rfl) ?_
    show own_G p e below Φ T69 (mkF m 167 #[.val (.int p0), .val (.int p1), .val (.int p2), .val (.int p3), .val (.int (3 : Int32)), .val (.int x5_14), .val (.int x6_22), .val (.int x7_33), .val (.int x8_42), .val (.int x9_53), .val (.int x10_62), .val (.ref ob66), .val (.int (x8_42 + (1 : Int32))), .unset, .unset, .unset] [])
    obtain ⟨T70, h70, X70, e70, E70, A70, D70, -, st70⟩ := newO X69 hx hZ hown (wd_6 hw) (wd_7 hw) (wd_8 hw) e69 (g := (mkF m 167 #[.val (.int p0), .val (.int p1), .val (.int p2), .val (.int p3), .val (.int (3 : Int32)), .val (.int x5_14), .val (.int x6_22), .val (.int x7_33), .val (.int x8_42), .val (.int x9_53), .val (.int x10_62), .val (.ref ob66), .val (.int (x8_42 + (1 : Int32))), .unset, .unset, .unset] [])) rfl (hb hby at_167) (by decide) (by decide)
    obtain ⟨ob70, g70⟩ : ∃ z, z = h69.size := ⟨_, rfl⟩
    rw [← g70] at A70 D70 st70
    have ne_ob66_ob70 : ob66 ≠ ob70 := Nat.ne_of_lt (Nat.lt_of_lt_of_le V69.lt (Nat.le_of_eq g70.symm))
    have g_ob70 : n0 ≤ ob70 := Nat.le_trans Zp69 (Nat.le_of_eq g70.symm)
    have Zp70 : n0 ≤ h70.size := Nat.le_trans Zp69 E70.1
    refine own_go st70 ?_
    have F_m_aClasses_ob70 : Fld Z h70 ob70 "com/example/edgewarden/edgewarden/graph/Likeness" "m_aClasses" "[I" .null := D70 (Or.inr (wd_16 hw)) (ty := (.array .int)) (by decide)
    have F_m_nClassCount_ob70 : Fld Z h70 ob70 "com/example/edgewarden/edgewarden/graph/Likeness" "m_nClassCount" "I" (.int (0 : Int32)) := D70 (Or.inr (wd_18 hw)) (ty := .int) (by decide)
    show own_G p e below Φ T70 (mkF m 170 #[.val (.int p0), .val (.int p1), .val (.int p2), .val (.int p3), .val (.int (3 : Int32)), .val (.int x5_14), .val (.int x6_22), .val (.int x7_33), .val (.int x8_42), .val (.int x9_53), .val (.int x10_62), .val (.ref ob66), .val (.int (x8_42 + (1 : Int32))), .unset, .unset, .unset] [(.ref ob70)])
    refine own_go (fun _ => XS.dup X70.here hx rfl (hb hby at_170) rfl rfl) ?_
    show own_G p e below Φ T70 (mkF m 171 #[.val (.int p0), .val (.int p1), .val (.int p2), .val (.int p3), .val (.int (3 : Int32)), .val (.int x5_14), .val (.int x6_22), .val (.int x7_33), .val (.int x8_42), .val (.int x9_53), .val (.int x10_62), .val (.ref ob66), .val (.int (x8_42 + (1 : Int32))), .unset, .unset, .unset] [(.ref ob70), (.ref ob70)])
    refine own_go (fun _ => XS.aload X70.here hx rfl (hb hby at_171) rfl rfl) ?_
    show own_G p e below Φ T70 (mkF m 173 #[.val (.int p0), .val (.int p1), .val (.int p2), .val (.int p3), .val (.int (3 : Int32)), .val (.int x5_14), .val (.int x6_22), .val (.int x7_33), .val (.int x8_42), .val (.int x9_53), .val (.int x10_62), .val (.ref ob66), .val (.int (x8_42 + (1 : Int32))), .unset, .unset, .unset] [(.ref ob66), (.ref ob70), (.ref ob70)])
    have f71 : Arv Z h70 ob66 ka66 .int (3 : Int32) [(.int (0 : Int32)), (.int x5_14), (.int x7_33)] (.int (0 : Int32)) := V69.ext E70
    obtain ⟨_, _, ⟨T72, zL72, zk72, zn72⟩, -, X72, ⟨Lc72, hQ72, l72, y72, z72⟩, st72⟩ := X70.specialBack hx (y := (⟨"com/example/edgewarden/edgewarden/graph/Likeness", "<init>", "([I)V"⟩ : MethodName)) rfl hown (mvT hZ (wd_9 hw)) (mvT hZ (wd_10 hw)) (mvT hZ (wd_11 hw)) (by decide) (backOf (W := 1) (rmI3 l Z a0 hw [] ob70 ob66 ka66 (0 : Int32) x5_14 x7_33 .null (.int (0 : Int32)) h70 n0 Zp70 A70 F_m_aClasses_ob70 F_m_nClassCount_ob70 g_ob70 f71 ne_ob66_ob70) hZ (wd_11 hw) (wd_8 hw) (by decide) (by decide)) (g := (mkF m 173 #[.val (.int p0), .val (.int p1), .val (.int p2), .val (.int p3), .val (.int (3 : Int32)), .val (.int x5_14), .val (.int x6_22), .val (.int x7_33), .val (.int x8_42), .val (.int x9_53), .val (.int x10_62), .val (.ref ob66), .val (.int (x8_42 + (1 : Int32))), .unset, .unset, .unset] [(.ref ob66), (.ref ob70), (.ref ob70)])) rfl (by rw [hml]; rfl) (Steps.refl _) (a := ob70) (argsL := [(.ref ob66)]) (rest := [(.ref ob70)]) (lenOf pd_2 rfl) rfl (by show 2 * 0 + _ ≤ _; exact Nat.le_of_eq rfl) (hb hby at_173) (fun _ _ => ⟨rfl, e70, (by decide : 2 + 0 ≤ _), (by decide : 5 + 0 ≤ _)⟩)
    dsimp only [Pt.U, Pt.locs, Pt.cells, Pt.slots] at X72 l72 y72 z72 st72 hQ72
    subst l72 y72 z72
    obtain ⟨rfl, N72q, Kq72, p72_0, p72_1, p72_2⟩ := hQ72
    have N72 := Fr.app N69 N72q
    refine own_on st72 ?_
    have Zp72 : n0 ≤ T72.heap.size := Nat.le_trans Zp70 Kq72.1
    show own_G p e below Φ T72 (mkF m 176 #[.val (.int p0), .val (.int p1), .val (.int p2), .val (.int p3), .val (.int (3 : Int32)), .val (.int x5_14), .val (.int x6_22), .val (.int x7_33), .val (.int x8_42), .val (.int x9_53), .val (.int x10_62), .val (.ref ob66), .val (.int (x8_42 + (1 : Int32))), .unset, .unset, .unset] [(.ref ob70)])
    refine own_go (fun _ => XS.astore X72.here hx rfl (hb hby at_176) rfl rfl (l' := #[.val (.int p0), .val (.int p1), .val (.int p2), .val (.int p3), .val (.int (3 : Int32)), .val (.int x5_14), .val (.int x6_22), .val (.int x7_33), .val (.int x8_42), .val (.int x9_53), .val (.int x10_62), .val (.ref ob66), .val (.int (x8_42 + (1 : Int32))), .val (.ref ob70), .unset, .unset]) rfl) ?_
    show own_G p e below Φ T72 (mkF m 178 #[.val (.int p0), .val (.int p1), .val (.int p2), .val (.int p3), .val (.int (3 : Int32)), .val (.int x5_14), .val (.int x6_22), .val (.int x7_33), .val (.int x8_42), .val (.int x9_53), .val (.int x10_62), .val (.ref ob66), .val (.int (x8_42 + (1 : Int32))), .val (.ref ob70), .unset, .unset] [])
    refine own_go (fun _ => XS.aload X72.here hx rfl (hb hby at_178) rfl rfl) ?_
    show own_G p e below Φ T72 (mkF m 180 #[.val (.int p0), .val (.int p1), .val (.int p2), .val (.int p3), .val (.int (3 : Int32)), .val (.int x5_14), .val (.int x6_22), .val (.int x7_33), .val (.int x8_42), .val (.int x9_53), .val (.int x10_62), .val (.ref ob66), .val (.int (x8_42 + (1 : Int32))), .val (.ref ob70), .unset, .unset] [(.ref ob70)])
    have f73 : Arv Z T72.heap ob66 ka66 .int (3 : Int32) [(.int (0 : Int32)), (.int x5_14), (.int x7_33)] (.int (0 : Int32)) := f71.keep Kq72 (ninS ne_ob66_ob70 nin0)
    obtain ⟨cq74, kq74, q74a, q74b, q74c⟩ := isOf hZ rfl p72_0
    obtain ⟨_, _, ⟨T74, zL74, zk74, zn74⟩, -, X74, ⟨Lc74, hQ74, l74, y74, z74⟩, st74⟩ := X72.virtualBack hx (y := (⟨"com/example/edgewarden/edgewarden/graph/Likeness", "getClassSizes", "()[I"⟩ : MethodName)) (z := (⟨"com/example/edgewarden/edgewarden/graph/Likeness", "getClassSizes", "()[I"⟩ : MethodName)) hown (mvT hZ (wd_19 hw)) (mvT hZ (wd_20 hw)) (notFace_of_selects (args := #[]) (mvT hZ (wd_22 hw))) (mvT hZ (wd_22 hw)) (mvT hZ (wd_21 hw)) (by decide) (backOf (W := 0) (rmS3 l Z a0 hw [] ob70 ob66 ka66 (own_max (own_max (own_max (0 : Int32) ((0 : Int32) + (1 : Int32))) (x5_14 + (1 : Int32))) (x7_33 + (1 : Int32))) (0 : Int32) x5_14 x7_33 T72.heap n0 Zp72 p72_2 p72_1 f73 (own_use (P := fun t => ¬ (own_max (own_max (own_max (0 : Int32) ((0 : Int32) + (1 : Int32))) (t.1 + (1 : Int32))) (t.2.2.1 + (1 : Int32))) < 0) (by decide +kernel) hall) (own_use (P := fun t => ((own_max (own_max (own_max (0 : Int32) ((0 : Int32) + (1 : Int32))) (t.1 + (1 : Int32))) (t.2.2.1 + (1 : Int32)))).toNatClampNeg ≤ 5) (by decide +kernel) hall) (own_use (P := fun t => ¬ (0 : Int32) < 0 ∧ (0 : Int32) < (own_max (own_max (own_max (0 : Int32) ((0 : Int32) + (1 : Int32))) (t.1 + (1 : Int32))) (t.2.2.1 + (1 : Int32)))) (by decide +kernel) hall) (own_use (P := fun t => ¬ t.1 < 0 ∧ t.1 < (own_max (own_max (own_max (0 : Int32) ((0 : Int32) + (1 : Int32))) (t.1 + (1 : Int32))) (t.2.2.1 + (1 : Int32)))) (by decide +kernel) hall) (own_use (P := fun t => ¬ t.2.2.1 < 0 ∧ t.2.2.1 < (own_max (own_max (own_max (0 : Int32) ((0 : Int32) + (1 : Int32))) (t.1 + (1 : Int32))) (t.2.2.1 + (1 : Int32)))) (by decide +kernel) hall)) hZ (wd_23 hw) (wd_8 hw) (by decide) (by decide)) q74a q74c (g := (mkF m 180 #[.val (.int p0), .val (.int p1), .val (.int p2), .val (.int p3), .val (.int (3 : Int32)), .val (.int x5_14), .val (.int x6_22), .val (.int x7_33), .val (.int x8_42), .val (.int x9_53), .val (.int x10_62), .val (.ref ob66), .val (.int (x8_42 + (1 : Int32))), .val (.ref ob70), .unset, .unset] [(.ref ob70)])) rfl (by rw [hml]; rfl) (Steps.refl _) (argsL := []) (rest := []) (lenOf pd_3 rfl) rfl (by show 2 * 0 + _ ≤ _; exact Nat.le_of_eq rfl) (hb hby at_180) (fun _ _ => ⟨rfl, rfl, (by decide : 2 + 1 ≤ _), (by decide : 5 + 5 ≤ _)⟩)
    dsimp only [Pt.U, Pt.locs, Pt.cells, Pt.slots] at X74 l74 y74 z74 st74 hQ74
    subst l74 y74 z74
    obtain ⟨b_74, ns_b_74, kb_74, rfl, N74q, Kq74, p74_0⟩ := hQ74
    have N74 := Fr.app N72 N74q
    refine own_on st74 ?_
    have ne_ob66_b_74 : ob66 ≠ b_74 := Nat.ne_of_lt (Nat.lt_of_lt_of_le f73.lt ns_b_74)
    have ne_ob70_b_74 : ob70 ≠ b_74 := Nat.ne_of_lt (Nat.lt_of_lt_of_le p72_0.lt ns_b_74)
    have g_b_74 : n0 ≤ b_74 := Nat.le_trans Zp72 ns_b_74
    have Zp74 : n0 ≤ T74.heap.size := Nat.le_trans Zp72 Kq74.1
    show own_G p e below Φ T74 (mkF m 183 #[.val (.int p0), .val (.int p1), .val (.int p2), .val (.int p3), .val (.int (3 : Int32)), .val (.int x5_14), .val (.int x6_22), .val (.int x7_33), .val (.int x8_42), .val (.int x9_53), .val (.int x10_62), .val (.ref ob66), .val (.int (x8_42 + (1 : Int32))), .val (.ref ob70), .unset, .unset] [(.ref b_74)])
    refine own_go (fun _ => XS.astore X74.here hx rfl (hb hby at_183) rfl rfl (l' := #[.val (.int p0), .val (.int p1), .val (.int p2), .val (.int p3), .val (.int (3 : Int32)), .val (.int x5_14), .val (.int x6_22), .val (.int x7_33), .val (.int x8_42), .val (.int x9_53), .val (.int x10_62), .val (.ref ob66), .val (.int (x8_42 + (1 : Int32))), .val (.ref ob70), .val (.ref b_74), .unset]) rfl) ?_
    show own_G p e below Φ T74 (mkF m 185 #[.val (.int p0), .val (.int p1), .val (.int p2), .val (.int p3), .val (.int (3 : Int32)), .val (.int x5_14), .val (.int x6_22), .val (.int x7_33), .val (.int x8_42), .val (.int x9_53), .val (.int x10_62), .val (.ref ob66), .val (.int (x8_42 + (1 : Int32))), .val (.ref ob70), .val (.ref b_74), .unset] [])
    refine own_go (fun _ => XS.aload X74.here hx rfl (hb hby at_185) rfl rfl) ?_
    show own_G p e below Φ T74 (mkF m 187 #[.val (.int p0), .val (.int p1), .val (.int p2), .val (.int p3), .val (.int (3 : Int32)), .val (.int x5_14), .val (.int x6_22), .val (.int x7_33), .val (.int x8_42), .val (.int x9_53), .val (.int x10_62), .val (.ref ob66), .val (.int (x8_42 + (1 : Int32))), .val (.ref ob70), .val (.ref b_74), .unset] [(.ref ob70)])
    have f75 : Fld Z T74.heap ob70 "com/example/edgewarden/edgewarden/graph/Likeness" "m_nClassCount" "I" (.int (own_max (own_max (own_max (0 : Int32) ((0 : Int32) + (1 : Int32))) (x5_14 + (1 : Int32))) (x7_33 + (1 : Int32)))) := p72_2.keep Kq74 nin0
    have f76 : Fld Z T74.heap ob70 "com/example/edgewarden/edgewarden/graph/Likeness" "m_aClasses" "[I" (.ref ob66) := p72_1.keep Kq74 nin0
    have f77 : Arv Z T74.heap ob66 ka66 .int (3 : Int32) [(.int (0 : Int32)), (.int x5_14), (.int x7_33)] (.int (0 : Int32)) := f73.keep Kq74 nin0
    have f79 : Exa Z T74.heap ob70 "com/example/edgewarden/edgewarden/graph/Likeness" := p72_0.keep Kq74
    obtain ⟨cq78, kq78, q78a, q78b, q78c⟩ := isOf hZ rfl f79
    obtain ⟨_, _, ⟨T78, zL78, zk78, zn78⟩, -, X78, ⟨Lc78, hQ78, l78, y78, z78⟩, st78⟩ := X74.virtualBack hx (y := (⟨"com/example/edgewarden/edgewarden/graph/Likeness", "getClassSizes", "()[I"⟩ : MethodName)) (z := (⟨"com/example/edgewarden/edgewarden/graph/Likeness", "getClassSizes", "()[I"⟩ : MethodName)) hown (mvT hZ (wd_19 hw)) (mvT hZ (wd_20 hw)) (notFace_of_selects (args := #[]) (mvT hZ (wd_22 hw))) (mvT hZ (wd_22 hw)) (mvT hZ (wd_21 hw)) (by decide) (backOf (W := 0) (rmS3 l Z a0 hw [] ob70 ob66 ka66 (own_max (own_max (own_max (0 : Int32) ((0 : Int32) + (1 : Int32))) (x5_14 + (1 : Int32))) (x7_33 + (1 : Int32))) (0 : Int32) x5_14 x7_33 T74.heap n0 Zp74 f75 f76 f77 (own_use (P := fun t => ¬ (own_max (own_max (own_max (0 : Int32) ((0 : Int32) + (1 : Int32))) (t.1 + (1 : Int32))) (t.2.2.1 + (1 : Int32))) < 0) (by decide +kernel) hall) (own_use (P := fun t => ((own_max (own_max (own_max (0 : Int32) ((0 : Int32) + (1 : Int32))) (t.1 + (1 : Int32))) (t.2.2.1 + (1 : Int32)))).toNatClampNeg ≤ 5) (by decide +kernel) hall) (own_use (P := fun t => ¬ (0 : Int32) < 0 ∧ (0 : Int32) < (own_max (own_max (own_max (0 : Int32) ((0 : Int32) + (1 : Int32))) (t.1 + (1 : Int32))) (t.2.2.1 + (1 : Int32)))) (by decide +kernel) hall) (own_use (P := fun t => ¬ t.1 < 0 ∧ t.1 < (own_max (own_max (own_max (0 : Int32) ((0 : Int32) + (1 : Int32))) (t.1 + (1 : Int32))) (t.2.2.1 + (1 : Int32)))) (by decide +kernel) hall) (own_use (P := fun t => ¬ t.2.2.1 < 0 ∧ t.2.2.1 < (own_max (own_max (own_max (0 : Int32) ((0 : Int32) + (1 : Int32))) (t.1 + (1 : Int32))) (t.2.2.1 + (1 : Int32)))) (by decide +kernel) hall)) hZ (wd_23 hw) (wd_8 hw) (by decide) (by decide)) q78a q78c (g := (mkF m 187 #[.val (.int p0), .val (.int p1), .val (.int p2), .val (.int p3), .val (.int (3 : Int32)), .val (.int x5_14), .val (.int x6_22), .val (.int x7_33), .val (.int x8_42), .val (.int x9_53), .val (.int x10_62), .val (.ref ob66), .val (.int (x8_42 + (1 : Int32))), .val (.ref ob70), .val (.ref b_74), .unset] [(.ref ob70)])) rfl (by rw [hml]; rfl) (Steps.refl _) (argsL := []) (rest := []) (lenOf pd_3 rfl) rfl (by show 2 * 0 + _ ≤ _; exact Nat.le_of_eq rfl) (hb hby at_187) (fun _ _ => ⟨rfl, rfl, (by decide : 3 + 1 ≤ _), (by decide : 10 + 5 ≤ _)⟩)
    dsimp only [Pt.U, Pt.locs, Pt.cells, Pt.slots] at X78 l78 y78 z78 st78 hQ78
    subst l78 y78 z78
    obtain ⟨b_78, ns_b_78, kb_78, rfl, N78q, Kq78, p78_0⟩ := hQ78
    have N78 := Fr.app N74 N78q
    refine own_on st78 ?_
    have ne_ob66_b_78 : ob66 ≠ b_78 := Nat.ne_of_lt (Nat.lt_of_lt_of_le f77.lt ns_b_78)
    have ne_ob70_b_78 : ob70 ≠ b_78 := Nat.ne_of_lt (Nat.lt_of_lt_of_le f79.lt ns_b_78)
    have ne_b_74_b_78 : b_74 ≠ b_78 := Nat.ne_of_lt (Nat.lt_of_lt_of_le p74_0.lt ns_b_78)
    have g_b_78 : n0 ≤ b_78 := Nat.le_trans Zp74 ns_b_78
    have Zp78 : n0 ≤ T78.heap.size := Nat.le_trans Zp74 Kq78.1
    show own_G p e below Φ T78 (mkF m 190 #[.val (.int p0), .val (.int p1), .val (.int p2), .val (.int p3), .val (.int (3 : Int32)), .val (.int x5_14), .val (.int x6_22), .val (.int x7_33), .val (.int x8_42), .val (.int x9_53), .val (.int x10_62), .val (.ref ob66), .val (.int (x8_42 + (1 : Int32))), .val (.ref ob70), .val (.ref b_74), .unset] [(.ref b_78)])
    refine own_go (fun _ => XS.astore X78.here hx rfl (hb hby at_190) rfl rfl (l' := #[.val (.int p0), .val (.int p1), .val (.int p2), .val (.int p3), .val (.int (3 : Int32)), .val (.int x5_14), .val (.int x6_22), .val (.int x7_33), .val (.int x8_42), .val (.int x9_53), .val (.int x10_62), .val (.ref ob66), .val (.int (x8_42 + (1 : Int32))), .val (.ref ob70), .val (.ref b_74), .val (.ref b_78)]) rfl) ?_
    show own_G p e below Φ T78 (mkF m 192 #[.val (.int p0), .val (.int p1), .val (.int p2), .val (.int p3), .val (.int (3 : Int32)), .val (.int x5_14), .val (.int x6_22), .val (.int x7_33), .val (.int x8_42), .val (.int x9_53), .val (.int x10_62), .val (.ref ob66), .val (.int (x8_42 + (1 : Int32))), .val (.ref ob70), .val (.ref b_74), .val (.ref b_78)] [])
    refine own_go (fun _ => XS.aload X78.here hx rfl (hb hby at_192) rfl rfl) ?_
    show own_G p e below Φ T78 (mkF m 194 #[.val (.int p0), .val (.int p1), .val (.int p2), .val (.int p3), .val (.int (3 : Int32)), .val (.int x5_14), .val (.int x6_22), .val (.int x7_33), .val (.int x8_42), .val (.int x9_53), .val (.int x10_62), .val (.ref ob66), .val (.int (x8_42 + (1 : Int32))), .val (.ref ob70), .val (.ref b_74), .val (.ref b_78)] [(.ref b_74)])
    refine own_go (fun _ => XS.aload X78.here hx rfl (hb hby at_194) rfl rfl) ?_
    show own_G p e below Φ T78 (mkF m 196 #[.val (.int p0), .val (.int p1), .val (.int p2), .val (.int p3), .val (.int (3 : Int32)), .val (.int x5_14), .val (.int x6_22), .val (.int x7_33), .val (.int x8_42), .val (.int x9_53), .val (.int x10_62), .val (.ref ob66), .val (.int (x8_42 + (1 : Int32))), .val (.ref ob70), .val (.ref b_74), .val (.ref b_78)] [(.ref b_78), (.ref b_74)])
    refine own_go (fun _ => Jvm.RoadKit.acmp (g := (mkF m 196 #[.val (.int p0), .val (.int p1), .val (.int p2), .val (.int p3), .val (.int (3 : Int32)), .val (.int x5_14), .val (.int x6_22), .val (.int x7_33), .val (.int x8_42), .val (.int x9_53), .val (.int x10_62), .val (.ref ob66), .val (.int (x8_42 + (1 : Int32))), .val (.ref ob70), .val (.ref b_74), .val (.ref b_78)] [(.ref b_78), (.ref b_74)])) X78 hx rfl rfl rfl (pc0 := 196) (pc' := 201) (same := false) rfl (hb hby at_196) rfl (decide_eq_false fun q => ne_b_74_b_78 (Value.ref.inj q)) (by decide) (by decide)) ?_
    show own_G p e below Φ T78 (mkF m 201 #[.val (.int p0), .val (.int p1), .val (.int p2), .val (.int p3), .val (.int (3 : Int32)), .val (.int x5_14), .val (.int x6_22), .val (.int x7_33), .val (.int x8_42), .val (.int x9_53), .val (.int x10_62), .val (.ref ob66), .val (.int (x8_42 + (1 : Int32))), .val (.ref ob70), .val (.ref b_74), .val (.ref b_78)] [])
    refine own_go (fun _ => XS.aload X78.here hx rfl (hb hby at_201) rfl rfl) ?_
    show own_G p e below Φ T78 (mkF m 203 #[.val (.int p0), .val (.int p1), .val (.int p2), .val (.int p3), .val (.int (3 : Int32)), .val (.int x5_14), .val (.int x6_22), .val (.int x7_33), .val (.int x8_42), .val (.int x9_53), .val (.int x10_62), .val (.ref ob66), .val (.int (x8_42 + (1 : Int32))), .val (.ref ob70), .val (.ref b_74), .val (.ref b_78)] [(.ref b_74)])
    have f80 : Arv Z T78.heap b_74 kb_74 .int (own_max (own_max (own_max (0 : Int32) ((0 : Int32) + (1 : Int32))) (x5_14 + (1 : Int32))) (x7_33 + (1 : Int32))) (own_vs (own_inc (own_inc (own_inc (own_zeros (own_max (own_max (own_max (0 : Int32) ((0 : Int32) + (1 : Int32))) (x5_14 + (1 : Int32))) (x7_33 + (1 : Int32)))) (0 : Int32)) x5_14) x7_33)) (.int (0 : Int32)) := p74_0.keep Kq78 nin0
    obtain ⟨cl81, Ar81, q81, S81, M81, H81, G81⟩ := id f80
    refine own_go (fun _ => X78.arraylength hx Ar81.1 (State.isArrayOf_alike hZ.alike Ar81.2.1) (g := (mkF m 203 #[.val (.int p0), .val (.int p1), .val (.int p2), .val (.int p3), .val (.int (3 : Int32)), .val (.int x5_14), .val (.int x6_22), .val (.int x7_33), .val (.int x8_42), .val (.int x9_53), .val (.int x10_62), .val (.ref ob66), .val (.int (x8_42 + (1 : Int32))), .val (.ref ob70), .val (.ref b_74), .val (.ref b_78)] [(.ref b_74)])) rfl rfl (hb hby at_203) _) ?_
    rw [len_of S81 M81]
    show own_G p e below Φ T78 (mkF m 204 #[.val (.int p0), .val (.int p1), .val (.int p2), .val (.int p3), .val (.int (3 : Int32)), .val (.int x5_14), .val (.int x6_22), .val (.int x7_33), .val (.int x8_42), .val (.int x9_53), .val (.int x10_62), .val (.ref ob66), .val (.int (x8_42 + (1 : Int32))), .val (.ref ob70), .val (.ref b_74), .val (.ref b_78)] [(.int (own_max (own_max (own_max (0 : Int32) ((0 : Int32) + (1 : Int32))) (x5_14 + (1 : Int32))) (x7_33 + (1 : Int32))))])
    refine own_go (fun _ => XS.iload X78.here hx rfl (hb hby at_204) rfl) ?_
    show own_G p e below Φ T78 (mkF m 206 #[.val (.int p0), .val (.int p1), .val (.int p2), .val (.int p3), .val (.int (3 : Int32)), .val (.int x5_14), .val (.int x6_22), .val (.int x7_33), .val (.int x8_42), .val (.int x9_53), .val (.int x10_62), .val (.ref ob66), .val (.int (x8_42 + (1 : Int32))), .val (.ref ob70), .val (.ref b_74), .val (.ref b_78)] [(.int (x8_42 + (1 : Int32))), (.int (own_max (own_max (own_max (0 : Int32) ((0 : Int32) + (1 : Int32))) (x5_14 + (1 : Int32))) (x7_33 + (1 : Int32))))])
    refine own_go (fun _ => XS.icmpNo X78.here hx rfl (hb hby at_206) rfl (Jvm.Free.XT.ii_ne_f (own_use (P := fun t => (own_max (own_max (own_max (0 : Int32) ((0 : Int32) + (1 : Int32))) (t.1 + (1 : Int32))) (t.2.2.1 + (1 : Int32))) = (t.2.2.2.1 + (1 : Int32))) (by decide +kernel) hall))) ?_
    show own_G p e below Φ T78 (mkF m 209 #[.val (.int p0), .val (.int p1), .val (.int p2), .val (.int p3), .val (.int (3 : Int32)), .val (.int x5_14), .val (.int x6_22), .val (.int x7_33), .val (.int x8_42), .val (.int x9_53), .val (.int x10_62), .val (.ref ob66), .val (.int (x8_42 + (1 : Int32))), .val (.ref ob70), .val (.ref b_74), .val (.ref b_78)] [])
    refine own_go (fun _ => XS.aload X78.here hx rfl (hb hby at_209) rfl rfl) ?_
    show own_G p e below Φ T78 (mkF m 211 #[.val (.int p0), .val (.int p1), .val (.int p2), .val (.int p3), .val (.int (3 : Int32)), .val (.int x5_14), .val (.int x6_22), .val (.int x7_33), .val (.int x8_42), .val (.int x9_53), .val (.int x10_62), .val (.ref ob66), .val (.int (x8_42 + (1 : Int32))), .val (.ref ob70), .val (.ref b_74), .val (.ref b_78)] [(.ref b_78)])
    obtain ⟨cl82, Ar82, q82, S82, M82, H82, G82⟩ := id p78_0
    refine own_go (fun _ => X78.arraylength hx Ar82.1 (State.isArrayOf_alike hZ.alike Ar82.2.1) (g := (mkF m 211 #[.val (.int p0), .val (.int p1), .val (.int p2), .val (.int p3), .val (.int (3 : Int32)), .val (.int x5_14), .val (.int x6_22), .val (.int x7_33), .val (.int x8_42), .val (.int x9_53), .val (.int x10_62), .val (.ref ob66), .val (.int (x8_42 + (1 : Int32))), .val (.ref ob70), .val (.ref b_74), .val (.ref b_78)] [(.ref b_78)])) rfl rfl (hb hby at_211) _) ?_
    rw [len_of S82 M82]
    show own_G p e below Φ T78 (mkF m 212 #[.val (.int p0), .val (.int p1), .val (.int p2), .val (.int p3), .val (.int (3 : Int32)), .val (.int x5_14), .val (.int x6_22), .val (.int x7_33), .val (.int x8_42), .val (.int x9_53), .val (.int x10_62), .val (.ref ob66), .val (.int (x8_42 + (1 : Int32))), .val (.ref ob70), .val (.ref b_74), .val (.ref b_78)] [(.int (own_max (own_max (own_max (0 : Int32) ((0 : Int32) + (1 : Int32))) (x5_14 + (1 : Int32))) (x7_33 + (1 : Int32))))])
    refine own_go (fun _ => XS.iload X78.here hx rfl (hb hby at_212) rfl) ?_
    show own_G p e below Φ T78 (mkF m 214 #[.val (.int p0), .val (.int p1), .val (.int p2), .val (.int p3), .val (.int (3 : Int32)), .val (.int x5_14), .val (.int x6_22), .val (.int x7_33), .val (.int x8_42), .val (.int x9_53), .val (.int x10_62), .val (.ref ob66), .val (.int (x8_42 + (1 : Int32))), .val (.ref ob70), .val (.ref b_74), .val (.ref b_78)] [(.int (x8_42 + (1 : Int32))), (.int (own_max (own_max (own_max (0 : Int32) ((0 : Int32) + (1 : Int32))) (x5_14 + (1 : Int32))) (x7_33 + (1 : Int32))))])
    refine own_go (fun _ => XS.icmpYes X78.here hx rfl (pc0 := 214) (pc' := 219) rfl (hb hby at_214) rfl (Jvm.Free.XT.ii_eq_t (own_use (P := fun t => (own_max (own_max (own_max (0 : Int32) ((0 : Int32) + (1 : Int32))) (t.1 + (1 : Int32))) (t.2.2.1 + (1 : Int32))) = (t.2.2.2.1 + (1 : Int32))) (by decide +kernel) hall)) (by decide) (by decide)) ?_
    show own_G p e below Φ T78 (mkF m 219 #[.val (.int p0), .val (.int p1), .val (.int p2), .val (.int p3), .val (.int (3 : Int32)), .val (.int x5_14), .val (.int x6_22), .val (.int x7_33), .val (.int x8_42), .val (.int x9_53), .val (.int x10_62), .val (.ref ob66), .val (.int (x8_42 + (1 : Int32))), .val (.ref ob70), .val (.ref b_74), .val (.ref b_78)] [])
    refine own_go (fun _ => XS.iload X78.here hx rfl (hb hby at_219) rfl) ?_
    show own_G p e below Φ T78 (mkF m 221 #[.val (.int p0), .val (.int p1), .val (.int p2), .val (.int p3), .val (.int (3 : Int32)), .val (.int x5_14), .val (.int x6_22), .val (.int x7_33), .val (.int x8_42), .val (.int x9_53), .val (.int x10_62), .val (.ref ob66), .val (.int (x8_42 + (1 : Int32))), .val (.ref ob70), .val (.ref b_74), .val (.ref b_78)] [(.int (3 : Int32))])
    refine own_go (fun _ => XS.ifNo X78.here hx rfl (hb hby at_221) rfl (Jvm.Free.XT.i0_le_f (by decide : ((0 : Int32) < (3 : Int32))))) ?_
    show own_G p e below Φ T78 (mkF m 224 #[.val (.int p0), .val (.int p1), .val (.int p2), .val (.int p3), .val (.int (3 : Int32)), .val (.int x5_14), .val (.int x6_22), .val (.int x7_33), .val (.int x8_42), .val (.int x9_53), .val (.int x10_62), .val (.ref ob66), .val (.int (x8_42 + (1 : Int32))), .val (.ref ob70), .val (.ref b_74), .val (.ref b_78)] [])
    refine own_go (fun _ => XS.aload X78.here hx rfl (hb hby at_224) rfl rfl) ?_
    show own_G p e below Φ T78 (mkF m 226 #[.val (.int p0), .val (.int p1), .val (.int p2), .val (.int p3), .val (.int (3 : Int32)), .val (.int x5_14), .val (.int x6_22), .val (.int x7_33), .val (.int x8_42), .val (.int x9_53), .val (.int x10_62), .val (.ref ob66), .val (.int (x8_42 + (1 : Int32))), .val (.ref ob70), .val (.ref b_74), .val (.ref b_78)] [(.ref ob66)])
    refine own_go (fun _ => XS.iconst X78.here hx rfl (hb hby at_226)) ?_
    show own_G p e below Φ T78 (mkF m 227 #[.val (.int p0), .val (.int p1), .val (.int p2), .val (.int p3), .val (.int (3 : Int32)), .val (.int x5_14), .val (.int x6_22), .val (.int x7_33), .val (.int x8_42), .val (.int x9_53), .val (.int x10_62), .val (.ref ob66), .val (.int (x8_42 + (1 : Int32))), .val (.ref ob70), .val (.ref b_74), .val (.ref b_78)] [(.int (0 : Int32)), (.ref ob66)])
    have f83 : Arv Z T78.heap ob66 ka66 .int (3 : Int32) [(.int (0 : Int32)), (.int x5_14), (.int x7_33)] (.int (0 : Int32)) := f77.keep Kq78 nin0
    obtain ⟨cl84, Ar84, q84, S84, M84, H84, G84⟩ := id f83
    have hin84 : ¬ ((0 : Int32) < 0 ∨ cl84.slots.size ≤ ((0 : Int32)).toNatClampNeg) := inb_of S84 ⟨by decide, by decide⟩
    refine own_go (fun _ => X78.iaload hx (j := (0 : Int32)) (v := (.int (0 : Int32))) Ar84.1 (State.isArrayOf_alike hZ.alike Ar84.2.1) Ar84.2.2 hin84 (H84.at hin84 rfl) (g := (mkF m 227 #[.val (.int p0), .val (.int p1), .val (.int p2), .val (.int p3), .val (.int (3 : Int32)), .val (.int x5_14), .val (.int x6_22), .val (.int x7_33), .val (.int x8_42), .val (.int x9_53), .val (.int x10_62), .val (.ref ob66), .val (.int (x8_42 + (1 : Int32))), .val (.ref ob70), .val (.ref b_74), .val (.ref b_78)] [(.int (0 : Int32)), (.ref ob66)])) rfl rfl (hb hby at_227) _) ?_
    show own_G p e below Φ T78 (mkF m 228 #[.val (.int p0), .val (.int p1), .val (.int p2), .val (.int p3), .val (.int (3 : Int32)), .val (.int x5_14), .val (.int x6_22), .val (.int x7_33), .val (.int x8_42), .val (.int x9_53), .val (.int x10_62), .val (.ref ob66), .val (.int (x8_42 + (1 : Int32))), .val (.ref ob70), .val (.ref b_74), .val (.ref b_78)] [(.int (0 : Int32))])
    refine own_go (fun _ => XS.ifYes X78.here hx rfl (pc0 := 228) (pc' := 233) rfl (hb hby at_228) rfl (Jvm.Free.XT.i0_eq_t (by decide : ((0 : Int32) = (0 : Int32)))) (by decide) (by decide)) ?_
    show own_G p e below Φ T78 (mkF m 233 #[.val (.int p0), .val (.int p1), .val (.int p2), .val (.int p3), .val (.int (3 : Int32)), .val (.int x5_14), .val (.int x6_22), .val (.int x7_33), .val (.int x8_42), .val (.int x9_53), .val (.int x10_62), .val (.ref ob66), .val (.int (x8_42 + (1 : Int32))), .val (.ref ob70), .val (.ref b_74), .val (.ref b_78)] [])
    refine own_go (fun _ => XS.iload X78.here hx rfl (hb hby at_233) rfl) ?_
    show own_G p e below Φ T78 (mkF m 235 #[.val (.int p0), .val (.int p1), .val (.int p2), .val (.int p3), .val (.int (3 : Int32)), .val (.int x5_14), .val (.int x6_22), .val (.int x7_33), .val (.int x8_42), .val (.int x9_53), .val (.int x10_62), .val (.ref ob66), .val (.int (x8_42 + (1 : Int32))), .val (.ref ob70), .val (.ref b_74), .val (.ref b_78)] [(.int (3 : Int32))])
    refine own_go (fun _ => XS.iconst X78.here hx rfl (hb hby at_235)) ?_
    show own_G p e below Φ T78 (mkF m 236 #[.val (.int p0), .val (.int p1), .val (.int p2), .val (.int p3), .val (.int (3 : Int32)), .val (.int x5_14), .val (.int x6_22), .val (.int x7_33), .val (.int x8_42), .val (.int x9_53), .val (.int x10_62), .val (.ref ob66), .val (.int (x8_42 + (1 : Int32))), .val (.ref ob70), .val (.ref b_74), .val (.ref b_78)] [(.int (1 : Int32)), (.int (3 : Int32))])
    refine own_go (fun _ => XS.icmpNo X78.here hx rfl (hb hby at_236) rfl (Jvm.Free.XT.ii_le_f (by decide : ((1 : Int32) < (3 : Int32))))) ?_
    show own_G p e below Φ T78 (mkF m 239 #[.val (.int p0), .val (.int p1), .val (.int p2), .val (.int p3), .val (.int (3 : Int32)), .val (.int x5_14), .val (.int x6_22), .val (.int x7_33), .val (.int x8_42), .val (.int x9_53), .val (.int x10_62), .val (.ref ob66), .val (.int (x8_42 + (1 : Int32))), .val (.ref ob70), .val (.ref b_74), .val (.ref b_78)] [])
    refine own_go (fun _ => XS.aload X78.here hx rfl (hb hby at_239) rfl rfl) ?_
    show own_G p e below Φ T78 (mkF m 241 #[.val (.int p0), .val (.int p1), .val (.int p2), .val (.int p3), .val (.int (3 : Int32)), .val (.int x5_14), .val (.int x6_22), .val (.int x7_33), .val (.int x8_42), .val (.int x9_53), .val (.int x10_62), .val (.ref ob66), .val (.int (x8_42 + (1 : Int32))), .val (.ref ob70), .val (.ref b_74), .val (.ref b_78)] [(.ref ob66)])
    refine own_go (fun _ => XS.iconst X78.here hx rfl (hb hby at_241)) ?_
    show own_G p e below Φ T78 (mkF m 242 #[.val (.int p0), .val (.int p1), .val (.int p2), .val (.int p3), .val (.int (3 : Int32)), .val (.int x5_14), .val (.int x6_22), .val (.int x7_33), .val (.int x8_42), .val (.int x9_53), .val (.int x10_62), .val (.ref ob66), .val (.int (x8_42 + (1 : Int32))), .val (.ref ob70), .val (.ref b_74), .val (.ref b_78)] [(.int (1 : Int32)), (.ref ob66)])
    obtain ⟨cl85, Ar85, q85, S85, M85, H85, G85⟩ := id f83
    have hin85 : ¬ ((1 : Int32) < 0 ∨ cl85.slots.size ≤ ((1 : Int32)).toNatClampNeg) := inb_of S85 ⟨by decide, by decide⟩
    refine own_go (fun _ => X78.iaload hx (j := (1 : Int32)) (v := (.int x5_14)) Ar85.1 (State.isArrayOf_alike hZ.alike Ar85.2.1) Ar85.2.2 hin85 (H85.at hin85 rfl) (g := (mkF m 242 #[.val (.int p0), .val (.int p1), .val (.int p2), .val (.int p3), .val (.int (3 : Int32)), .val (.int x5_14), .val (.int x6_22), .val (.int x7_33), .val (.int x8_42), .val (.int x9_53), .val (.int x10_62), .val (.ref ob66), .val (.int (x8_42 + (1 : Int32))), .val (.ref ob70), .val (.ref b_74), .val (.ref b_78)] [(.int (1 : Int32)), (.ref ob66)])) rfl rfl (hb hby at_242) _) ?_
    show own_G p e below Φ T78 (mkF m 243 #[.val (.int p0), .val (.int p1), .val (.int p2), .val (.int p3), .val (.int (3 : Int32)), .val (.int x5_14), .val (.int x6_22), .val (.int x7_33), .val (.int x8_42), .val (.int x9_53), .val (.int x10_62), .val (.ref ob66), .val (.int (x8_42 + (1 : Int32))), .val (.ref ob70), .val (.ref b_74), .val (.ref b_78)] [(.int x5_14)])
    refine own_go (fun _ => XS.iload X78.here hx rfl (hb hby at_243) rfl) ?_
    show own_G p e below Φ T78 (mkF m 245 #[.val (.int p0), .val (.int p1), .val (.int p2), .val (.int p3), .val (.int (3 : Int32)), .val (.int x5_14), .val (.int x6_22), .val (.int x7_33), .val (.int x8_42), .val (.int x9_53), .val (.int x10_62), .val (.ref ob66), .val (.int (x8_42 + (1 : Int32))), .val (.ref ob70), .val (.ref b_74), .val (.ref b_78)] [(.int x5_14), (.int x5_14)])
    refine own_go (fun _ => XS.icmpYes X78.here hx rfl (pc0 := 245) (pc' := 250) rfl (hb hby at_245) rfl (Jvm.Free.XT.ii_eq_t (rfl : x5_14 = x5_14)) (by decide) (by decide)) ?_
    show own_G p e below Φ T78 (mkF m 250 #[.val (.int p0), .val (.int p1), .val (.int p2), .val (.int p3), .val (.int (3 : Int32)), .val (.int x5_14), .val (.int x6_22), .val (.int x7_33), .val (.int x8_42), .val (.int x9_53), .val (.int x10_62), .val (.ref ob66), .val (.int (x8_42 + (1 : Int32))), .val (.ref ob70), .val (.ref b_74), .val (.ref b_78)] [])
    refine own_go (fun _ => XS.iload X78.here hx rfl (hb hby at_250) rfl) ?_
    show own_G p e below Φ T78 (mkF m 252 #[.val (.int p0), .val (.int p1), .val (.int p2), .val (.int p3), .val (.int (3 : Int32)), .val (.int x5_14), .val (.int x6_22), .val (.int x7_33), .val (.int x8_42), .val (.int x9_53), .val (.int x10_62), .val (.ref ob66), .val (.int (x8_42 + (1 : Int32))), .val (.ref ob70), .val (.ref b_74), .val (.ref b_78)] [(.int (3 : Int32))])
    refine own_go (fun _ => XS.iconst X78.here hx rfl (hb hby at_252)) ?_
    show own_G p e below Φ T78 (mkF m 253 #[.val (.int p0), .val (.int p1), .val (.int p2), .val (.int p3), .val (.int (3 : Int32)), .val (.int x5_14), .val (.int x6_22), .val (.int x7_33), .val (.int x8_42), .val (.int x9_53), .val (.int x10_62), .val (.ref ob66), .val (.int (x8_42 + (1 : Int32))), .val (.ref ob70), .val (.ref b_74), .val (.ref b_78)] [(.int (2 : Int32)), (.int (3 : Int32))])
    refine own_go (fun _ => XS.icmpNo X78.here hx rfl (hb hby at_253) rfl (Jvm.Free.XT.ii_le_f (by decide : ((2 : Int32) < (3 : Int32))))) ?_
    show own_G p e below Φ T78 (mkF m 256 #[.val (.int p0), .val (.int p1), .val (.int p2), .val (.int p3), .val (.int (3 : Int32)), .val (.int x5_14), .val (.int x6_22), .val (.int x7_33), .val (.int x8_42), .val (.int x9_53), .val (.int x10_62), .val (.ref ob66), .val (.int (x8_42 + (1 : Int32))), .val (.ref ob70), .val (.ref b_74), .val (.ref b_78)] [])
    refine own_go (fun _ => XS.aload X78.here hx rfl (hb hby at_256) rfl rfl) ?_
    show own_G p e below Φ T78 (mkF m 258 #[.val (.int p0), .val (.int p1), .val (.int p2), .val (.int p3), .val (.int (3 : Int32)), .val (.int x5_14), .val (.int x6_22), .val (.int x7_33), .val (.int x8_42), .val (.int x9_53), .val (.int x10_62), .val (.ref ob66), .val (.int (x8_42 + (1 : Int32))), .val (.ref ob70), .val (.ref b_74), .val (.ref b_78)] [(.ref ob66)])
    refine own_go (fun _ => XS.iconst X78.here hx rfl (hb hby at_258)) ?_
    show own_G p e below Φ T78 (mkF m 259 #[.val (.int p0), .val (.int p1), .val (.int p2), .val (.int p3), .val (.int (3 : Int32)), .val (.int x5_14), .val (.int x6_22), .val (.int x7_33), .val (.int x8_42), .val (.int x9_53), .val (.int x10_62), .val (.ref ob66), .val (.int (x8_42 + (1 : Int32))), .val (.ref ob70), .val (.ref b_74), .val (.ref b_78)] [(.int (2 : Int32)), (.ref ob66)])
    obtain ⟨cl86, Ar86, q86, S86, M86, H86, G86⟩ := id f83
    have hin86 : ¬ ((2 : Int32) < 0 ∨ cl86.slots.size ≤ ((2 : Int32)).toNatClampNeg) := inb_of S86 ⟨by decide, by decide⟩
    refine own_go (fun _ => X78.iaload hx (j := (2 : Int32)) (v := (.int x7_33)) Ar86.1 (State.isArrayOf_alike hZ.alike Ar86.2.1) Ar86.2.2 hin86 (H86.at hin86 rfl) (g := (mkF m 259 #[.val (.int p0), .val (.int p1), .val (.int p2), .val (.int p3), .val (.int (3 : Int32)), .val (.int x5_14), .val (.int x6_22), .val (.int x7_33), .val (.int x8_42), .val (.int x9_53), .val (.int x10_62), .val (.ref ob66), .val (.int (x8_42 + (1 : Int32))), .val (.ref ob70), .val (.ref b_74), .val (.ref b_78)] [(.int (2 : Int32)), (.ref ob66)])) rfl rfl (hb hby at_259) _) ?_
    show own_G p e below Φ T78 (mkF m 260 #[.val (.int p0), .val (.int p1), .val (.int p2), .val (.int p3), .val (.int (3 : Int32)), .val (.int x5_14), .val (.int x6_22), .val (.int x7_33), .val (.int x8_42), .val (.int x9_53), .val (.int x10_62), .val (.ref ob66), .val (.int (x8_42 + (1 : Int32))), .val (.ref ob70), .val (.ref b_74), .val (.ref b_78)] [(.int x7_33)])
    refine own_go (fun _ => XS.iload X78.here hx rfl (hb hby at_260) rfl) ?_
    show own_G p e below Φ T78 (mkF m 262 #[.val (.int p0), .val (.int p1), .val (.int p2), .val (.int p3), .val (.int (3 : Int32)), .val (.int x5_14), .val (.int x6_22), .val (.int x7_33), .val (.int x8_42), .val (.int x9_53), .val (.int x10_62), .val (.ref ob66), .val (.int (x8_42 + (1 : Int32))), .val (.ref ob70), .val (.ref b_74), .val (.ref b_78)] [(.int x7_33), (.int x7_33)])
    refine own_go (fun _ => XS.icmpYes X78.here hx rfl (pc0 := 262) (pc' := 267) rfl (hb hby at_262) rfl (Jvm.Free.XT.ii_eq_t (rfl : x7_33 = x7_33)) (by decide) (by decide)) ?_
    show own_G p e below Φ T78 (mkF m 267 #[.val (.int p0), .val (.int p1), .val (.int p2), .val (.int p3), .val (.int (3 : Int32)), .val (.int x5_14), .val (.int x6_22), .val (.int x7_33), .val (.int x8_42), .val (.int x9_53), .val (.int x10_62), .val (.ref ob66), .val (.int (x8_42 + (1 : Int32))), .val (.ref ob70), .val (.ref b_74), .val (.ref b_78)] [])
    refine own_go (fun _ => XS.iload X78.here hx rfl (hb hby at_267) rfl) ?_
    show own_G p e below Φ T78 (mkF m 269 #[.val (.int p0), .val (.int p1), .val (.int p2), .val (.int p3), .val (.int (3 : Int32)), .val (.int x5_14), .val (.int x6_22), .val (.int x7_33), .val (.int x8_42), .val (.int x9_53), .val (.int x10_62), .val (.ref ob66), .val (.int (x8_42 + (1 : Int32))), .val (.ref ob70), .val (.ref b_74), .val (.ref b_78)] [(.int (3 : Int32))])
    refine own_go (fun _ => XS.iconst X78.here hx rfl (hb hby at_269)) ?_
    show own_G p e below Φ T78 (mkF m 270 #[.val (.int p0), .val (.int p1), .val (.int p2), .val (.int p3), .val (.int (3 : Int32)), .val (.int x5_14), .val (.int x6_22), .val (.int x7_33), .val (.int x8_42), .val (.int x9_53), .val (.int x10_62), .val (.ref ob66), .val (.int (x8_42 + (1 : Int32))), .val (.ref ob70), .val (.ref b_74), .val (.ref b_78)] [(.int (3 : Int32)), (.int (3 : Int32))])
    refine own_go (fun _ => XS.icmpYes X78.here hx rfl (pc0 := 270) (pc' := 284) rfl (hb hby at_270) rfl (Jvm.Free.XT.ii_le_t (by decide : ¬ ((3 : Int32) < (3 : Int32)))) (by decide) (by decide)) ?_
    show own_G p e below Φ T78 (mkF m 284 #[.val (.int p0), .val (.int p1), .val (.int p2), .val (.int p3), .val (.int (3 : Int32)), .val (.int x5_14), .val (.int x6_22), .val (.int x7_33), .val (.int x8_42), .val (.int x9_53), .val (.int x10_62), .val (.ref ob66), .val (.int (x8_42 + (1 : Int32))), .val (.ref ob70), .val (.ref b_74), .val (.ref b_78)] [])
    refine own_go (fun _ => XS.aload X78.here hx rfl (hb hby at_284) rfl rfl) ?_
    show own_G p e below Φ T78 (mkF m 286 #[.val (.int p0), .val (.int p1), .val (.int p2), .val (.int p3), .val (.int (3 : Int32)), .val (.int x5_14), .val (.int x6_22), .val (.int x7_33), .val (.int x8_42), .val (.int x9_53), .val (.int x10_62), .val (.ref ob66), .val (.int (x8_42 + (1 : Int32))), .val (.ref ob70), .val (.ref b_74), .val (.ref b_78)] [(.ref b_74)])
    refine own_go (fun _ => XS.aload X78.here hx rfl (hb hby at_286) rfl rfl) ?_
    show own_G p e below Φ T78 (mkF m 288 #[.val (.int p0), .val (.int p1), .val (.int p2), .val (.int p3), .val (.int (3 : Int32)), .val (.int x5_14), .val (.int x6_22), .val (.int x7_33), .val (.int x8_42), .val (.int x9_53), .val (.int x10_62), .val (.ref ob66), .val (.int (x8_42 + (1 : Int32))), .val (.ref ob70), .val (.ref b_74), .val (.ref b_78)] [(.ref b_78), (.ref b_74)])
    refine own_go (fun _ => XS.iconst X78.here hx rfl (hb hby at_288)) ?_
    show own_G p e below Φ T78 (mkF m 289 #[.val (.int p0), .val (.int p1), .val (.int p2), .val (.int p3), .val (.int (3 : Int32)), .val (.int x5_14), .val (.int x6_22), .val (.int x7_33), .val (.int x8_42), .val (.int x9_53), .val (.int x10_62), .val (.ref ob66), .val (.int (x8_42 + (1 : Int32))), .val (.ref ob70), .val (.ref b_74), .val (.ref b_78)] [(.int (0 : Int32)), (.ref b_78), (.ref b_74)])
    refine own_go (fun _ => XS.iload X78.here hx rfl (hb hby at_289) rfl) ?_
    show own_G p e below Φ T78 (mkF m 291 #[.val (.int p0), .val (.int p1), .val (.int p2), .val (.int p3), .val (.int (3 : Int32)), .val (.int x5_14), .val (.int x6_22), .val (.int x7_33), .val (.int x8_42), .val (.int x9_53), .val (.int x10_62), .val (.ref ob66), .val (.int (x8_42 + (1 : Int32))), .val (.ref ob70), .val (.ref b_74), .val (.ref b_78)] [(.int (3 : Int32)), (.int (0 : Int32)), (.ref b_78), (.ref b_74)])
    refine own_go (fun _ => XS.iconst X78.here hx rfl (hb hby at_291)) ?_
    show own_G p e below Φ T78 (mkF m 292 #[.val (.int p0), .val (.int p1), .val (.int p2), .val (.int p3), .val (.int (3 : Int32)), .val (.int x5_14), .val (.int x6_22), .val (.int x7_33), .val (.int x8_42), .val (.int x9_53), .val (.int x10_62), .val (.ref ob66), .val (.int (x8_42 + (1 : Int32))), .val (.ref ob70), .val (.ref b_74), .val (.ref b_78)] [(.int (0 : Int32)), (.int (3 : Int32)), (.int (0 : Int32)), (.ref b_78), (.ref b_74)])
    refine own_go (fun _ => XS.iload X78.here hx rfl (hb hby at_292) rfl) ?_
    show own_G p e below Φ T78 (mkF m 294 #[.val (.int p0), .val (.int p1), .val (.int p2), .val (.int p3), .val (.int (3 : Int32)), .val (.int x5_14), .val (.int x6_22), .val (.int x7_33), .val (.int x8_42), .val (.int x9_53), .val (.int x10_62), .val (.ref ob66), .val (.int (x8_42 + (1 : Int32))), .val (.ref ob70), .val (.ref b_74), .val (.ref b_78)] [(.int x5_14), (.int (0 : Int32)), (.int (3 : Int32)), (.int (0 : Int32)), (.ref b_78), (.ref b_74)])
    refine own_go (fun _ => XS.iload X78.here hx rfl (hb hby at_294) rfl) ?_
    show own_G p e below Φ T78 (mkF m 296 #[.val (.int p0), .val (.int p1), .val (.int p2), .val (.int p3), .val (.int (3 : Int32)), .val (.int x5_14), .val (.int x6_22), .val (.int x7_33), .val (.int x8_42), .val (.int x9_53), .val (.int x10_62), .val (.ref ob66), .val (.int (x8_42 + (1 : Int32))), .val (.ref ob70), .val (.ref b_74), .val (.ref b_78)] [(.int x7_33), (.int x5_14), (.int (0 : Int32)), (.int (3 : Int32)), (.int (0 : Int32)), (.ref b_78), (.ref b_74)])
    refine own_go (fun _ => XS.iload X78.here hx rfl (hb hby at_296) rfl) ?_
    show own_G p e below Φ T78 (mkF m 298 #[.val (.int p0), .val (.int p1), .val (.int p2), .val (.int p3), .val (.int (3 : Int32)), .val (.int x5_14), .val (.int x6_22), .val (.int x7_33), .val (.int x8_42), .val (.int x9_53), .val (.int x10_62), .val (.ref ob66), .val (.int (x8_42 + (1 : Int32))), .val (.ref ob70), .val (.ref b_74), .val (.ref b_78)] [(.int x9_53), (.int x7_33), (.int x5_14), (.int (0 : Int32)), (.int (3 : Int32)), (.int (0 : Int32)), (.ref b_78), (.ref b_74)])
    obtain ⟨_, _, ⟨T87, zL87, zk87, zn87⟩, -, X87, ⟨Lc87, hQ87, l87, y87, z87⟩, st87⟩ := Jvm.LawKit.callS X78 hx (y := (⟨"com/example/edgewarden/edgewarden/graph/LikenessGetClassSizesPinLaw", "sizeOk", "([I[IIIIIII)Z"⟩ : MethodName)) hown (mvT hZ (wd_24 hw)) (mvT hZ (wd_25 hw)) (mvT hZ (wd_26 hw)) (mvT hZ (wd_27 hw)) (by decide) (backOf (W := 0) (rmK l Z a0 hw [] b_74 b_78 kb_74 kb_78 (own_max (own_max (own_max (0 : Int32) ((0 : Int32) + (1 : Int32))) (x5_14 + (1 : Int32))) (x7_33 + (1 : Int32))) (own_inc (own_inc (own_inc (own_zeros (own_max (own_max (own_max (0 : Int32) ((0 : Int32) + (1 : Int32))) (x5_14 + (1 : Int32))) (x7_33 + (1 : Int32)))) (0 : Int32)) x5_14) x7_33) (0 : Int32) (3 : Int32) (0 : Int32) x5_14 x7_33 x9_53 T78.heap n0 Zp78 f80 p78_0 (by decide) (own_use (P := fun t => (0 : Int32) < (own_max (own_max (own_max (0 : Int32) ((0 : Int32) + (1 : Int32))) (t.1 + (1 : Int32))) (t.2.2.1 + (1 : Int32))) → ((own_inc (own_inc (own_inc (own_zeros (own_max (own_max (own_max (0 : Int32) ((0 : Int32) + (1 : Int32))) (t.1 + (1 : Int32))) (t.2.2.1 + (1 : Int32)))) (0 : Int32)) t.1) t.2.2.1)).getD ((0 : Int32)).toNatClampNeg 0 = own_cnt (0 : Int32) (3 : Int32) (0 : Int32) t.1 t.2.2.1 t.2.2.2.2.1) (by decide +kernel) hall)) hZ (wd_27 hw) (wd_26 hw) (by decide) (by decide)) (g := (mkF m 298 #[.val (.int p0), .val (.int p1), .val (.int p2), .val (.int p3), .val (.int (3 : Int32)), .val (.int x5_14), .val (.int x6_22), .val (.int x7_33), .val (.int x8_42), .val (.int x9_53), .val (.int x10_62), .val (.ref ob66), .val (.int (x8_42 + (1 : Int32))), .val (.ref ob70), .val (.ref b_74), .val (.ref b_78)] [(.int x9_53), (.int x7_33), (.int x5_14), (.int (0 : Int32)), (.int (3 : Int32)), (.int (0 : Int32)), (.ref b_78), (.ref b_74)])) rfl (by rw [hml]; rfl) (argsL := [(.ref b_74), (.ref b_78), (.int (0 : Int32)), (.int (3 : Int32)), (.int (0 : Int32)), (.int x5_14), (.int x7_33), (.int x9_53)]) (rest := []) (lenOf pd_4 rfl) rfl (by show 2 * 0 + _ ≤ _; exact Nat.le_of_eq rfl) (hb hby at_298) (fun _ _ => ⟨rfl, rfl, (by decide : 4 + 0 ≤ _), (by decide : 15 + 0 ≤ _)⟩)
    dsimp only [Pt.U, Pt.locs, Pt.cells, Pt.slots] at X87 l87 y87 z87 st87 hQ87
    subst l87 y87 z87
    obtain ⟨rfl, N87q, hs87⟩ := hQ87
    have N87 := Fr.app N78 N87q
    refine own_go st87 ?_
    show own_G p e below Φ T87 (mkF m 301 #[.val (.int p0), .val (.int p1), .val (.int p2), .val (.int p3), .val (.int (3 : Int32)), .val (.int x5_14), .val (.int x6_22), .val (.int x7_33), .val (.int x8_42), .val (.int x9_53), .val (.int x10_62), .val (.ref ob66), .val (.int (x8_42 + (1 : Int32))), .val (.ref ob70), .val (.ref b_74), .val (.ref b_78)] [(.int (1 : Int32))])
    refine own_go (fun _ => XS.ifNo X87.here hx rfl (hb hby at_301) rfl (Jvm.Free.XT.i0_eq_f (by decide : ¬ ((1 : Int32) = (0 : Int32))))) ?_
    show own_G p e below Φ T87 (mkF m 304 #[.val (.int p0), .val (.int p1), .val (.int p2), .val (.int p3), .val (.int (3 : Int32)), .val (.int x5_14), .val (.int x6_22), .val (.int x7_33), .val (.int x8_42), .val (.int x9_53), .val (.int x10_62), .val (.ref ob66), .val (.int (x8_42 + (1 : Int32))), .val (.ref ob70), .val (.ref b_74), .val (.ref b_78)] [])
    refine own_go (fun _ => XS.aload X87.here hx rfl (hb hby at_304) rfl rfl) ?_
    show own_G p e below Φ T87 (mkF m 306 #[.val (.int p0), .val (.int p1), .val (.int p2), .val (.int p3), .val (.int (3 : Int32)), .val (.int x5_14), .val (.int x6_22), .val (.int x7_33), .val (.int x8_42), .val (.int x9_53), .val (.int x10_62), .val (.ref ob66), .val (.int (x8_42 + (1 : Int32))), .val (.ref ob70), .val (.ref b_74), .val (.ref b_78)] [(.ref b_74)])
    refine own_go (fun _ => XS.aload X87.here hx rfl (hb hby at_306) rfl rfl) ?_
    show own_G p e below Φ T87 (mkF m 308 #[.val (.int p0), .val (.int p1), .val (.int p2), .val (.int p3), .val (.int (3 : Int32)), .val (.int x5_14), .val (.int x6_22), .val (.int x7_33), .val (.int x8_42), .val (.int x9_53), .val (.int x10_62), .val (.ref ob66), .val (.int (x8_42 + (1 : Int32))), .val (.ref ob70), .val (.ref b_74), .val (.ref b_78)] [(.ref b_78), (.ref b_74)])
    refine own_go (fun _ => XS.iconst X87.here hx rfl (hb hby at_308)) ?_
    show own_G p e below Φ T87 (mkF m 309 #[.val (.int p0), .val (.int p1), .val (.int p2), .val (.int p3), .val (.int (3 : Int32)), .val (.int x5_14), .val (.int x6_22), .val (.int x7_33), .val (.int x8_42), .val (.int x9_53), .val (.int x10_62), .val (.ref ob66), .val (.int (x8_42 + (1 : Int32))), .val (.ref ob70), .val (.ref b_74), .val (.ref b_78)] [(.int (1 : Int32)), (.ref b_78), (.ref b_74)])
    refine own_go (fun _ => XS.iload X87.here hx rfl (hb hby at_309) rfl) ?_
    show own_G p e below Φ T87 (mkF m 311 #[.val (.int p0), .val (.int p1), .val (.int p2), .val (.int p3), .val (.int (3 : Int32)), .val (.int x5_14), .val (.int x6_22), .val (.int x7_33), .val (.int x8_42), .val (.int x9_53), .val (.int x10_62), .val (.ref ob66), .val (.int (x8_42 + (1 : Int32))), .val (.ref ob70), .val (.ref b_74), .val (.ref b_78)] [(.int (3 : Int32)), (.int (1 : Int32)), (.ref b_78), (.ref b_74)])
    refine own_go (fun _ => XS.iconst X87.here hx rfl (hb hby at_311)) ?_
    show own_G p e below Φ T87 (mkF m 312 #[.val (.int p0), .val (.int p1), .val (.int p2), .val (.int p3), .val (.int (3 : Int32)), .val (.int x5_14), .val (.int x6_22), .val (.int x7_33), .val (.int x8_42), .val (.int x9_53), .val (.int x10_62), .val (.ref ob66), .val (.int (x8_42 + (1 : Int32))), .val (.ref ob70), .val (.ref b_74), .val (.ref b_78)] [(.int (0 : Int32)), (.int (3 : Int32)), (.int (1 : Int32)), (.ref b_78), (.ref b_74)])
    refine own_go (fun _ => XS.iload X87.here hx rfl (hb hby at_312) rfl) ?_
    show own_G p e below Φ T87 (mkF m 314 #[.val (.int p0), .val (.int p1), .val (.int p2), .val (.int p3), .val (.int (3 : Int32)), .val (.int x5_14), .val (.int x6_22), .val (.int x7_33), .val (.int x8_42), .val (.int x9_53), .val (.int x10_62), .val (.ref ob66), .val (.int (x8_42 + (1 : Int32))), .val (.ref ob70), .val (.ref b_74), .val (.ref b_78)] [(.int x5_14), (.int (0 : Int32)), (.int (3 : Int32)), (.int (1 : Int32)), (.ref b_78), (.ref b_74)])
    refine own_go (fun _ => XS.iload X87.here hx rfl (hb hby at_314) rfl) ?_
    show own_G p e below Φ T87 (mkF m 316 #[.val (.int p0), .val (.int p1), .val (.int p2), .val (.int p3), .val (.int (3 : Int32)), .val (.int x5_14), .val (.int x6_22), .val (.int x7_33), .val (.int x8_42), .val (.int x9_53), .val (.int x10_62), .val (.ref ob66), .val (.int (x8_42 + (1 : Int32))), .val (.ref ob70), .val (.ref b_74), .val (.ref b_78)] [(.int x7_33), (.int x5_14), (.int (0 : Int32)), (.int (3 : Int32)), (.int (1 : Int32)), (.ref b_78), (.ref b_74)])
    refine own_go (fun _ => XS.iload X87.here hx rfl (hb hby at_316) rfl) ?_
    show own_G p e below Φ T87 (mkF m 318 #[.val (.int p0), .val (.int p1), .val (.int p2), .val (.int p3), .val (.int (3 : Int32)), .val (.int x5_14), .val (.int x6_22), .val (.int x7_33), .val (.int x8_42), .val (.int x9_53), .val (.int x10_62), .val (.ref ob66), .val (.int (x8_42 + (1 : Int32))), .val (.ref ob70), .val (.ref b_74), .val (.ref b_78)] [(.int x9_53), (.int x7_33), (.int x5_14), (.int (0 : Int32)), (.int (3 : Int32)), (.int (1 : Int32)), (.ref b_78), (.ref b_74)])
    obtain ⟨_, _, ⟨T88, zL88, zk88, zn88⟩, -, X88, ⟨Lc88, hQ88, l88, y88, z88⟩, st88⟩ := Jvm.LawKit.callS X87 hx (y := (⟨"com/example/edgewarden/edgewarden/graph/LikenessGetClassSizesPinLaw", "sizeOk", "([I[IIIIIII)Z"⟩ : MethodName)) hown (mvT hZ (wd_24 hw)) (mvT hZ (wd_25 hw)) (mvT hZ (wd_26 hw)) (mvT hZ (wd_27 hw)) (by decide) (backOf (W := 0) (rmK l Z a0 hw [] b_74 b_78 kb_74 kb_78 (own_max (own_max (own_max (0 : Int32) ((0 : Int32) + (1 : Int32))) (x5_14 + (1 : Int32))) (x7_33 + (1 : Int32))) (own_inc (own_inc (own_inc (own_zeros (own_max (own_max (own_max (0 : Int32) ((0 : Int32) + (1 : Int32))) (x5_14 + (1 : Int32))) (x7_33 + (1 : Int32)))) (0 : Int32)) x5_14) x7_33) (1 : Int32) (3 : Int32) (0 : Int32) x5_14 x7_33 x9_53 T78.heap n0 Zp78 f80 p78_0 (by decide) (own_use (P := fun t => (1 : Int32) < (own_max (own_max (own_max (0 : Int32) ((0 : Int32) + (1 : Int32))) (t.1 + (1 : Int32))) (t.2.2.1 + (1 : Int32))) → ((own_inc (own_inc (own_inc (own_zeros (own_max (own_max (own_max (0 : Int32) ((0 : Int32) + (1 : Int32))) (t.1 + (1 : Int32))) (t.2.2.1 + (1 : Int32)))) (0 : Int32)) t.1) t.2.2.1)).getD ((1 : Int32)).toNatClampNeg 0 = own_cnt (1 : Int32) (3 : Int32) (0 : Int32) t.1 t.2.2.1 t.2.2.2.2.1) (by decide +kernel) hall)) hZ (wd_27 hw) (wd_26 hw) (by decide) (by decide)) (g := (mkF m 318 #[.val (.int p0), .val (.int p1), .val (.int p2), .val (.int p3), .val (.int (3 : Int32)), .val (.int x5_14), .val (.int x6_22), .val (.int x7_33), .val (.int x8_42), .val (.int x9_53), .val (.int x10_62), .val (.ref ob66), .val (.int (x8_42 + (1 : Int32))), .val (.ref ob70), .val (.ref b_74), .val (.ref b_78)] [(.int x9_53), (.int x7_33), (.int x5_14), (.int (0 : Int32)), (.int (3 : Int32)), (.int (1 : Int32)), (.ref b_78), (.ref b_74)])) rfl (by rw [hml]; rfl) (argsL := [(.ref b_74), (.ref b_78), (.int (1 : Int32)), (.int (3 : Int32)), (.int (0 : Int32)), (.int x5_14), (.int x7_33), (.int x9_53)]) (rest := []) (lenOf pd_4 rfl) rfl (by show 2 * 0 + _ ≤ _; exact Nat.le_of_eq rfl) (hb hby at_318) (fun _ _ => ⟨rfl, hs87, (by decide : 4 + 0 ≤ _), (by decide : 15 + 0 ≤ _)⟩)
    dsimp only [Pt.U, Pt.locs, Pt.cells, Pt.slots] at X88 l88 y88 z88 st88 hQ88
    subst l88 y88 z88
    obtain ⟨rfl, N88q, hs88⟩ := hQ88
    have N88 := Fr.app N87 N88q
    refine own_go st88 ?_
    show own_G p e below Φ T88 (mkF m 321 #[.val (.int p0), .val (.int p1), .val (.int p2), .val (.int p3), .val (.int (3 : Int32)), .val (.int x5_14), .val (.int x6_22), .val (.int x7_33), .val (.int x8_42), .val (.int x9_53), .val (.int x10_62), .val (.ref ob66), .val (.int (x8_42 + (1 : Int32))), .val (.ref ob70), .val (.ref b_74), .val (.ref b_78)] [(.int (1 : Int32))])
    refine own_go (fun _ => XS.ifNo X88.here hx rfl (hb hby at_321) rfl (Jvm.Free.XT.i0_eq_f (by decide : ¬ ((1 : Int32) = (0 : Int32))))) ?_
    show own_G p e below Φ T88 (mkF m 324 #[.val (.int p0), .val (.int p1), .val (.int p2), .val (.int p3), .val (.int (3 : Int32)), .val (.int x5_14), .val (.int x6_22), .val (.int x7_33), .val (.int x8_42), .val (.int x9_53), .val (.int x10_62), .val (.ref ob66), .val (.int (x8_42 + (1 : Int32))), .val (.ref ob70), .val (.ref b_74), .val (.ref b_78)] [])
    refine own_go (fun _ => XS.aload X88.here hx rfl (hb hby at_324) rfl rfl) ?_
    show own_G p e below Φ T88 (mkF m 326 #[.val (.int p0), .val (.int p1), .val (.int p2), .val (.int p3), .val (.int (3 : Int32)), .val (.int x5_14), .val (.int x6_22), .val (.int x7_33), .val (.int x8_42), .val (.int x9_53), .val (.int x10_62), .val (.ref ob66), .val (.int (x8_42 + (1 : Int32))), .val (.ref ob70), .val (.ref b_74), .val (.ref b_78)] [(.ref b_74)])
    refine own_go (fun _ => XS.aload X88.here hx rfl (hb hby at_326) rfl rfl) ?_
    show own_G p e below Φ T88 (mkF m 328 #[.val (.int p0), .val (.int p1), .val (.int p2), .val (.int p3), .val (.int (3 : Int32)), .val (.int x5_14), .val (.int x6_22), .val (.int x7_33), .val (.int x8_42), .val (.int x9_53), .val (.int x10_62), .val (.ref ob66), .val (.int (x8_42 + (1 : Int32))), .val (.ref ob70), .val (.ref b_74), .val (.ref b_78)] [(.ref b_78), (.ref b_74)])
    refine own_go (fun _ => XS.iconst X88.here hx rfl (hb hby at_328)) ?_
    show own_G p e below Φ T88 (mkF m 329 #[.val (.int p0), .val (.int p1), .val (.int p2), .val (.int p3), .val (.int (3 : Int32)), .val (.int x5_14), .val (.int x6_22), .val (.int x7_33), .val (.int x8_42), .val (.int x9_53), .val (.int x10_62), .val (.ref ob66), .val (.int (x8_42 + (1 : Int32))), .val (.ref ob70), .val (.ref b_74), .val (.ref b_78)] [(.int (2 : Int32)), (.ref b_78), (.ref b_74)])
    refine own_go (fun _ => XS.iload X88.here hx rfl (hb hby at_329) rfl) ?_
    show own_G p e below Φ T88 (mkF m 331 #[.val (.int p0), .val (.int p1), .val (.int p2), .val (.int p3), .val (.int (3 : Int32)), .val (.int x5_14), .val (.int x6_22), .val (.int x7_33), .val (.int x8_42), .val (.int x9_53), .val (.int x10_62), .val (.ref ob66), .val (.int (x8_42 + (1 : Int32))), .val (.ref ob70), .val (.ref b_74), .val (.ref b_78)] [(.int (3 : Int32)), (.int (2 : Int32)), (.ref b_78), (.ref b_74)])
    refine own_go (fun _ => XS.iconst X88.here hx rfl (hb hby at_331)) ?_
    show own_G p e below Φ T88 (mkF m 332 #[.val (.int p0), .val (.int p1), .val (.int p2), .val (.int p3), .val (.int (3 : Int32)), .val (.int x5_14), .val (.int x6_22), .val (.int x7_33), .val (.int x8_42), .val (.int x9_53), .val (.int x10_62), .val (.ref ob66), .val (.int (x8_42 + (1 : Int32))), .val (.ref ob70), .val (.ref b_74), .val (.ref b_78)] [(.int (0 : Int32)), (.int (3 : Int32)), (.int (2 : Int32)), (.ref b_78), (.ref b_74)])
    refine own_go (fun _ => XS.iload X88.here hx rfl (hb hby at_332) rfl) ?_
    show own_G p e below Φ T88 (mkF m 334 #[.val (.int p0), .val (.int p1), .val (.int p2), .val (.int p3), .val (.int (3 : Int32)), .val (.int x5_14), .val (.int x6_22), .val (.int x7_33), .val (.int x8_42), .val (.int x9_53), .val (.int x10_62), .val (.ref ob66), .val (.int (x8_42 + (1 : Int32))), .val (.ref ob70), .val (.ref b_74), .val (.ref b_78)] [(.int x5_14), (.int (0 : Int32)), (.int (3 : Int32)), (.int (2 : Int32)), (.ref b_78), (.ref b_74)])
    refine own_go (fun _ => XS.iload X88.here hx rfl (hb hby at_334) rfl) ?_
    show own_G p e below Φ T88 (mkF m 336 #[.val (.int p0), .val (.int p1), .val (.int p2), .val (.int p3), .val (.int (3 : Int32)), .val (.int x5_14), .val (.int x6_22), .val (.int x7_33), .val (.int x8_42), .val (.int x9_53), .val (.int x10_62), .val (.ref ob66), .val (.int (x8_42 + (1 : Int32))), .val (.ref ob70), .val (.ref b_74), .val (.ref b_78)] [(.int x7_33), (.int x5_14), (.int (0 : Int32)), (.int (3 : Int32)), (.int (2 : Int32)), (.ref b_78), (.ref b_74)])
    refine own_go (fun _ => XS.iload X88.here hx rfl (hb hby at_336) rfl) ?_
    show own_G p e below Φ T88 (mkF m 338 #[.val (.int p0), .val (.int p1), .val (.int p2), .val (.int p3), .val (.int (3 : Int32)), .val (.int x5_14), .val (.int x6_22), .val (.int x7_33), .val (.int x8_42), .val (.int x9_53), .val (.int x10_62), .val (.ref ob66), .val (.int (x8_42 + (1 : Int32))), .val (.ref ob70), .val (.ref b_74), .val (.ref b_78)] [(.int x9_53), (.int x7_33), (.int x5_14), (.int (0 : Int32)), (.int (3 : Int32)), (.int (2 : Int32)), (.ref b_78), (.ref b_74)])
    obtain ⟨_, _, ⟨T89, zL89, zk89, zn89⟩, -, X89, ⟨Lc89, hQ89, l89, y89, z89⟩, st89⟩ := Jvm.LawKit.callS X88 hx (y := (⟨"com/example/edgewarden/edgewarden/graph/LikenessGetClassSizesPinLaw", "sizeOk", "([I[IIIIIII)Z"⟩ : MethodName)) hown (mvT hZ (wd_24 hw)) (mvT hZ (wd_25 hw)) (mvT hZ (wd_26 hw)) (mvT hZ (wd_27 hw)) (by decide) (backOf (W := 0) (rmK l Z a0 hw [] b_74 b_78 kb_74 kb_78 (own_max (own_max (own_max (0 : Int32) ((0 : Int32) + (1 : Int32))) (x5_14 + (1 : Int32))) (x7_33 + (1 : Int32))) (own_inc (own_inc (own_inc (own_zeros (own_max (own_max (own_max (0 : Int32) ((0 : Int32) + (1 : Int32))) (x5_14 + (1 : Int32))) (x7_33 + (1 : Int32)))) (0 : Int32)) x5_14) x7_33) (2 : Int32) (3 : Int32) (0 : Int32) x5_14 x7_33 x9_53 T78.heap n0 Zp78 f80 p78_0 (by decide) (own_use (P := fun t => (2 : Int32) < (own_max (own_max (own_max (0 : Int32) ((0 : Int32) + (1 : Int32))) (t.1 + (1 : Int32))) (t.2.2.1 + (1 : Int32))) → ((own_inc (own_inc (own_inc (own_zeros (own_max (own_max (own_max (0 : Int32) ((0 : Int32) + (1 : Int32))) (t.1 + (1 : Int32))) (t.2.2.1 + (1 : Int32)))) (0 : Int32)) t.1) t.2.2.1)).getD ((2 : Int32)).toNatClampNeg 0 = own_cnt (2 : Int32) (3 : Int32) (0 : Int32) t.1 t.2.2.1 t.2.2.2.2.1) (by decide +kernel) hall)) hZ (wd_27 hw) (wd_26 hw) (by decide) (by decide)) (g := (mkF m 338 #[.val (.int p0), .val (.int p1), .val (.int p2), .val (.int p3), .val (.int (3 : Int32)), .val (.int x5_14), .val (.int x6_22), .val (.int x7_33), .val (.int x8_42), .val (.int x9_53), .val (.int x10_62), .val (.ref ob66), .val (.int (x8_42 + (1 : Int32))), .val (.ref ob70), .val (.ref b_74), .val (.ref b_78)] [(.int x9_53), (.int x7_33), (.int x5_14), (.int (0 : Int32)), (.int (3 : Int32)), (.int (2 : Int32)), (.ref b_78), (.ref b_74)])) rfl (by rw [hml]; rfl) (argsL := [(.ref b_74), (.ref b_78), (.int (2 : Int32)), (.int (3 : Int32)), (.int (0 : Int32)), (.int x5_14), (.int x7_33), (.int x9_53)]) (rest := []) (lenOf pd_4 rfl) rfl (by show 2 * 0 + _ ≤ _; exact Nat.le_of_eq rfl) (hb hby at_338) (fun _ _ => ⟨rfl, hs88, (by decide : 4 + 0 ≤ _), (by decide : 15 + 0 ≤ _)⟩)
    dsimp only [Pt.U, Pt.locs, Pt.cells, Pt.slots] at X89 l89 y89 z89 st89 hQ89
    subst l89 y89 z89
    obtain ⟨rfl, N89q, hs89⟩ := hQ89
    have N89 := Fr.app N88 N89q
    refine own_go st89 ?_
    show own_G p e below Φ T89 (mkF m 341 #[.val (.int p0), .val (.int p1), .val (.int p2), .val (.int p3), .val (.int (3 : Int32)), .val (.int x5_14), .val (.int x6_22), .val (.int x7_33), .val (.int x8_42), .val (.int x9_53), .val (.int x10_62), .val (.ref ob66), .val (.int (x8_42 + (1 : Int32))), .val (.ref ob70), .val (.ref b_74), .val (.ref b_78)] [(.int (1 : Int32))])
    refine own_go (fun _ => XS.ifNo X89.here hx rfl (hb hby at_341) rfl (Jvm.Free.XT.i0_eq_f (by decide : ¬ ((1 : Int32) = (0 : Int32))))) ?_
    show own_G p e below Φ T89 (mkF m 344 #[.val (.int p0), .val (.int p1), .val (.int p2), .val (.int p3), .val (.int (3 : Int32)), .val (.int x5_14), .val (.int x6_22), .val (.int x7_33), .val (.int x8_42), .val (.int x9_53), .val (.int x10_62), .val (.ref ob66), .val (.int (x8_42 + (1 : Int32))), .val (.ref ob70), .val (.ref b_74), .val (.ref b_78)] [])
    refine own_go (fun _ => XS.aload X89.here hx rfl (hb hby at_344) rfl rfl) ?_
    show own_G p e below Φ T89 (mkF m 346 #[.val (.int p0), .val (.int p1), .val (.int p2), .val (.int p3), .val (.int (3 : Int32)), .val (.int x5_14), .val (.int x6_22), .val (.int x7_33), .val (.int x8_42), .val (.int x9_53), .val (.int x10_62), .val (.ref ob66), .val (.int (x8_42 + (1 : Int32))), .val (.ref ob70), .val (.ref b_74), .val (.ref b_78)] [(.ref b_74)])
    refine own_go (fun _ => XS.aload X89.here hx rfl (hb hby at_346) rfl rfl) ?_
    show own_G p e below Φ T89 (mkF m 348 #[.val (.int p0), .val (.int p1), .val (.int p2), .val (.int p3), .val (.int (3 : Int32)), .val (.int x5_14), .val (.int x6_22), .val (.int x7_33), .val (.int x8_42), .val (.int x9_53), .val (.int x10_62), .val (.ref ob66), .val (.int (x8_42 + (1 : Int32))), .val (.ref ob70), .val (.ref b_74), .val (.ref b_78)] [(.ref b_78), (.ref b_74)])
    refine own_go (fun _ => XS.iconst X89.here hx rfl (hb hby at_348)) ?_
    show own_G p e below Φ T89 (mkF m 349 #[.val (.int p0), .val (.int p1), .val (.int p2), .val (.int p3), .val (.int (3 : Int32)), .val (.int x5_14), .val (.int x6_22), .val (.int x7_33), .val (.int x8_42), .val (.int x9_53), .val (.int x10_62), .val (.ref ob66), .val (.int (x8_42 + (1 : Int32))), .val (.ref ob70), .val (.ref b_74), .val (.ref b_78)] [(.int (3 : Int32)), (.ref b_78), (.ref b_74)])
    refine own_go (fun _ => XS.iload X89.here hx rfl (hb hby at_349) rfl) ?_
    show own_G p e below Φ T89 (mkF m 351 #[.val (.int p0), .val (.int p1), .val (.int p2), .val (.int p3), .val (.int (3 : Int32)), .val (.int x5_14), .val (.int x6_22), .val (.int x7_33), .val (.int x8_42), .val (.int x9_53), .val (.int x10_62), .val (.ref ob66), .val (.int (x8_42 + (1 : Int32))), .val (.ref ob70), .val (.ref b_74), .val (.ref b_78)] [(.int (3 : Int32)), (.int (3 : Int32)), (.ref b_78), (.ref b_74)])
    refine own_go (fun _ => XS.iconst X89.here hx rfl (hb hby at_351)) ?_
    show own_G p e below Φ T89 (mkF m 352 #[.val (.int p0), .val (.int p1), .val (.int p2), .val (.int p3), .val (.int (3 : Int32)), .val (.int x5_14), .val (.int x6_22), .val (.int x7_33), .val (.int x8_42), .val (.int x9_53), .val (.int x10_62), .val (.ref ob66), .val (.int (x8_42 + (1 : Int32))), .val (.ref ob70), .val (.ref b_74), .val (.ref b_78)] [(.int (0 : Int32)), (.int (3 : Int32)), (.int (3 : Int32)), (.ref b_78), (.ref b_74)])
    refine own_go (fun _ => XS.iload X89.here hx rfl (hb hby at_352) rfl) ?_
    show own_G p e below Φ T89 (mkF m 354 #[.val (.int p0), .val (.int p1), .val (.int p2), .val (.int p3), .val (.int (3 : Int32)), .val (.int x5_14), .val (.int x6_22), .val (.int x7_33), .val (.int x8_42), .val (.int x9_53), .val (.int x10_62), .val (.ref ob66), .val (.int (x8_42 + (1 : Int32))), .val (.ref ob70), .val (.ref b_74), .val (.ref b_78)] [(.int x5_14), (.int (0 : Int32)), (.int (3 : Int32)), (.int (3 : Int32)), (.ref b_78), (.ref b_74)])
    refine own_go (fun _ => XS.iload X89.here hx rfl (hb hby at_354) rfl) ?_
    show own_G p e below Φ T89 (mkF m 356 #[.val (.int p0), .val (.int p1), .val (.int p2), .val (.int p3), .val (.int (3 : Int32)), .val (.int x5_14), .val (.int x6_22), .val (.int x7_33), .val (.int x8_42), .val (.int x9_53), .val (.int x10_62), .val (.ref ob66), .val (.int (x8_42 + (1 : Int32))), .val (.ref ob70), .val (.ref b_74), .val (.ref b_78)] [(.int x7_33), (.int x5_14), (.int (0 : Int32)), (.int (3 : Int32)), (.int (3 : Int32)), (.ref b_78), (.ref b_74)])
    refine own_go (fun _ => XS.iload X89.here hx rfl (hb hby at_356) rfl) ?_
    show own_G p e below Φ T89 (mkF m 358 #[.val (.int p0), .val (.int p1), .val (.int p2), .val (.int p3), .val (.int (3 : Int32)), .val (.int x5_14), .val (.int x6_22), .val (.int x7_33), .val (.int x8_42), .val (.int x9_53), .val (.int x10_62), .val (.ref ob66), .val (.int (x8_42 + (1 : Int32))), .val (.ref ob70), .val (.ref b_74), .val (.ref b_78)] [(.int x9_53), (.int x7_33), (.int x5_14), (.int (0 : Int32)), (.int (3 : Int32)), (.int (3 : Int32)), (.ref b_78), (.ref b_74)])
    obtain ⟨_, _, ⟨T90, zL90, zk90, zn90⟩, -, X90, ⟨Lc90, hQ90, l90, y90, z90⟩, st90⟩ := Jvm.LawKit.callS X89 hx (y := (⟨"com/example/edgewarden/edgewarden/graph/LikenessGetClassSizesPinLaw", "sizeOk", "([I[IIIIIII)Z"⟩ : MethodName)) hown (mvT hZ (wd_24 hw)) (mvT hZ (wd_25 hw)) (mvT hZ (wd_26 hw)) (mvT hZ (wd_27 hw)) (by decide) (backOf (W := 0) (rmK l Z a0 hw [] b_74 b_78 kb_74 kb_78 (own_max (own_max (own_max (0 : Int32) ((0 : Int32) + (1 : Int32))) (x5_14 + (1 : Int32))) (x7_33 + (1 : Int32))) (own_inc (own_inc (own_inc (own_zeros (own_max (own_max (own_max (0 : Int32) ((0 : Int32) + (1 : Int32))) (x5_14 + (1 : Int32))) (x7_33 + (1 : Int32)))) (0 : Int32)) x5_14) x7_33) (3 : Int32) (3 : Int32) (0 : Int32) x5_14 x7_33 x9_53 T78.heap n0 Zp78 f80 p78_0 (by decide) (own_use (P := fun t => (3 : Int32) < (own_max (own_max (own_max (0 : Int32) ((0 : Int32) + (1 : Int32))) (t.1 + (1 : Int32))) (t.2.2.1 + (1 : Int32))) → ((own_inc (own_inc (own_inc (own_zeros (own_max (own_max (own_max (0 : Int32) ((0 : Int32) + (1 : Int32))) (t.1 + (1 : Int32))) (t.2.2.1 + (1 : Int32)))) (0 : Int32)) t.1) t.2.2.1)).getD ((3 : Int32)).toNatClampNeg 0 = own_cnt (3 : Int32) (3 : Int32) (0 : Int32) t.1 t.2.2.1 t.2.2.2.2.1) (by decide +kernel) hall)) hZ (wd_27 hw) (wd_26 hw) (by decide) (by decide)) (g := (mkF m 358 #[.val (.int p0), .val (.int p1), .val (.int p2), .val (.int p3), .val (.int (3 : Int32)), .val (.int x5_14), .val (.int x6_22), .val (.int x7_33), .val (.int x8_42), .val (.int x9_53), .val (.int x10_62), .val (.ref ob66), .val (.int (x8_42 + (1 : Int32))), .val (.ref ob70), .val (.ref b_74), .val (.ref b_78)] [(.int x9_53), (.int x7_33), (.int x5_14), (.int (0 : Int32)), (.int (3 : Int32)), (.int (3 : Int32)), (.ref b_78), (.ref b_74)])) rfl (by rw [hml]; rfl) (argsL := [(.ref b_74), (.ref b_78), (.int (3 : Int32)), (.int (3 : Int32)), (.int (0 : Int32)), (.int x5_14), (.int x7_33), (.int x9_53)]) (rest := []) (lenOf pd_4 rfl) rfl (by show 2 * 0 + _ ≤ _; exact Nat.le_of_eq rfl) (hb hby at_358) (fun _ _ => ⟨rfl, hs89, (by decide : 4 + 0 ≤ _), (by decide : 15 + 0 ≤ _)⟩)
    dsimp only [Pt.U, Pt.locs, Pt.cells, Pt.slots] at X90 l90 y90 z90 st90 hQ90
    subst l90 y90 z90
    obtain ⟨rfl, N90q, hs90⟩ := hQ90
    have N90 := Fr.app N89 N90q
    refine own_go st90 ?_
    show own_G p e below Φ T90 (mkF m 361 #[.val (.int p0), .val (.int p1), .val (.int p2), .val (.int p3), .val (.int (3 : Int32)), .val (.int x5_14), .val (.int x6_22), .val (.int x7_33), .val (.int x8_42), .val (.int x9_53), .val (.int x10_62), .val (.ref ob66), .val (.int (x8_42 + (1 : Int32))), .val (.ref ob70), .val (.ref b_74), .val (.ref b_78)] [(.int (1 : Int32))])
    refine own_go (fun _ => XS.ifNo X90.here hx rfl (hb hby at_361) rfl (Jvm.Free.XT.i0_eq_f (by decide : ¬ ((1 : Int32) = (0 : Int32))))) ?_
    show own_G p e below Φ T90 (mkF m 364 #[.val (.int p0), .val (.int p1), .val (.int p2), .val (.int p3), .val (.int (3 : Int32)), .val (.int x5_14), .val (.int x6_22), .val (.int x7_33), .val (.int x8_42), .val (.int x9_53), .val (.int x10_62), .val (.ref ob66), .val (.int (x8_42 + (1 : Int32))), .val (.ref ob70), .val (.ref b_74), .val (.ref b_78)] [])
    refine own_go (fun _ => XS.iconst X90.here hx rfl (hb hby at_364)) ?_
    show own_G p e below Φ T90 (mkF m 365 #[.val (.int p0), .val (.int p1), .val (.int p2), .val (.int p3), .val (.int (3 : Int32)), .val (.int x5_14), .val (.int x6_22), .val (.int x7_33), .val (.int x8_42), .val (.int x9_53), .val (.int x10_62), .val (.ref ob66), .val (.int (x8_42 + (1 : Int32))), .val (.ref ob70), .val (.ref b_74), .val (.ref b_78)] [(.int (1 : Int32))])
    refine own_go (fun _ => XS.goto X90.here hx rfl (pc0 := 365) (pc' := 369) rfl (hb hby at_365) (by decide) (by decide)) ?_
    show own_G p e below Φ T90 (mkF m 369 #[.val (.int p0), .val (.int p1), .val (.int p2), .val (.int p3), .val (.int (3 : Int32)), .val (.int x5_14), .val (.int x6_22), .val (.int x7_33), .val (.int x8_42), .val (.int x9_53), .val (.int x10_62), .val (.ref ob66), .val (.int (x8_42 + (1 : Int32))), .val (.ref ob70), .val (.ref b_74), .val (.ref b_78)] [(.int (1 : Int32))])
    rw [hΦ]
    refine own_ret X90 (v := some (.int (1 : Int32))) (fun h => by rw [Bd.returns] at h; cases h) (BodyLoose.notSynchronized Bd) (fun fs hr => retN X90 hx (t := .boolean) Bd.returns (by simp) (hb hby at_369) hr) ?_ (by decide) (by decide)
    rw [hs90]
    exact ⟨rfl, N90⟩
  · show own_G p e below Φ T3 (mkF m 64 #[.val (.int p0), .val (.int p1), .val (.int p2), .val (.int p3), .val (.int (4 : Int32)), .val (.int x5_14), .val (.int x6_22), .val (.int x7_33), .val (.int x8_42), .val (.int x9_53), .val (.int x10_62), .unset, .unset, .unset, .unset, .unset] [])
    refine own_go (fun _ => XS.iload X3.here hx rfl (hb hby at_64) rfl) ?_
    show own_G p e below Φ T3 (mkF m 66 #[.val (.int p0), .val (.int p1), .val (.int p2), .val (.int p3), .val (.int (4 : Int32)), .val (.int x5_14), .val (.int x6_22), .val (.int x7_33), .val (.int x8_42), .val (.int x9_53), .val (.int x10_62), .unset, .unset, .unset, .unset, .unset] [(.int (4 : Int32))])
    obtain ⟨T91, h91, ka91, X91, e91, E91, A91, st91⟩ := newP (aty := .int) X3 hx hZ (wd_5 hw) hs3 (g := (mkF m 66 #[.val (.int p0), .val (.int p1), .val (.int p2), .val (.int p3), .val (.int (4 : Int32)), .val (.int x5_14), .val (.int x6_22), .val (.int x7_33), .val (.int x8_42), .val (.int x9_53), .val (.int x10_62), .unset, .unset, .unset, .unset, .unset] [(.int (4 : Int32))])) rfl (hb hby at_66) rfl (by decide) (cap := 4) (by decide) (by decide) (by decide) (by decide)
    obtain ⟨ob91, g91⟩ : ∃ z, z = h0.size := ⟨_, rfl⟩
    rw [← g91] at A91 st91
    have V91 : Arv Z h91 ob91 ka91 .int (4 : Int32) [(.int (0 : Int32)), (.int (0 : Int32)), (.int (0 : Int32)), (.int (0 : Int32))] (.int (0 : Int32)) := (Arv.new A91 (by decide)).pad (pad_rep [] (.int (0 : Int32)) 4)
    have g_ob91 : n0 ≤ ob91 := Nat.le_trans Z0 (Nat.le_of_eq g91.symm)
    have Zp91 : n0 ≤ h91.size := Nat.le_trans Z0 E91.1
    refine own_go st91 ?_
    show own_G p e below Φ T91 (mkF m 68 #[.val (.int p0), .val (.int p1), .val (.int p2), .val (.int p3), .val (.int (4 : Int32)), .val (.int x5_14), .val (.int x6_22), .val (.int x7_33), .val (.int x8_42), .val (.int x9_53), .val (.int x10_62), .unset, .unset, .unset, .unset, .unset] [(.ref ob91)])
    refine own_go (fun _ => XS.astore X91.here hx rfl (hb hby at_68) rfl rfl (l' := #[.val (.int p0), .val (.int p1), .val (.int p2), .val (.int p3), .val (.int (4 : Int32)), .val (.int x5_14), .val (.int x6_22), .val (.int x7_33), .val (.int x8_42), .val (.int x9_53), .val (.int x10_62), .val (.ref ob91), .unset, .unset, .unset, .unset]) rfl) ?_
    show own_G p e below Φ T91 (mkF m 70 #[.val (.int p0), .val (.int p1), .val (.int p2), .val (.int p3), .val (.int (4 : Int32)), .val (.int x5_14), .val (.int x6_22), .val (.int x7_33), .val (.int x8_42), .val (.int x9_53), .val (.int x10_62), .val (.ref ob91), .unset, .unset, .unset, .unset] [])
    refine own_go (fun _ => XS.iload X91.here hx rfl (hb hby at_70) rfl) ?_
    show own_G p e below Φ T91 (mkF m 72 #[.val (.int p0), .val (.int p1), .val (.int p2), .val (.int p3), .val (.int (4 : Int32)), .val (.int x5_14), .val (.int x6_22), .val (.int x7_33), .val (.int x8_42), .val (.int x9_53), .val (.int x10_62), .val (.ref ob91), .unset, .unset, .unset, .unset] [(.int (4 : Int32))])
    refine own_go (fun _ => XS.ifNo X91.here hx rfl (hb hby at_72) rfl (Jvm.Free.XT.i0_le_f (by decide : ((0 : Int32) < (4 : Int32))))) ?_
    show own_G p e below Φ T91 (mkF m 75 #[.val (.int p0), .val (.int p1), .val (.int p2), .val (.int p3), .val (.int (4 : Int32)), .val (.int x5_14), .val (.int x6_22), .val (.int x7_33), .val (.int x8_42), .val (.int x9_53), .val (.int x10_62), .val (.ref ob91), .unset, .unset, .unset, .unset] [])
    refine own_go (fun _ => XS.aload X91.here hx rfl (hb hby at_75) rfl rfl) ?_
    show own_G p e below Φ T91 (mkF m 77 #[.val (.int p0), .val (.int p1), .val (.int p2), .val (.int p3), .val (.int (4 : Int32)), .val (.int x5_14), .val (.int x6_22), .val (.int x7_33), .val (.int x8_42), .val (.int x9_53), .val (.int x10_62), .val (.ref ob91), .unset, .unset, .unset, .unset] [(.ref ob91)])
    refine own_go (fun _ => XS.iconst X91.here hx rfl (hb hby at_77)) ?_
    show own_G p e below Φ T91 (mkF m 78 #[.val (.int p0), .val (.int p1), .val (.int p2), .val (.int p3), .val (.int (4 : Int32)), .val (.int x5_14), .val (.int x6_22), .val (.int x7_33), .val (.int x8_42), .val (.int x9_53), .val (.int x10_62), .val (.ref ob91), .unset, .unset, .unset, .unset] [(.int (0 : Int32)), (.ref ob91)])
    refine own_go (fun _ => XS.iconst X91.here hx rfl (hb hby at_78)) ?_
    show own_G p e below Φ T91 (mkF m 79 #[.val (.int p0), .val (.int p1), .val (.int p2), .val (.int p3), .val (.int (4 : Int32)), .val (.int x5_14), .val (.int x6_22), .val (.int x7_33), .val (.int x8_42), .val (.int x9_53), .val (.int x10_62), .val (.ref ob91), .unset, .unset, .unset, .unset] [(.int (0 : Int32)), (.int (0 : Int32)), (.ref ob91)])
    obtain ⟨cl92, Ar92, q92, S92, M92, H92, G92⟩ := id V91
    have hin92 : ¬ ((0 : Int32) < 0 ∨ cl92.slots.size ≤ ((0 : Int32)).toNatClampNeg) := inb_of S92 ⟨by decide, by decide⟩
    obtain ⟨T92, h92, X92, e92, W92, st92⟩ := stI X91 hx hZ e91 Ar92 (j := (0 : Int32)) hin92 (g := (mkF m 79 #[.val (.int p0), .val (.int p1), .val (.int p2), .val (.int p3), .val (.int (4 : Int32)), .val (.int x5_14), .val (.int x6_22), .val (.int x7_33), .val (.int x8_42), .val (.int x9_53), .val (.int x10_62), .val (.ref ob91), .unset, .unset, .unset, .unset] [(.int (0 : Int32)), (.int (0 : Int32)), (.ref ob91)])) rfl rfl (hb hby at_79)
    refine own_go st92 ?_
    have V92 : Arv Z h92 ob91 ka91 .int (4 : Int32) [(.int (0 : Int32)), (.int (0 : Int32)), (.int (0 : Int32)), (.int (0 : Int32))] (.int (0 : Int32)) := Arv.set Ar92 q92 S92 M92 H92 G92 rfl W92 0 rfl (Nat.le_of_ble_eq_true rfl)
    have N92 := Fr.snoc X92 N3 g_ob91
    have Zp92 : n0 ≤ h92.size := Nat.le_trans Zp91 (Keep.of_wr W92).1
    show own_G p e below Φ T92 (mkF m 80 #[.val (.int p0), .val (.int p1), .val (.int p2), .val (.int p3), .val (.int (4 : Int32)), .val (.int x5_14), .val (.int x6_22), .val (.int x7_33), .val (.int x8_42), .val (.int x9_53), .val (.int x10_62), .val (.ref ob91), .unset, .unset, .unset, .unset] [])
    refine own_go (fun _ => XS.iload X92.here hx rfl (hb hby at_80) rfl) ?_
    show own_G p e below Φ T92 (mkF m 82 #[.val (.int p0), .val (.int p1), .val (.int p2), .val (.int p3), .val (.int (4 : Int32)), .val (.int x5_14), .val (.int x6_22), .val (.int x7_33), .val (.int x8_42), .val (.int x9_53), .val (.int x10_62), .val (.ref ob91), .unset, .unset, .unset, .unset] [(.int (4 : Int32))])
    refine own_go (fun _ => XS.iconst X92.here hx rfl (hb hby at_82)) ?_
    show own_G p e below Φ T92 (mkF m 83 #[.val (.int p0), .val (.int p1), .val (.int p2), .val (.int p3), .val (.int (4 : Int32)), .val (.int x5_14), .val (.int x6_22), .val (.int x7_33), .val (.int x8_42), .val (.int x9_53), .val (.int x10_62), .val (.ref ob91), .unset, .unset, .unset, .unset] [(.int (1 : Int32)), (.int (4 : Int32))])
    refine own_go (fun _ => XS.icmpNo X92.here hx rfl (hb hby at_83) rfl (Jvm.Free.XT.ii_le_f (by decide : ((1 : Int32) < (4 : Int32))))) ?_
    show own_G p e below Φ T92 (mkF m 86 #[.val (.int p0), .val (.int p1), .val (.int p2), .val (.int p3), .val (.int (4 : Int32)), .val (.int x5_14), .val (.int x6_22), .val (.int x7_33), .val (.int x8_42), .val (.int x9_53), .val (.int x10_62), .val (.ref ob91), .unset, .unset, .unset, .unset] [])
    refine own_go (fun _ => XS.aload X92.here hx rfl (hb hby at_86) rfl rfl) ?_
    show own_G p e below Φ T92 (mkF m 88 #[.val (.int p0), .val (.int p1), .val (.int p2), .val (.int p3), .val (.int (4 : Int32)), .val (.int x5_14), .val (.int x6_22), .val (.int x7_33), .val (.int x8_42), .val (.int x9_53), .val (.int x10_62), .val (.ref ob91), .unset, .unset, .unset, .unset] [(.ref ob91)])
    refine own_go (fun _ => XS.iconst X92.here hx rfl (hb hby at_88)) ?_
    show own_G p e below Φ T92 (mkF m 89 #[.val (.int p0), .val (.int p1), .val (.int p2), .val (.int p3), .val (.int (4 : Int32)), .val (.int x5_14), .val (.int x6_22), .val (.int x7_33), .val (.int x8_42), .val (.int x9_53), .val (.int x10_62), .val (.ref ob91), .unset, .unset, .unset, .unset] [(.int (1 : Int32)), (.ref ob91)])
    refine own_go (fun _ => XS.iload X92.here hx rfl (hb hby at_89) rfl) ?_
    show own_G p e below Φ T92 (mkF m 91 #[.val (.int p0), .val (.int p1), .val (.int p2), .val (.int p3), .val (.int (4 : Int32)), .val (.int x5_14), .val (.int x6_22), .val (.int x7_33), .val (.int x8_42), .val (.int x9_53), .val (.int x10_62), .val (.ref ob91), .unset, .unset, .unset, .unset] [(.int x5_14), (.int (1 : Int32)), (.ref ob91)])
    obtain ⟨cl93, Ar93, q93, S93, M93, H93, G93⟩ := id V92
    have hin93 : ¬ ((1 : Int32) < 0 ∨ cl93.slots.size ≤ ((1 : Int32)).toNatClampNeg) := inb_of S93 ⟨by decide, by decide⟩
    obtain ⟨T93, h93, X93, e93, W93, st93⟩ := stI X92 hx hZ e92 Ar93 (j := (1 : Int32)) hin93 (g := (mkF m 91 #[.val (.int p0), .val (.int p1), .val (.int p2), .val (.int p3), .val (.int (4 : Int32)), .val (.int x5_14), .val (.int x6_22), .val (.int x7_33), .val (.int x8_42), .val (.int x9_53), .val (.int x10_62), .val (.ref ob91), .unset, .unset, .unset, .unset] [(.int x5_14), (.int (1 : Int32)), (.ref ob91)])) rfl rfl (hb hby at_91)
    refine own_go st93 ?_
    have V93 : Arv Z h93 ob91 ka91 .int (4 : Int32) [(.int (0 : Int32)), (.int x5_14), (.int (0 : Int32)), (.int (0 : Int32))] (.int (0 : Int32)) := Arv.set Ar93 q93 S93 M93 H93 G93 rfl W93 1 rfl (Nat.le_of_ble_eq_true rfl)
    have N93 := Fr.snoc X93 N92 g_ob91
    have Zp93 : n0 ≤ h93.size := Nat.le_trans Zp92 (Keep.of_wr W93).1
    show own_G p e below Φ T93 (mkF m 92 #[.val (.int p0), .val (.int p1), .val (.int p2), .val (.int p3), .val (.int (4 : Int32)), .val (.int x5_14), .val (.int x6_22), .val (.int x7_33), .val (.int x8_42), .val (.int x9_53), .val (.int x10_62), .val (.ref ob91), .unset, .unset, .unset, .unset] [])
    refine own_go (fun _ => XS.iload X93.here hx rfl (hb hby at_92) rfl) ?_
    show own_G p e below Φ T93 (mkF m 94 #[.val (.int p0), .val (.int p1), .val (.int p2), .val (.int p3), .val (.int (4 : Int32)), .val (.int x5_14), .val (.int x6_22), .val (.int x7_33), .val (.int x8_42), .val (.int x9_53), .val (.int x10_62), .val (.ref ob91), .unset, .unset, .unset, .unset] [(.int (4 : Int32))])
    refine own_go (fun _ => XS.iconst X93.here hx rfl (hb hby at_94)) ?_
    show own_G p e below Φ T93 (mkF m 95 #[.val (.int p0), .val (.int p1), .val (.int p2), .val (.int p3), .val (.int (4 : Int32)), .val (.int x5_14), .val (.int x6_22), .val (.int x7_33), .val (.int x8_42), .val (.int x9_53), .val (.int x10_62), .val (.ref ob91), .unset, .unset, .unset, .unset] [(.int (2 : Int32)), (.int (4 : Int32))])
    refine own_go (fun _ => XS.icmpNo X93.here hx rfl (hb hby at_95) rfl (Jvm.Free.XT.ii_le_f (by decide : ((2 : Int32) < (4 : Int32))))) ?_
    show own_G p e below Φ T93 (mkF m 98 #[.val (.int p0), .val (.int p1), .val (.int p2), .val (.int p3), .val (.int (4 : Int32)), .val (.int x5_14), .val (.int x6_22), .val (.int x7_33), .val (.int x8_42), .val (.int x9_53), .val (.int x10_62), .val (.ref ob91), .unset, .unset, .unset, .unset] [])
    refine own_go (fun _ => XS.aload X93.here hx rfl (hb hby at_98) rfl rfl) ?_
    show own_G p e below Φ T93 (mkF m 100 #[.val (.int p0), .val (.int p1), .val (.int p2), .val (.int p3), .val (.int (4 : Int32)), .val (.int x5_14), .val (.int x6_22), .val (.int x7_33), .val (.int x8_42), .val (.int x9_53), .val (.int x10_62), .val (.ref ob91), .unset, .unset, .unset, .unset] [(.ref ob91)])
    refine own_go (fun _ => XS.iconst X93.here hx rfl (hb hby at_100)) ?_
    show own_G p e below Φ T93 (mkF m 101 #[.val (.int p0), .val (.int p1), .val (.int p2), .val (.int p3), .val (.int (4 : Int32)), .val (.int x5_14), .val (.int x6_22), .val (.int x7_33), .val (.int x8_42), .val (.int x9_53), .val (.int x10_62), .val (.ref ob91), .unset, .unset, .unset, .unset] [(.int (2 : Int32)), (.ref ob91)])
    refine own_go (fun _ => XS.iload X93.here hx rfl (hb hby at_101) rfl) ?_
    show own_G p e below Φ T93 (mkF m 103 #[.val (.int p0), .val (.int p1), .val (.int p2), .val (.int p3), .val (.int (4 : Int32)), .val (.int x5_14), .val (.int x6_22), .val (.int x7_33), .val (.int x8_42), .val (.int x9_53), .val (.int x10_62), .val (.ref ob91), .unset, .unset, .unset, .unset] [(.int x7_33), (.int (2 : Int32)), (.ref ob91)])
    obtain ⟨cl94, Ar94, q94, S94, M94, H94, G94⟩ := id V93
    have hin94 : ¬ ((2 : Int32) < 0 ∨ cl94.slots.size ≤ ((2 : Int32)).toNatClampNeg) := inb_of S94 ⟨by decide, by decide⟩
    obtain ⟨T94, h94, X94, e94, W94, st94⟩ := stI X93 hx hZ e93 Ar94 (j := (2 : Int32)) hin94 (g := (mkF m 103 #[.val (.int p0), .val (.int p1), .val (.int p2), .val (.int p3), .val (.int (4 : Int32)), .val (.int x5_14), .val (.int x6_22), .val (.int x7_33), .val (.int x8_42), .val (.int x9_53), .val (.int x10_62), .val (.ref ob91), .unset, .unset, .unset, .unset] [(.int x7_33), (.int (2 : Int32)), (.ref ob91)])) rfl rfl (hb hby at_103)
    refine own_go st94 ?_
    have V94 : Arv Z h94 ob91 ka91 .int (4 : Int32) [(.int (0 : Int32)), (.int x5_14), (.int x7_33), (.int (0 : Int32))] (.int (0 : Int32)) := Arv.set Ar94 q94 S94 M94 H94 G94 rfl W94 2 rfl (Nat.le_of_ble_eq_true rfl)
    have N94 := Fr.snoc X94 N93 g_ob91
    have Zp94 : n0 ≤ h94.size := Nat.le_trans Zp93 (Keep.of_wr W94).1
    show own_G p e below Φ T94 (mkF m 104 #[.val (.int p0), .val (.int p1), .val (.int p2), .val (.int p3), .val (.int (4 : Int32)), .val (.int x5_14), .val (.int x6_22), .val (.int x7_33), .val (.int x8_42), .val (.int x9_53), .val (.int x10_62), .val (.ref ob91), .unset, .unset, .unset, .unset] [])
    refine own_go (fun _ => XS.iload X94.here hx rfl (hb hby at_104) rfl) ?_
    show own_G p e below Φ T94 (mkF m 106 #[.val (.int p0), .val (.int p1), .val (.int p2), .val (.int p3), .val (.int (4 : Int32)), .val (.int x5_14), .val (.int x6_22), .val (.int x7_33), .val (.int x8_42), .val (.int x9_53), .val (.int x10_62), .val (.ref ob91), .unset, .unset, .unset, .unset] [(.int (4 : Int32))])
    refine own_go (fun _ => XS.iconst X94.here hx rfl (hb hby at_106)) ?_
    show own_G p e below Φ T94 (mkF m 107 #[.val (.int p0), .val (.int p1), .val (.int p2), .val (.int p3), .val (.int (4 : Int32)), .val (.int x5_14), .val (.int x6_22), .val (.int x7_33), .val (.int x8_42), .val (.int x9_53), .val (.int x10_62), .val (.ref ob91), .unset, .unset, .unset, .unset] [(.int (3 : Int32)), (.int (4 : Int32))])
    refine own_go (fun _ => XS.icmpNo X94.here hx rfl (hb hby at_107) rfl (Jvm.Free.XT.ii_le_f (by decide : ((3 : Int32) < (4 : Int32))))) ?_
    show own_G p e below Φ T94 (mkF m 110 #[.val (.int p0), .val (.int p1), .val (.int p2), .val (.int p3), .val (.int (4 : Int32)), .val (.int x5_14), .val (.int x6_22), .val (.int x7_33), .val (.int x8_42), .val (.int x9_53), .val (.int x10_62), .val (.ref ob91), .unset, .unset, .unset, .unset] [])
    refine own_go (fun _ => XS.aload X94.here hx rfl (hb hby at_110) rfl rfl) ?_
    show own_G p e below Φ T94 (mkF m 112 #[.val (.int p0), .val (.int p1), .val (.int p2), .val (.int p3), .val (.int (4 : Int32)), .val (.int x5_14), .val (.int x6_22), .val (.int x7_33), .val (.int x8_42), .val (.int x9_53), .val (.int x10_62), .val (.ref ob91), .unset, .unset, .unset, .unset] [(.ref ob91)])
    refine own_go (fun _ => XS.iconst X94.here hx rfl (hb hby at_112)) ?_
    show own_G p e below Φ T94 (mkF m 113 #[.val (.int p0), .val (.int p1), .val (.int p2), .val (.int p3), .val (.int (4 : Int32)), .val (.int x5_14), .val (.int x6_22), .val (.int x7_33), .val (.int x8_42), .val (.int x9_53), .val (.int x10_62), .val (.ref ob91), .unset, .unset, .unset, .unset] [(.int (3 : Int32)), (.ref ob91)])
    refine own_go (fun _ => XS.iload X94.here hx rfl (hb hby at_113) rfl) ?_
    show own_G p e below Φ T94 (mkF m 115 #[.val (.int p0), .val (.int p1), .val (.int p2), .val (.int p3), .val (.int (4 : Int32)), .val (.int x5_14), .val (.int x6_22), .val (.int x7_33), .val (.int x8_42), .val (.int x9_53), .val (.int x10_62), .val (.ref ob91), .unset, .unset, .unset, .unset] [(.int x9_53), (.int (3 : Int32)), (.ref ob91)])
    obtain ⟨cl95, Ar95, q95, S95, M95, H95, G95⟩ := id V94
    have hin95 : ¬ ((3 : Int32) < 0 ∨ cl95.slots.size ≤ ((3 : Int32)).toNatClampNeg) := inb_of S95 ⟨by decide, by decide⟩
    obtain ⟨T95, h95, X95, e95, W95, st95⟩ := stI X94 hx hZ e94 Ar95 (j := (3 : Int32)) hin95 (g := (mkF m 115 #[.val (.int p0), .val (.int p1), .val (.int p2), .val (.int p3), .val (.int (4 : Int32)), .val (.int x5_14), .val (.int x6_22), .val (.int x7_33), .val (.int x8_42), .val (.int x9_53), .val (.int x10_62), .val (.ref ob91), .unset, .unset, .unset, .unset] [(.int x9_53), (.int (3 : Int32)), (.ref ob91)])) rfl rfl (hb hby at_115)
    refine own_go st95 ?_
    have V95 : Arv Z h95 ob91 ka91 .int (4 : Int32) [(.int (0 : Int32)), (.int x5_14), (.int x7_33), (.int x9_53)] (.int (0 : Int32)) := Arv.set Ar95 q95 S95 M95 H95 G95 rfl W95 3 rfl (Nat.le_of_ble_eq_true rfl)
    have N95 := Fr.snoc X95 N94 g_ob91
    have Zp95 : n0 ≤ h95.size := Nat.le_trans Zp94 (Keep.of_wr W95).1
    show own_G p e below Φ T95 (mkF m 116 #[.val (.int p0), .val (.int p1), .val (.int p2), .val (.int p3), .val (.int (4 : Int32)), .val (.int x5_14), .val (.int x6_22), .val (.int x7_33), .val (.int x8_42), .val (.int x9_53), .val (.int x10_62), .val (.ref ob91), .unset, .unset, .unset, .unset] [])
    refine own_go (fun _ => XS.iload X95.here hx rfl (hb hby at_116) rfl) ?_
    show own_G p e below Φ T95 (mkF m 118 #[.val (.int p0), .val (.int p1), .val (.int p2), .val (.int p3), .val (.int (4 : Int32)), .val (.int x5_14), .val (.int x6_22), .val (.int x7_33), .val (.int x8_42), .val (.int x9_53), .val (.int x10_62), .val (.ref ob91), .unset, .unset, .unset, .unset] [(.int (4 : Int32))])
    refine own_go (fun _ => XS.ifYes X95.here hx rfl (pc0 := 118) (pc' := 125) rfl (hb hby at_118) rfl (Jvm.Free.XT.i0_ne_t (by decide : ¬ ((4 : Int32) = (0 : Int32)))) (by decide) (by decide)) ?_
    show own_G p e below Φ T95 (mkF m 125 #[.val (.int p0), .val (.int p1), .val (.int p2), .val (.int p3), .val (.int (4 : Int32)), .val (.int x5_14), .val (.int x6_22), .val (.int x7_33), .val (.int x8_42), .val (.int x9_53), .val (.int x10_62), .val (.ref ob91), .unset, .unset, .unset, .unset] [])
    refine own_go (fun _ => XS.iload X95.here hx rfl (hb hby at_125) rfl) ?_
    show own_G p e below Φ T95 (mkF m 127 #[.val (.int p0), .val (.int p1), .val (.int p2), .val (.int p3), .val (.int (4 : Int32)), .val (.int x5_14), .val (.int x6_22), .val (.int x7_33), .val (.int x8_42), .val (.int x9_53), .val (.int x10_62), .val (.ref ob91), .unset, .unset, .unset, .unset] [(.int (4 : Int32))])
    refine own_go (fun _ => XS.iconst X95.here hx rfl (hb hby at_127)) ?_
    show own_G p e below Φ T95 (mkF m 128 #[.val (.int p0), .val (.int p1), .val (.int p2), .val (.int p3), .val (.int (4 : Int32)), .val (.int x5_14), .val (.int x6_22), .val (.int x7_33), .val (.int x8_42), .val (.int x9_53), .val (.int x10_62), .val (.ref ob91), .unset, .unset, .unset, .unset] [(.int (1 : Int32)), (.int (4 : Int32))])
    refine own_go (fun _ => XS.icmpYes X95.here hx rfl (pc0 := 128) (pc' := 135) rfl (hb hby at_128) rfl (Jvm.Free.XT.ii_ne_t (by decide : ¬ ((4 : Int32) = (1 : Int32)))) (by decide) (by decide)) ?_
    show own_G p e below Φ T95 (mkF m 135 #[.val (.int p0), .val (.int p1), .val (.int p2), .val (.int p3), .val (.int (4 : Int32)), .val (.int x5_14), .val (.int x6_22), .val (.int x7_33), .val (.int x8_42), .val (.int x9_53), .val (.int x10_62), .val (.ref ob91), .unset, .unset, .unset, .unset] [])
    refine own_go (fun _ => XS.iload X95.here hx rfl (hb hby at_135) rfl) ?_
    show own_G p e below Φ T95 (mkF m 137 #[.val (.int p0), .val (.int p1), .val (.int p2), .val (.int p3), .val (.int (4 : Int32)), .val (.int x5_14), .val (.int x6_22), .val (.int x7_33), .val (.int x8_42), .val (.int x9_53), .val (.int x10_62), .val (.ref ob91), .unset, .unset, .unset, .unset] [(.int (4 : Int32))])
    refine own_go (fun _ => XS.iconst X95.here hx rfl (hb hby at_137)) ?_
    show own_G p e below Φ T95 (mkF m 138 #[.val (.int p0), .val (.int p1), .val (.int p2), .val (.int p3), .val (.int (4 : Int32)), .val (.int x5_14), .val (.int x6_22), .val (.int x7_33), .val (.int x8_42), .val (.int x9_53), .val (.int x10_62), .val (.ref ob91), .unset, .unset, .unset, .unset] [(.int (2 : Int32)), (.int (4 : Int32))])
    refine own_go (fun _ => XS.icmpYes X95.here hx rfl (pc0 := 138) (pc' := 148) rfl (hb hby at_138) rfl (Jvm.Free.XT.ii_ne_t (by decide : ¬ ((4 : Int32) = (2 : Int32)))) (by decide) (by decide)) ?_
    show own_G p e below Φ T95 (mkF m 148 #[.val (.int p0), .val (.int p1), .val (.int p2), .val (.int p3), .val (.int (4 : Int32)), .val (.int x5_14), .val (.int x6_22), .val (.int x7_33), .val (.int x8_42), .val (.int x9_53), .val (.int x10_62), .val (.ref ob91), .unset, .unset, .unset, .unset] [])
    refine own_go (fun _ => XS.iload X95.here hx rfl (hb hby at_148) rfl) ?_
    show own_G p e below Φ T95 (mkF m 150 #[.val (.int p0), .val (.int p1), .val (.int p2), .val (.int p3), .val (.int (4 : Int32)), .val (.int x5_14), .val (.int x6_22), .val (.int x7_33), .val (.int x8_42), .val (.int x9_53), .val (.int x10_62), .val (.ref ob91), .unset, .unset, .unset, .unset] [(.int (4 : Int32))])
    refine own_go (fun _ => XS.iconst X95.here hx rfl (hb hby at_150)) ?_
    show own_G p e below Φ T95 (mkF m 151 #[.val (.int p0), .val (.int p1), .val (.int p2), .val (.int p3), .val (.int (4 : Int32)), .val (.int x5_14), .val (.int x6_22), .val (.int x7_33), .val (.int x8_42), .val (.int x9_53), .val (.int x10_62), .val (.ref ob91), .unset, .unset, .unset, .unset] [(.int (3 : Int32)), (.int (4 : Int32))])
    refine own_go (fun _ => XS.icmpYes X95.here hx rfl (pc0 := 151) (pc' := 161) rfl (hb hby at_151) rfl (Jvm.Free.XT.ii_ne_t (by decide : ¬ ((4 : Int32) = (3 : Int32)))) (by decide) (by decide)) ?_
    show own_G p e below Φ T95 (mkF m 161 #[.val (.int p0), .val (.int p1), .val (.int p2), .val (.int p3), .val (.int (4 : Int32)), .val (.int x5_14), .val (.int x6_22), .val (.int x7_33), .val (.int x8_42), .val (.int x9_53), .val (.int x10_62), .val (.ref ob91), .unset, .unset, .unset, .unset] [])
    refine own_go (fun _ => XS.iload X95.here hx rfl (hb hby at_161) rfl) ?_
    show own_G p e below Φ T95 (mkF m 163 #[.val (.int p0), .val (.int p1), .val (.int p2), .val (.int p3), .val (.int (4 : Int32)), .val (.int x5_14), .val (.int x6_22), .val (.int x7_33), .val (.int x8_42), .val (.int x9_53), .val (.int x10_62), .val (.ref ob91), .unset, .unset, .unset, .unset] [(.int x10_62)])
    refine own_go (fun _ => XS.iconst X95.here hx rfl (hb hby at_163)) ?_
    show own_G p e below Φ T95 (mkF m 164 #[.val (.int p0), .val (.int p1), .val (.int p2), .val (.int p3), .val (.int (4 : Int32)), .val (.int x5_14), .val (.int x6_22), .val (.int x7_33), .val (.int x8_42), .val (.int x9_53), .val (.int x10_62), .val (.ref ob91), .unset, .unset, .unset, .unset] [(.int (1 : Int32)), (.int x10_62)])
    refine own_go (fun _ => XS.iadd X95.here hx rfl (hb hby at_164) rfl) ?_
    show own_G p e below Φ T95 (mkF m 165 #[.val (.int p0), .val (.int p1), .val (.int p2), .val (.int p3), .val (.int (4 : Int32)), .val (.int x5_14), .val (.int x6_22), .val (.int x7_33), .val (.int x8_42), .val (.int x9_53), .val (.int x10_62), .val (.ref ob91), .unset, .unset, .unset, .unset] [(.int (x10_62 + (1 : Int32)))])
    refine own_go (fun _ => XS.istore X95.here hx rfl (hb hby at_165) rfl (l' := #[.val (.int p0), .val (.int p1), .val (.int p2), .val (.int p3), .val (.int (4 : Int32)), .val (.int x5_14), .val (.int x6_22), .val (.int x7_33), .val (.int x8_42), .val (.int x9_53), .val (.int x10_62), .val (.ref ob91), .val (.int (x10_62 + (1 : Int32))), .unset, .unset, .unset]) rfl) ?_
    show own_G p e below Φ T95 (mkF m 167 #[.val (.int p0), .val (.int p1), .val (.int p2), .val (.int p3), .val (.int (4 : Int32)), .val (.int x5_14), .val (.int x6_22), .val (.int x7_33), .val (.int x8_42), .val (.int x9_53), .val (.int x10_62), .val (.ref ob91), .val (.int (x10_62 + (1 : Int32))), .unset, .unset, .unset] [])
    obtain ⟨T96, h96, X96, e96, E96, A96, D96, -, st96⟩ := newO X95 hx hZ hown (wd_6 hw) (wd_7 hw) (wd_8 hw) e95 (g := (mkF m 167 #[.val (.int p0), .val (.int p1), .val (.int p2), .val (.int p3), .val (.int (4 : Int32)), .val (.int x5_14), .val (.int x6_22), .val (.int x7_33), .val (.int x8_42), .val (.int x9_53), .val (.int x10_62), .val (.ref ob91), .val (.int (x10_62 + (1 : Int32))), .unset, .unset, .unset] [])) rfl (hb hby at_167) (by decide) (by decide)
    obtain ⟨ob96, g96⟩ : ∃ z, z = h95.size := ⟨_, rfl⟩
    rw [← g96] at A96 D96 st96
    have ne_ob91_ob96 : ob91 ≠ ob96 := Nat.ne_of_lt (Nat.lt_of_lt_of_le V95.lt (Nat.le_of_eq g96.symm))
    have g_ob96 : n0 ≤ ob96 := Nat.le_trans Zp95 (Nat.le_of_eq g96.symm)
    have Zp96 : n0 ≤ h96.size := Nat.le_trans Zp95 E96.1
    refine own_go st96 ?_
    have F_m_aClasses_ob96 : Fld Z h96 ob96 "com/example/edgewarden/edgewarden/graph/Likeness" "m_aClasses" "[I" .null := D96 (Or.inr (wd_16 hw)) (ty := (.array .int)) (by decide)
    have F_m_nClassCount_ob96 : Fld Z h96 ob96 "com/example/edgewarden/edgewarden/graph/Likeness" "m_nClassCount" "I" (.int (0 : Int32)) := D96 (Or.inr (wd_18 hw)) (ty := .int) (by decide)
    show own_G p e below Φ T96 (mkF m 170 #[.val (.int p0), .val (.int p1), .val (.int p2), .val (.int p3), .val (.int (4 : Int32)), .val (.int x5_14), .val (.int x6_22), .val (.int x7_33), .val (.int x8_42), .val (.int x9_53), .val (.int x10_62), .val (.ref ob91), .val (.int (x10_62 + (1 : Int32))), .unset, .unset, .unset] [(.ref ob96)])
    refine own_go (fun _ => XS.dup X96.here hx rfl (hb hby at_170) rfl rfl) ?_
    show own_G p e below Φ T96 (mkF m 171 #[.val (.int p0), .val (.int p1), .val (.int p2), .val (.int p3), .val (.int (4 : Int32)), .val (.int x5_14), .val (.int x6_22), .val (.int x7_33), .val (.int x8_42), .val (.int x9_53), .val (.int x10_62), .val (.ref ob91), .val (.int (x10_62 + (1 : Int32))), .unset, .unset, .unset] [(.ref ob96), (.ref ob96)])
    refine own_go (fun _ => XS.aload X96.here hx rfl (hb hby at_171) rfl rfl) ?_
    show own_G p e below Φ T96 (mkF m 173 #[.val (.int p0), .val (.int p1), .val (.int p2), .val (.int p3), .val (.int (4 : Int32)), .val (.int x5_14), .val (.int x6_22), .val (.int x7_33), .val (.int x8_42), .val (.int x9_53), .val (.int x10_62), .val (.ref ob91), .val (.int (x10_62 + (1 : Int32))), .unset, .unset, .unset] [(.ref ob91), (.ref ob96), (.ref ob96)])
    have f97 : Arv Z h96 ob91 ka91 .int (4 : Int32) [(.int (0 : Int32)), (.int x5_14), (.int x7_33), (.int x9_53)] (.int (0 : Int32)) := V95.ext E96
    obtain ⟨_, _, ⟨T98, zL98, zk98, zn98⟩, -, X98, ⟨Lc98, hQ98, l98, y98, z98⟩, st98⟩ := X96.specialBack hx (y := (⟨"com/example/edgewarden/edgewarden/graph/Likeness", "<init>", "([I)V"⟩ : MethodName)) rfl hown (mvT hZ (wd_9 hw)) (mvT hZ (wd_10 hw)) (mvT hZ (wd_11 hw)) (by decide) (backOf (W := 1) (rmI4 l Z a0 hw [] ob96 ob91 ka91 (0 : Int32) x5_14 x7_33 x9_53 .null (.int (0 : Int32)) h96 n0 Zp96 A96 F_m_aClasses_ob96 F_m_nClassCount_ob96 g_ob96 f97 ne_ob91_ob96) hZ (wd_11 hw) (wd_8 hw) (by decide) (by decide)) (g := (mkF m 173 #[.val (.int p0), .val (.int p1), .val (.int p2), .val (.int p3), .val (.int (4 : Int32)), .val (.int x5_14), .val (.int x6_22), .val (.int x7_33), .val (.int x8_42), .val (.int x9_53), .val (.int x10_62), .val (.ref ob91), .val (.int (x10_62 + (1 : Int32))), .unset, .unset, .unset] [(.ref ob91), (.ref ob96), (.ref ob96)])) rfl (by rw [hml]; rfl) (Steps.refl _) (a := ob96) (argsL := [(.ref ob91)]) (rest := [(.ref ob96)]) (lenOf pd_2 rfl) rfl (by show 2 * 0 + _ ≤ _; exact Nat.le_of_eq rfl) (hb hby at_173) (fun _ _ => ⟨rfl, e96, (by decide : 2 + 0 ≤ _), (by decide : 6 + 0 ≤ _)⟩)
    dsimp only [Pt.U, Pt.locs, Pt.cells, Pt.slots] at X98 l98 y98 z98 st98 hQ98
    subst l98 y98 z98
    obtain ⟨rfl, N98q, Kq98, p98_0, p98_1, p98_2⟩ := hQ98
    have N98 := Fr.app N95 N98q
    refine own_on st98 ?_
    have Zp98 : n0 ≤ T98.heap.size := Nat.le_trans Zp96 Kq98.1
    show own_G p e below Φ T98 (mkF m 176 #[.val (.int p0), .val (.int p1), .val (.int p2), .val (.int p3), .val (.int (4 : Int32)), .val (.int x5_14), .val (.int x6_22), .val (.int x7_33), .val (.int x8_42), .val (.int x9_53), .val (.int x10_62), .val (.ref ob91), .val (.int (x10_62 + (1 : Int32))), .unset, .unset, .unset] [(.ref ob96)])
    refine own_go (fun _ => XS.astore X98.here hx rfl (hb hby at_176) rfl rfl (l' := #[.val (.int p0), .val (.int p1), .val (.int p2), .val (.int p3), .val (.int (4 : Int32)), .val (.int x5_14), .val (.int x6_22), .val (.int x7_33), .val (.int x8_42), .val (.int x9_53), .val (.int x10_62), .val (.ref ob91), .val (.int (x10_62 + (1 : Int32))), .val (.ref ob96), .unset, .unset]) rfl) ?_
    show own_G p e below Φ T98 (mkF m 178 #[.val (.int p0), .val (.int p1), .val (.int p2), .val (.int p3), .val (.int (4 : Int32)), .val (.int x5_14), .val (.int x6_22), .val (.int x7_33), .val (.int x8_42), .val (.int x9_53), .val (.int x10_62), .val (.ref ob91), .val (.int (x10_62 + (1 : Int32))), .val (.ref ob96), .unset, .unset] [])
    refine own_go (fun _ => XS.aload X98.here hx rfl (hb hby at_178) rfl rfl) ?_
    show own_G p e below Φ T98 (mkF m 180 #[.val (.int p0), .val (.int p1), .val (.int p2), .val (.int p3), .val (.int (4 : Int32)), .val (.int x5_14), .val (.int x6_22), .val (.int x7_33), .val (.int x8_42), .val (.int x9_53), .val (.int x10_62), .val (.ref ob91), .val (.int (x10_62 + (1 : Int32))), .val (.ref ob96), .unset, .unset] [(.ref ob96)])
    have f99 : Arv Z T98.heap ob91 ka91 .int (4 : Int32) [(.int (0 : Int32)), (.int x5_14), (.int x7_33), (.int x9_53)] (.int (0 : Int32)) := f97.keep Kq98 (ninS ne_ob91_ob96 nin0)
    obtain ⟨cq100, kq100, q100a, q100b, q100c⟩ := isOf hZ rfl p98_0
    obtain ⟨_, _, ⟨T100, zL100, zk100, zn100⟩, -, X100, ⟨Lc100, hQ100, l100, y100, z100⟩, st100⟩ := X98.virtualBack hx (y := (⟨"com/example/edgewarden/edgewarden/graph/Likeness", "getClassSizes", "()[I"⟩ : MethodName)) (z := (⟨"com/example/edgewarden/edgewarden/graph/Likeness", "getClassSizes", "()[I"⟩ : MethodName)) hown (mvT hZ (wd_19 hw)) (mvT hZ (wd_20 hw)) (notFace_of_selects (args := #[]) (mvT hZ (wd_22 hw))) (mvT hZ (wd_22 hw)) (mvT hZ (wd_21 hw)) (by decide) (backOf (W := 0) (rmS4 l Z a0 hw [] ob96 ob91 ka91 (own_max (own_max (own_max (own_max (0 : Int32) ((0 : Int32) + (1 : Int32))) (x5_14 + (1 : Int32))) (x7_33 + (1 : Int32))) (x9_53 + (1 : Int32))) (0 : Int32) x5_14 x7_33 x9_53 T98.heap n0 Zp98 p98_2 p98_1 f99 (own_use (P := fun t => ¬ (own_max (own_max (own_max (own_max (0 : Int32) ((0 : Int32) + (1 : Int32))) (t.1 + (1 : Int32))) (t.2.2.1 + (1 : Int32))) (t.2.2.2.2.1 + (1 : Int32))) < 0) (by decide +kernel) hall) (own_use (P := fun t => ((own_max (own_max (own_max (own_max (0 : Int32) ((0 : Int32) + (1 : Int32))) (t.1 + (1 : Int32))) (t.2.2.1 + (1 : Int32))) (t.2.2.2.2.1 + (1 : Int32)))).toNatClampNeg ≤ 5) (by decide +kernel) hall) (own_use (P := fun t => ¬ (0 : Int32) < 0 ∧ (0 : Int32) < (own_max (own_max (own_max (own_max (0 : Int32) ((0 : Int32) + (1 : Int32))) (t.1 + (1 : Int32))) (t.2.2.1 + (1 : Int32))) (t.2.2.2.2.1 + (1 : Int32)))) (by decide +kernel) hall) (own_use (P := fun t => ¬ t.1 < 0 ∧ t.1 < (own_max (own_max (own_max (own_max (0 : Int32) ((0 : Int32) + (1 : Int32))) (t.1 + (1 : Int32))) (t.2.2.1 + (1 : Int32))) (t.2.2.2.2.1 + (1 : Int32)))) (by decide +kernel) hall) (own_use (P := fun t => ¬ t.2.2.1 < 0 ∧ t.2.2.1 < (own_max (own_max (own_max (own_max (0 : Int32) ((0 : Int32) + (1 : Int32))) (t.1 + (1 : Int32))) (t.2.2.1 + (1 : Int32))) (t.2.2.2.2.1 + (1 : Int32)))) (by decide +kernel) hall) (own_use (P := fun t => ¬ t.2.2.2.2.1 < 0 ∧ t.2.2.2.2.1 < (own_max (own_max (own_max (own_max (0 : Int32) ((0 : Int32) + (1 : Int32))) (t.1 + (1 : Int32))) (t.2.2.1 + (1 : Int32))) (t.2.2.2.2.1 + (1 : Int32)))) (by decide +kernel) hall)) hZ (wd_23 hw) (wd_8 hw) (by decide) (by decide)) q100a q100c (g := (mkF m 180 #[.val (.int p0), .val (.int p1), .val (.int p2), .val (.int p3), .val (.int (4 : Int32)), .val (.int x5_14), .val (.int x6_22), .val (.int x7_33), .val (.int x8_42), .val (.int x9_53), .val (.int x10_62), .val (.ref ob91), .val (.int (x10_62 + (1 : Int32))), .val (.ref ob96), .unset, .unset] [(.ref ob96)])) rfl (by rw [hml]; rfl) (Steps.refl _) (argsL := []) (rest := []) (lenOf pd_3 rfl) rfl (by show 2 * 0 + _ ≤ _; exact Nat.le_of_eq rfl) (hb hby at_180) (fun _ _ => ⟨rfl, rfl, (by decide : 2 + 1 ≤ _), (by decide : 6 + 5 ≤ _)⟩)
    dsimp only [Pt.U, Pt.locs, Pt.cells, Pt.slots] at X100 l100 y100 z100 st100 hQ100
    subst l100 y100 z100
    obtain ⟨b_100, ns_b_100, kb_100, rfl, N100q, Kq100, p100_0⟩ := hQ100
    have N100 := Fr.app N98 N100q
    refine own_on st100 ?_
    have ne_ob91_b_100 : ob91 ≠ b_100 := Nat.ne_of_lt (Nat.lt_of_lt_of_le f99.lt ns_b_100)
    have ne_ob96_b_100 : ob96 ≠ b_100 := Nat.ne_of_lt (Nat.lt_of_lt_of_le p98_0.lt ns_b_100)
    have g_b_100 : n0 ≤ b_100 := Nat.le_trans Zp98 ns_b_100
    have Zp100 : n0 ≤ T100.heap.size := Nat.le_trans Zp98 Kq100.1
    show own_G p e below Φ T100 (mkF m 183 #[.val (.int p0), .val (.int p1), .val (.int p2), .val (.int p3), .val (.int (4 : Int32)), .val (.int x5_14), .val (.int x6_22), .val (.int x7_33), .val (.int x8_42), .val (.int x9_53), .val (.int x10_62), .val (.ref ob91), .val (.int (x10_62 + (1 : Int32))), .val (.ref ob96), .unset, .unset] [(.ref b_100)])
    refine own_go (fun _ => XS.astore X100.here hx rfl (hb hby at_183) rfl rfl (l' := #[.val (.int p0), .val (.int p1), .val (.int p2), .val (.int p3), .val (.int (4 : Int32)), .val (.int x5_14), .val (.int x6_22), .val (.int x7_33), .val (.int x8_42), .val (.int x9_53), .val (.int x10_62), .val (.ref ob91), .val (.int (x10_62 + (1 : Int32))), .val (.ref ob96), .val (.ref b_100), .unset]) rfl) ?_
    show own_G p e below Φ T100 (mkF m 185 #[.val (.int p0), .val (.int p1), .val (.int p2), .val (.int p3), .val (.int (4 : Int32)), .val (.int x5_14), .val (.int x6_22), .val (.int x7_33), .val (.int x8_42), .val (.int x9_53), .val (.int x10_62), .val (.ref ob91), .val (.int (x10_62 + (1 : Int32))), .val (.ref ob96), .val (.ref b_100), .unset] [])
    refine own_go (fun _ => XS.aload X100.here hx rfl (hb hby at_185) rfl rfl) ?_
    show own_G p e below Φ T100 (mkF m 187 #[.val (.int p0), .val (.int p1), .val (.int p2), .val (.int p3), .val (.int (4 : Int32)), .val (.int x5_14), .val (.int x6_22), .val (.int x7_33), .val (.int x8_42), .val (.int x9_53), .val (.int x10_62), .val (.ref ob91), .val (.int (x10_62 + (1 : Int32))), .val (.ref ob96), .val (.ref b_100), .unset] [(.ref ob96)])
    have f101 : Fld Z T100.heap ob96 "com/example/edgewarden/edgewarden/graph/Likeness" "m_nClassCount" "I" (.int (own_max (own_max (own_max (own_max (0 : Int32) ((0 : Int32) + (1 : Int32))) (x5_14 + (1 : Int32))) (x7_33 + (1 : Int32))) (x9_53 + (1 : Int32)))) := p98_2.keep Kq100 nin0
    have f102 : Fld Z T100.heap ob96 "com/example/edgewarden/edgewarden/graph/Likeness" "m_aClasses" "[I" (.ref ob91) := p98_1.keep Kq100 nin0
    have f103 : Arv Z T100.heap ob91 ka91 .int (4 : Int32) [(.int (0 : Int32)), (.int x5_14), (.int x7_33), (.int x9_53)] (.int (0 : Int32)) := f99.keep Kq100 nin0
    have f105 : Exa Z T100.heap ob96 "com/example/edgewarden/edgewarden/graph/Likeness" := p98_0.keep Kq100
    obtain ⟨cq104, kq104, q104a, q104b, q104c⟩ := isOf hZ rfl f105
    obtain ⟨_, _, ⟨T104, zL104, zk104, zn104⟩, -, X104, ⟨Lc104, hQ104, l104, y104, z104⟩, st104⟩ := X100.virtualBack hx (y := (⟨"com/example/edgewarden/edgewarden/graph/Likeness", "getClassSizes", "()[I"⟩ : MethodName)) (z := (⟨"com/example/edgewarden/edgewarden/graph/Likeness", "getClassSizes", "()[I"⟩ : MethodName)) hown (mvT hZ (wd_19 hw)) (mvT hZ (wd_20 hw)) (notFace_of_selects (args := #[]) (mvT hZ (wd_22 hw))) (mvT hZ (wd_22 hw)) (mvT hZ (wd_21 hw)) (by decide) (backOf (W := 0) (rmS4 l Z a0 hw [] ob96 ob91 ka91 (own_max (own_max (own_max (own_max (0 : Int32) ((0 : Int32) + (1 : Int32))) (x5_14 + (1 : Int32))) (x7_33 + (1 : Int32))) (x9_53 + (1 : Int32))) (0 : Int32) x5_14 x7_33 x9_53 T100.heap n0 Zp100 f101 f102 f103 (own_use (P := fun t => ¬ (own_max (own_max (own_max (own_max (0 : Int32) ((0 : Int32) + (1 : Int32))) (t.1 + (1 : Int32))) (t.2.2.1 + (1 : Int32))) (t.2.2.2.2.1 + (1 : Int32))) < 0) (by decide +kernel) hall) (own_use (P := fun t => ((own_max (own_max (own_max (own_max (0 : Int32) ((0 : Int32) + (1 : Int32))) (t.1 + (1 : Int32))) (t.2.2.1 + (1 : Int32))) (t.2.2.2.2.1 + (1 : Int32)))).toNatClampNeg ≤ 5) (by decide +kernel) hall) (own_use (P := fun t => ¬ (0 : Int32) < 0 ∧ (0 : Int32) < (own_max (own_max (own_max (own_max (0 : Int32) ((0 : Int32) + (1 : Int32))) (t.1 + (1 : Int32))) (t.2.2.1 + (1 : Int32))) (t.2.2.2.2.1 + (1 : Int32)))) (by decide +kernel) hall) (own_use (P := fun t => ¬ t.1 < 0 ∧ t.1 < (own_max (own_max (own_max (own_max (0 : Int32) ((0 : Int32) + (1 : Int32))) (t.1 + (1 : Int32))) (t.2.2.1 + (1 : Int32))) (t.2.2.2.2.1 + (1 : Int32)))) (by decide +kernel) hall) (own_use (P := fun t => ¬ t.2.2.1 < 0 ∧ t.2.2.1 < (own_max (own_max (own_max (own_max (0 : Int32) ((0 : Int32) + (1 : Int32))) (t.1 + (1 : Int32))) (t.2.2.1 + (1 : Int32))) (t.2.2.2.2.1 + (1 : Int32)))) (by decide +kernel) hall) (own_use (P := fun t => ¬ t.2.2.2.2.1 < 0 ∧ t.2.2.2.2.1 < (own_max (own_max (own_max (own_max (0 : Int32) ((0 : Int32) + (1 : Int32))) (t.1 + (1 : Int32))) (t.2.2.1 + (1 : Int32))) (t.2.2.2.2.1 + (1 : Int32)))) (by decide +kernel) hall)) hZ (wd_23 hw) (wd_8 hw) (by decide) (by decide)) q104a q104c (g := (mkF m 187 #[.val (.int p0), .val (.int p1), .val (.int p2), .val (.int p3), .val (.int (4 : Int32)), .val (.int x5_14), .val (.int x6_22), .val (.int x7_33), .val (.int x8_42), .val (.int x9_53), .val (.int x10_62), .val (.ref ob91), .val (.int (x10_62 + (1 : Int32))), .val (.ref ob96), .val (.ref b_100), .unset] [(.ref ob96)])) rfl (by rw [hml]; rfl) (Steps.refl _) (argsL := []) (rest := []) (lenOf pd_3 rfl) rfl (by show 2 * 0 + _ ≤ _; exact Nat.le_of_eq rfl) (hb hby at_187) (fun _ _ => ⟨rfl, rfl, (by decide : 3 + 1 ≤ _), (by decide : 11 + 5 ≤ _)⟩)
    dsimp only [Pt.U, Pt.locs, Pt.cells, Pt.slots] at X104 l104 y104 z104 st104 hQ104
    subst l104 y104 z104
    obtain ⟨b_104, ns_b_104, kb_104, rfl, N104q, Kq104, p104_0⟩ := hQ104
    have N104 := Fr.app N100 N104q
    refine own_on st104 ?_
    have ne_ob91_b_104 : ob91 ≠ b_104 := Nat.ne_of_lt (Nat.lt_of_lt_of_le f103.lt ns_b_104)
    have ne_ob96_b_104 : ob96 ≠ b_104 := Nat.ne_of_lt (Nat.lt_of_lt_of_le f105.lt ns_b_104)
    have ne_b_100_b_104 : b_100 ≠ b_104 := Nat.ne_of_lt (Nat.lt_of_lt_of_le p100_0.lt ns_b_104)
    have g_b_104 : n0 ≤ b_104 := Nat.le_trans Zp100 ns_b_104
    have Zp104 : n0 ≤ T104.heap.size := Nat.le_trans Zp100 Kq104.1
    show own_G p e below Φ T104 (mkF m 190 #[.val (.int p0), .val (.int p1), .val (.int p2), .val (.int p3), .val (.int (4 : Int32)), .val (.int x5_14), .val (.int x6_22), .val (.int x7_33), .val (.int x8_42), .val (.int x9_53), .val (.int x10_62), .val (.ref ob91), .val (.int (x10_62 + (1 : Int32))), .val (.ref ob96), .val (.ref b_100), .unset] [(.ref b_104)])
    refine own_go (fun _ => XS.astore X104.here hx rfl (hb hby at_190) rfl rfl (l' := #[.val (.int p0), .val (.int p1), .val (.int p2), .val (.int p3), .val (.int (4 : Int32)), .val (.int x5_14), .val (.int x6_22), .val (.int x7_33), .val (.int x8_42), .val (.int x9_53), .val (.int x10_62), .val (.ref ob91), .val (.int (x10_62 + (1 : Int32))), .val (.ref ob96), .val (.ref b_100), .val (.ref b_104)]) rfl) ?_
    show own_G p e below Φ T104 (mkF m 192 #[.val (.int p0), .val (.int p1), .val (.int p2), .val (.int p3), .val (.int (4 : Int32)), .val (.int x5_14), .val (.int x6_22), .val (.int x7_33), .val (.int x8_42), .val (.int x9_53), .val (.int x10_62), .val (.ref ob91), .val (.int (x10_62 + (1 : Int32))), .val (.ref ob96), .val (.ref b_100), .val (.ref b_104)] [])
    refine own_go (fun _ => XS.aload X104.here hx rfl (hb hby at_192) rfl rfl) ?_
    show own_G p e below Φ T104 (mkF m 194 #[.val (.int p0), .val (.int p1), .val (.int p2), .val (.int p3), .val (.int (4 : Int32)), .val (.int x5_14), .val (.int x6_22), .val (.int x7_33), .val (.int x8_42), .val (.int x9_53), .val (.int x10_62), .val (.ref ob91), .val (.int (x10_62 + (1 : Int32))), .val (.ref ob96), .val (.ref b_100), .val (.ref b_104)] [(.ref b_100)])
    refine own_go (fun _ => XS.aload X104.here hx rfl (hb hby at_194) rfl rfl) ?_
    show own_G p e below Φ T104 (mkF m 196 #[.val (.int p0), .val (.int p1), .val (.int p2), .val (.int p3), .val (.int (4 : Int32)), .val (.int x5_14), .val (.int x6_22), .val (.int x7_33), .val (.int x8_42), .val (.int x9_53), .val (.int x10_62), .val (.ref ob91), .val (.int (x10_62 + (1 : Int32))), .val (.ref ob96), .val (.ref b_100), .val (.ref b_104)] [(.ref b_104), (.ref b_100)])
    refine own_go (fun _ => Jvm.RoadKit.acmp (g := (mkF m 196 #[.val (.int p0), .val (.int p1), .val (.int p2), .val (.int p3), .val (.int (4 : Int32)), .val (.int x5_14), .val (.int x6_22), .val (.int x7_33), .val (.int x8_42), .val (.int x9_53), .val (.int x10_62), .val (.ref ob91), .val (.int (x10_62 + (1 : Int32))), .val (.ref ob96), .val (.ref b_100), .val (.ref b_104)] [(.ref b_104), (.ref b_100)])) X104 hx rfl rfl rfl (pc0 := 196) (pc' := 201) (same := false) rfl (hb hby at_196) rfl (decide_eq_false fun q => ne_b_100_b_104 (Value.ref.inj q)) (by decide) (by decide)) ?_
    show own_G p e below Φ T104 (mkF m 201 #[.val (.int p0), .val (.int p1), .val (.int p2), .val (.int p3), .val (.int (4 : Int32)), .val (.int x5_14), .val (.int x6_22), .val (.int x7_33), .val (.int x8_42), .val (.int x9_53), .val (.int x10_62), .val (.ref ob91), .val (.int (x10_62 + (1 : Int32))), .val (.ref ob96), .val (.ref b_100), .val (.ref b_104)] [])
    refine own_go (fun _ => XS.aload X104.here hx rfl (hb hby at_201) rfl rfl) ?_
    show own_G p e below Φ T104 (mkF m 203 #[.val (.int p0), .val (.int p1), .val (.int p2), .val (.int p3), .val (.int (4 : Int32)), .val (.int x5_14), .val (.int x6_22), .val (.int x7_33), .val (.int x8_42), .val (.int x9_53), .val (.int x10_62), .val (.ref ob91), .val (.int (x10_62 + (1 : Int32))), .val (.ref ob96), .val (.ref b_100), .val (.ref b_104)] [(.ref b_100)])
    have f106 : Arv Z T104.heap b_100 kb_100 .int (own_max (own_max (own_max (own_max (0 : Int32) ((0 : Int32) + (1 : Int32))) (x5_14 + (1 : Int32))) (x7_33 + (1 : Int32))) (x9_53 + (1 : Int32))) (own_vs (own_inc (own_inc (own_inc (own_inc (own_zeros (own_max (own_max (own_max (own_max (0 : Int32) ((0 : Int32) + (1 : Int32))) (x5_14 + (1 : Int32))) (x7_33 + (1 : Int32))) (x9_53 + (1 : Int32)))) (0 : Int32)) x5_14) x7_33) x9_53)) (.int (0 : Int32)) := p100_0.keep Kq104 nin0
    obtain ⟨cl107, Ar107, q107, S107, M107, H107, G107⟩ := id f106
    refine own_go (fun _ => X104.arraylength hx Ar107.1 (State.isArrayOf_alike hZ.alike Ar107.2.1) (g := (mkF m 203 #[.val (.int p0), .val (.int p1), .val (.int p2), .val (.int p3), .val (.int (4 : Int32)), .val (.int x5_14), .val (.int x6_22), .val (.int x7_33), .val (.int x8_42), .val (.int x9_53), .val (.int x10_62), .val (.ref ob91), .val (.int (x10_62 + (1 : Int32))), .val (.ref ob96), .val (.ref b_100), .val (.ref b_104)] [(.ref b_100)])) rfl rfl (hb hby at_203) _) ?_
    rw [len_of S107 M107]
    show own_G p e below Φ T104 (mkF m 204 #[.val (.int p0), .val (.int p1), .val (.int p2), .val (.int p3), .val (.int (4 : Int32)), .val (.int x5_14), .val (.int x6_22), .val (.int x7_33), .val (.int x8_42), .val (.int x9_53), .val (.int x10_62), .val (.ref ob91), .val (.int (x10_62 + (1 : Int32))), .val (.ref ob96), .val (.ref b_100), .val (.ref b_104)] [(.int (own_max (own_max (own_max (own_max (0 : Int32) ((0 : Int32) + (1 : Int32))) (x5_14 + (1 : Int32))) (x7_33 + (1 : Int32))) (x9_53 + (1 : Int32))))])
    refine own_go (fun _ => XS.iload X104.here hx rfl (hb hby at_204) rfl) ?_
    show own_G p e below Φ T104 (mkF m 206 #[.val (.int p0), .val (.int p1), .val (.int p2), .val (.int p3), .val (.int (4 : Int32)), .val (.int x5_14), .val (.int x6_22), .val (.int x7_33), .val (.int x8_42), .val (.int x9_53), .val (.int x10_62), .val (.ref ob91), .val (.int (x10_62 + (1 : Int32))), .val (.ref ob96), .val (.ref b_100), .val (.ref b_104)] [(.int (x10_62 + (1 : Int32))), (.int (own_max (own_max (own_max (own_max (0 : Int32) ((0 : Int32) + (1 : Int32))) (x5_14 + (1 : Int32))) (x7_33 + (1 : Int32))) (x9_53 + (1 : Int32))))])
    refine own_go (fun _ => XS.icmpNo X104.here hx rfl (hb hby at_206) rfl (Jvm.Free.XT.ii_ne_f (own_use (P := fun t => (own_max (own_max (own_max (own_max (0 : Int32) ((0 : Int32) + (1 : Int32))) (t.1 + (1 : Int32))) (t.2.2.1 + (1 : Int32))) (t.2.2.2.2.1 + (1 : Int32))) = (t.2.2.2.2.2 + (1 : Int32))) (by decide +kernel) hall))) ?_
    show own_G p e below Φ T104 (mkF m 209 #[.val (.int p0), .val (.int p1), .val (.int p2), .val (.int p3), .val (.int (4 : Int32)), .val (.int x5_14), .val (.int x6_22), .val (.int x7_33), .val (.int x8_42), .val (.int x9_53), .val (.int x10_62), .val (.ref ob91), .val (.int (x10_62 + (1 : Int32))), .val (.ref ob96), .val (.ref b_100), .val (.ref b_104)] [])
    refine own_go (fun _ => XS.aload X104.here hx rfl (hb hby at_209) rfl rfl) ?_
    show own_G p e below Φ T104 (mkF m 211 #[.val (.int p0), .val (.int p1), .val (.int p2), .val (.int p3), .val (.int (4 : Int32)), .val (.int x5_14), .val (.int x6_22), .val (.int x7_33), .val (.int x8_42), .val (.int x9_53), .val (.int x10_62), .val (.ref ob91), .val (.int (x10_62 + (1 : Int32))), .val (.ref ob96), .val (.ref b_100), .val (.ref b_104)] [(.ref b_104)])
    obtain ⟨cl108, Ar108, q108, S108, M108, H108, G108⟩ := id p104_0
    refine own_go (fun _ => X104.arraylength hx Ar108.1 (State.isArrayOf_alike hZ.alike Ar108.2.1) (g := (mkF m 211 #[.val (.int p0), .val (.int p1), .val (.int p2), .val (.int p3), .val (.int (4 : Int32)), .val (.int x5_14), .val (.int x6_22), .val (.int x7_33), .val (.int x8_42), .val (.int x9_53), .val (.int x10_62), .val (.ref ob91), .val (.int (x10_62 + (1 : Int32))), .val (.ref ob96), .val (.ref b_100), .val (.ref b_104)] [(.ref b_104)])) rfl rfl (hb hby at_211) _) ?_
    rw [len_of S108 M108]
    show own_G p e below Φ T104 (mkF m 212 #[.val (.int p0), .val (.int p1), .val (.int p2), .val (.int p3), .val (.int (4 : Int32)), .val (.int x5_14), .val (.int x6_22), .val (.int x7_33), .val (.int x8_42), .val (.int x9_53), .val (.int x10_62), .val (.ref ob91), .val (.int (x10_62 + (1 : Int32))), .val (.ref ob96), .val (.ref b_100), .val (.ref b_104)] [(.int (own_max (own_max (own_max (own_max (0 : Int32) ((0 : Int32) + (1 : Int32))) (x5_14 + (1 : Int32))) (x7_33 + (1 : Int32))) (x9_53 + (1 : Int32))))])
    refine own_go (fun _ => XS.iload X104.here hx rfl (hb hby at_212) rfl) ?_
    show own_G p e below Φ T104 (mkF m 214 #[.val (.int p0), .val (.int p1), .val (.int p2), .val (.int p3), .val (.int (4 : Int32)), .val (.int x5_14), .val (.int x6_22), .val (.int x7_33), .val (.int x8_42), .val (.int x9_53), .val (.int x10_62), .val (.ref ob91), .val (.int (x10_62 + (1 : Int32))), .val (.ref ob96), .val (.ref b_100), .val (.ref b_104)] [(.int (x10_62 + (1 : Int32))), (.int (own_max (own_max (own_max (own_max (0 : Int32) ((0 : Int32) + (1 : Int32))) (x5_14 + (1 : Int32))) (x7_33 + (1 : Int32))) (x9_53 + (1 : Int32))))])
    refine own_go (fun _ => XS.icmpYes X104.here hx rfl (pc0 := 214) (pc' := 219) rfl (hb hby at_214) rfl (Jvm.Free.XT.ii_eq_t (own_use (P := fun t => (own_max (own_max (own_max (own_max (0 : Int32) ((0 : Int32) + (1 : Int32))) (t.1 + (1 : Int32))) (t.2.2.1 + (1 : Int32))) (t.2.2.2.2.1 + (1 : Int32))) = (t.2.2.2.2.2 + (1 : Int32))) (by decide +kernel) hall)) (by decide) (by decide)) ?_
    show own_G p e below Φ T104 (mkF m 219 #[.val (.int p0), .val (.int p1), .val (.int p2), .val (.int p3), .val (.int (4 : Int32)), .val (.int x5_14), .val (.int x6_22), .val (.int x7_33), .val (.int x8_42), .val (.int x9_53), .val (.int x10_62), .val (.ref ob91), .val (.int (x10_62 + (1 : Int32))), .val (.ref ob96), .val (.ref b_100), .val (.ref b_104)] [])
    refine own_go (fun _ => XS.iload X104.here hx rfl (hb hby at_219) rfl) ?_
    show own_G p e below Φ T104 (mkF m 221 #[.val (.int p0), .val (.int p1), .val (.int p2), .val (.int p3), .val (.int (4 : Int32)), .val (.int x5_14), .val (.int x6_22), .val (.int x7_33), .val (.int x8_42), .val (.int x9_53), .val (.int x10_62), .val (.ref ob91), .val (.int (x10_62 + (1 : Int32))), .val (.ref ob96), .val (.ref b_100), .val (.ref b_104)] [(.int (4 : Int32))])
    refine own_go (fun _ => XS.ifNo X104.here hx rfl (hb hby at_221) rfl (Jvm.Free.XT.i0_le_f (by decide : ((0 : Int32) < (4 : Int32))))) ?_
    show own_G p e below Φ T104 (mkF m 224 #[.val (.int p0), .val (.int p1), .val (.int p2), .val (.int p3), .val (.int (4 : Int32)), .val (.int x5_14), .val (.int x6_22), .val (.int x7_33), .val (.int x8_42), .val (.int x9_53), .val (.int x10_62), .val (.ref ob91), .val (.int (x10_62 + (1 : Int32))), .val (.ref ob96), .val (.ref b_100), .val (.ref b_104)] [])
    refine own_go (fun _ => XS.aload X104.here hx rfl (hb hby at_224) rfl rfl) ?_
    show own_G p e below Φ T104 (mkF m 226 #[.val (.int p0), .val (.int p1), .val (.int p2), .val (.int p3), .val (.int (4 : Int32)), .val (.int x5_14), .val (.int x6_22), .val (.int x7_33), .val (.int x8_42), .val (.int x9_53), .val (.int x10_62), .val (.ref ob91), .val (.int (x10_62 + (1 : Int32))), .val (.ref ob96), .val (.ref b_100), .val (.ref b_104)] [(.ref ob91)])
    refine own_go (fun _ => XS.iconst X104.here hx rfl (hb hby at_226)) ?_
    show own_G p e below Φ T104 (mkF m 227 #[.val (.int p0), .val (.int p1), .val (.int p2), .val (.int p3), .val (.int (4 : Int32)), .val (.int x5_14), .val (.int x6_22), .val (.int x7_33), .val (.int x8_42), .val (.int x9_53), .val (.int x10_62), .val (.ref ob91), .val (.int (x10_62 + (1 : Int32))), .val (.ref ob96), .val (.ref b_100), .val (.ref b_104)] [(.int (0 : Int32)), (.ref ob91)])
    have f109 : Arv Z T104.heap ob91 ka91 .int (4 : Int32) [(.int (0 : Int32)), (.int x5_14), (.int x7_33), (.int x9_53)] (.int (0 : Int32)) := f103.keep Kq104 nin0
    obtain ⟨cl110, Ar110, q110, S110, M110, H110, G110⟩ := id f109
    have hin110 : ¬ ((0 : Int32) < 0 ∨ cl110.slots.size ≤ ((0 : Int32)).toNatClampNeg) := inb_of S110 ⟨by decide, by decide⟩
    refine own_go (fun _ => X104.iaload hx (j := (0 : Int32)) (v := (.int (0 : Int32))) Ar110.1 (State.isArrayOf_alike hZ.alike Ar110.2.1) Ar110.2.2 hin110 (H110.at hin110 rfl) (g := (mkF m 227 #[.val (.int p0), .val (.int p1), .val (.int p2), .val (.int p3), .val (.int (4 : Int32)), .val (.int x5_14), .val (.int x6_22), .val (.int x7_33), .val (.int x8_42), .val (.int x9_53), .val (.int x10_62), .val (.ref ob91), .val (.int (x10_62 + (1 : Int32))), .val (.ref ob96), .val (.ref b_100), .val (.ref b_104)] [(.int (0 : Int32)), (.ref ob91)])) rfl rfl (hb hby at_227) _) ?_
    show own_G p e below Φ T104 (mkF m 228 #[.val (.int p0), .val (.int p1), .val (.int p2), .val (.int p3), .val (.int (4 : Int32)), .val (.int x5_14), .val (.int x6_22), .val (.int x7_33), .val (.int x8_42), .val (.int x9_53), .val (.int x10_62), .val (.ref ob91), .val (.int (x10_62 + (1 : Int32))), .val (.ref ob96), .val (.ref b_100), .val (.ref b_104)] [(.int (0 : Int32))])
    refine own_go (fun _ => XS.ifYes X104.here hx rfl (pc0 := 228) (pc' := 233) rfl (hb hby at_228) rfl (Jvm.Free.XT.i0_eq_t (by decide : ((0 : Int32) = (0 : Int32)))) (by decide) (by decide)) ?_
    show own_G p e below Φ T104 (mkF m 233 #[.val (.int p0), .val (.int p1), .val (.int p2), .val (.int p3), .val (.int (4 : Int32)), .val (.int x5_14), .val (.int x6_22), .val (.int x7_33), .val (.int x8_42), .val (.int x9_53), .val (.int x10_62), .val (.ref ob91), .val (.int (x10_62 + (1 : Int32))), .val (.ref ob96), .val (.ref b_100), .val (.ref b_104)] [])
    refine own_go (fun _ => XS.iload X104.here hx rfl (hb hby at_233) rfl) ?_
    show own_G p e below Φ T104 (mkF m 235 #[.val (.int p0), .val (.int p1), .val (.int p2), .val (.int p3), .val (.int (4 : Int32)), .val (.int x5_14), .val (.int x6_22), .val (.int x7_33), .val (.int x8_42), .val (.int x9_53), .val (.int x10_62), .val (.ref ob91), .val (.int (x10_62 + (1 : Int32))), .val (.ref ob96), .val (.ref b_100), .val (.ref b_104)] [(.int (4 : Int32))])
    refine own_go (fun _ => XS.iconst X104.here hx rfl (hb hby at_235)) ?_
    show own_G p e below Φ T104 (mkF m 236 #[.val (.int p0), .val (.int p1), .val (.int p2), .val (.int p3), .val (.int (4 : Int32)), .val (.int x5_14), .val (.int x6_22), .val (.int x7_33), .val (.int x8_42), .val (.int x9_53), .val (.int x10_62), .val (.ref ob91), .val (.int (x10_62 + (1 : Int32))), .val (.ref ob96), .val (.ref b_100), .val (.ref b_104)] [(.int (1 : Int32)), (.int (4 : Int32))])
    refine own_go (fun _ => XS.icmpNo X104.here hx rfl (hb hby at_236) rfl (Jvm.Free.XT.ii_le_f (by decide : ((1 : Int32) < (4 : Int32))))) ?_
    show own_G p e below Φ T104 (mkF m 239 #[.val (.int p0), .val (.int p1), .val (.int p2), .val (.int p3), .val (.int (4 : Int32)), .val (.int x5_14), .val (.int x6_22), .val (.int x7_33), .val (.int x8_42), .val (.int x9_53), .val (.int x10_62), .val (.ref ob91), .val (.int (x10_62 + (1 : Int32))), .val (.ref ob96), .val (.ref b_100), .val (.ref b_104)] [])
    refine own_go (fun _ => XS.aload X104.here hx rfl (hb hby at_239) rfl rfl) ?_
    show own_G p e below Φ T104 (mkF m 241 #[.val (.int p0), .val (.int p1), .val (.int p2), .val (.int p3), .val (.int (4 : Int32)), .val (.int x5_14), .val (.int x6_22), .val (.int x7_33), .val (.int x8_42), .val (.int x9_53), .val (.int x10_62), .val (.ref ob91), .val (.int (x10_62 + (1 : Int32))), .val (.ref ob96), .val (.ref b_100), .val (.ref b_104)] [(.ref ob91)])
    refine own_go (fun _ => XS.iconst X104.here hx rfl (hb hby at_241)) ?_
    show own_G p e below Φ T104 (mkF m 242 #[.val (.int p0), .val (.int p1), .val (.int p2), .val (.int p3), .val (.int (4 : Int32)), .val (.int x5_14), .val (.int x6_22), .val (.int x7_33), .val (.int x8_42), .val (.int x9_53), .val (.int x10_62), .val (.ref ob91), .val (.int (x10_62 + (1 : Int32))), .val (.ref ob96), .val (.ref b_100), .val (.ref b_104)] [(.int (1 : Int32)), (.ref ob91)])
    obtain ⟨cl111, Ar111, q111, S111, M111, H111, G111⟩ := id f109
    have hin111 : ¬ ((1 : Int32) < 0 ∨ cl111.slots.size ≤ ((1 : Int32)).toNatClampNeg) := inb_of S111 ⟨by decide, by decide⟩
    refine own_go (fun _ => X104.iaload hx (j := (1 : Int32)) (v := (.int x5_14)) Ar111.1 (State.isArrayOf_alike hZ.alike Ar111.2.1) Ar111.2.2 hin111 (H111.at hin111 rfl) (g := (mkF m 242 #[.val (.int p0), .val (.int p1), .val (.int p2), .val (.int p3), .val (.int (4 : Int32)), .val (.int x5_14), .val (.int x6_22), .val (.int x7_33), .val (.int x8_42), .val (.int x9_53), .val (.int x10_62), .val (.ref ob91), .val (.int (x10_62 + (1 : Int32))), .val (.ref ob96), .val (.ref b_100), .val (.ref b_104)] [(.int (1 : Int32)), (.ref ob91)])) rfl rfl (hb hby at_242) _) ?_
    show own_G p e below Φ T104 (mkF m 243 #[.val (.int p0), .val (.int p1), .val (.int p2), .val (.int p3), .val (.int (4 : Int32)), .val (.int x5_14), .val (.int x6_22), .val (.int x7_33), .val (.int x8_42), .val (.int x9_53), .val (.int x10_62), .val (.ref ob91), .val (.int (x10_62 + (1 : Int32))), .val (.ref ob96), .val (.ref b_100), .val (.ref b_104)] [(.int x5_14)])
    refine own_go (fun _ => XS.iload X104.here hx rfl (hb hby at_243) rfl) ?_
    show own_G p e below Φ T104 (mkF m 245 #[.val (.int p0), .val (.int p1), .val (.int p2), .val (.int p3), .val (.int (4 : Int32)), .val (.int x5_14), .val (.int x6_22), .val (.int x7_33), .val (.int x8_42), .val (.int x9_53), .val (.int x10_62), .val (.ref ob91), .val (.int (x10_62 + (1 : Int32))), .val (.ref ob96), .val (.ref b_100), .val (.ref b_104)] [(.int x5_14), (.int x5_14)])
    refine own_go (fun _ => XS.icmpYes X104.here hx rfl (pc0 := 245) (pc' := 250) rfl (hb hby at_245) rfl (Jvm.Free.XT.ii_eq_t (rfl : x5_14 = x5_14)) (by decide) (by decide)) ?_
    show own_G p e below Φ T104 (mkF m 250 #[.val (.int p0), .val (.int p1), .val (.int p2), .val (.int p3), .val (.int (4 : Int32)), .val (.int x5_14), .val (.int x6_22), .val (.int x7_33), .val (.int x8_42), .val (.int x9_53), .val (.int x10_62), .val (.ref ob91), .val (.int (x10_62 + (1 : Int32))), .val (.ref ob96), .val (.ref b_100), .val (.ref b_104)] [])
    refine own_go (fun _ => XS.iload X104.here hx rfl (hb hby at_250) rfl) ?_
    show own_G p e below Φ T104 (mkF m 252 #[.val (.int p0), .val (.int p1), .val (.int p2), .val (.int p3), .val (.int (4 : Int32)), .val (.int x5_14), .val (.int x6_22), .val (.int x7_33), .val (.int x8_42), .val (.int x9_53), .val (.int x10_62), .val (.ref ob91), .val (.int (x10_62 + (1 : Int32))), .val (.ref ob96), .val (.ref b_100), .val (.ref b_104)] [(.int (4 : Int32))])
    refine own_go (fun _ => XS.iconst X104.here hx rfl (hb hby at_252)) ?_
    show own_G p e below Φ T104 (mkF m 253 #[.val (.int p0), .val (.int p1), .val (.int p2), .val (.int p3), .val (.int (4 : Int32)), .val (.int x5_14), .val (.int x6_22), .val (.int x7_33), .val (.int x8_42), .val (.int x9_53), .val (.int x10_62), .val (.ref ob91), .val (.int (x10_62 + (1 : Int32))), .val (.ref ob96), .val (.ref b_100), .val (.ref b_104)] [(.int (2 : Int32)), (.int (4 : Int32))])
    refine own_go (fun _ => XS.icmpNo X104.here hx rfl (hb hby at_253) rfl (Jvm.Free.XT.ii_le_f (by decide : ((2 : Int32) < (4 : Int32))))) ?_
    show own_G p e below Φ T104 (mkF m 256 #[.val (.int p0), .val (.int p1), .val (.int p2), .val (.int p3), .val (.int (4 : Int32)), .val (.int x5_14), .val (.int x6_22), .val (.int x7_33), .val (.int x8_42), .val (.int x9_53), .val (.int x10_62), .val (.ref ob91), .val (.int (x10_62 + (1 : Int32))), .val (.ref ob96), .val (.ref b_100), .val (.ref b_104)] [])
    refine own_go (fun _ => XS.aload X104.here hx rfl (hb hby at_256) rfl rfl) ?_
    show own_G p e below Φ T104 (mkF m 258 #[.val (.int p0), .val (.int p1), .val (.int p2), .val (.int p3), .val (.int (4 : Int32)), .val (.int x5_14), .val (.int x6_22), .val (.int x7_33), .val (.int x8_42), .val (.int x9_53), .val (.int x10_62), .val (.ref ob91), .val (.int (x10_62 + (1 : Int32))), .val (.ref ob96), .val (.ref b_100), .val (.ref b_104)] [(.ref ob91)])
    refine own_go (fun _ => XS.iconst X104.here hx rfl (hb hby at_258)) ?_
    show own_G p e below Φ T104 (mkF m 259 #[.val (.int p0), .val (.int p1), .val (.int p2), .val (.int p3), .val (.int (4 : Int32)), .val (.int x5_14), .val (.int x6_22), .val (.int x7_33), .val (.int x8_42), .val (.int x9_53), .val (.int x10_62), .val (.ref ob91), .val (.int (x10_62 + (1 : Int32))), .val (.ref ob96), .val (.ref b_100), .val (.ref b_104)] [(.int (2 : Int32)), (.ref ob91)])
    obtain ⟨cl112, Ar112, q112, S112, M112, H112, G112⟩ := id f109
    have hin112 : ¬ ((2 : Int32) < 0 ∨ cl112.slots.size ≤ ((2 : Int32)).toNatClampNeg) := inb_of S112 ⟨by decide, by decide⟩
    refine own_go (fun _ => X104.iaload hx (j := (2 : Int32)) (v := (.int x7_33)) Ar112.1 (State.isArrayOf_alike hZ.alike Ar112.2.1) Ar112.2.2 hin112 (H112.at hin112 rfl) (g := (mkF m 259 #[.val (.int p0), .val (.int p1), .val (.int p2), .val (.int p3), .val (.int (4 : Int32)), .val (.int x5_14), .val (.int x6_22), .val (.int x7_33), .val (.int x8_42), .val (.int x9_53), .val (.int x10_62), .val (.ref ob91), .val (.int (x10_62 + (1 : Int32))), .val (.ref ob96), .val (.ref b_100), .val (.ref b_104)] [(.int (2 : Int32)), (.ref ob91)])) rfl rfl (hb hby at_259) _) ?_
    show own_G p e below Φ T104 (mkF m 260 #[.val (.int p0), .val (.int p1), .val (.int p2), .val (.int p3), .val (.int (4 : Int32)), .val (.int x5_14), .val (.int x6_22), .val (.int x7_33), .val (.int x8_42), .val (.int x9_53), .val (.int x10_62), .val (.ref ob91), .val (.int (x10_62 + (1 : Int32))), .val (.ref ob96), .val (.ref b_100), .val (.ref b_104)] [(.int x7_33)])
    refine own_go (fun _ => XS.iload X104.here hx rfl (hb hby at_260) rfl) ?_
    show own_G p e below Φ T104 (mkF m 262 #[.val (.int p0), .val (.int p1), .val (.int p2), .val (.int p3), .val (.int (4 : Int32)), .val (.int x5_14), .val (.int x6_22), .val (.int x7_33), .val (.int x8_42), .val (.int x9_53), .val (.int x10_62), .val (.ref ob91), .val (.int (x10_62 + (1 : Int32))), .val (.ref ob96), .val (.ref b_100), .val (.ref b_104)] [(.int x7_33), (.int x7_33)])
    refine own_go (fun _ => XS.icmpYes X104.here hx rfl (pc0 := 262) (pc' := 267) rfl (hb hby at_262) rfl (Jvm.Free.XT.ii_eq_t (rfl : x7_33 = x7_33)) (by decide) (by decide)) ?_
    show own_G p e below Φ T104 (mkF m 267 #[.val (.int p0), .val (.int p1), .val (.int p2), .val (.int p3), .val (.int (4 : Int32)), .val (.int x5_14), .val (.int x6_22), .val (.int x7_33), .val (.int x8_42), .val (.int x9_53), .val (.int x10_62), .val (.ref ob91), .val (.int (x10_62 + (1 : Int32))), .val (.ref ob96), .val (.ref b_100), .val (.ref b_104)] [])
    refine own_go (fun _ => XS.iload X104.here hx rfl (hb hby at_267) rfl) ?_
    show own_G p e below Φ T104 (mkF m 269 #[.val (.int p0), .val (.int p1), .val (.int p2), .val (.int p3), .val (.int (4 : Int32)), .val (.int x5_14), .val (.int x6_22), .val (.int x7_33), .val (.int x8_42), .val (.int x9_53), .val (.int x10_62), .val (.ref ob91), .val (.int (x10_62 + (1 : Int32))), .val (.ref ob96), .val (.ref b_100), .val (.ref b_104)] [(.int (4 : Int32))])
    refine own_go (fun _ => XS.iconst X104.here hx rfl (hb hby at_269)) ?_
    show own_G p e below Φ T104 (mkF m 270 #[.val (.int p0), .val (.int p1), .val (.int p2), .val (.int p3), .val (.int (4 : Int32)), .val (.int x5_14), .val (.int x6_22), .val (.int x7_33), .val (.int x8_42), .val (.int x9_53), .val (.int x10_62), .val (.ref ob91), .val (.int (x10_62 + (1 : Int32))), .val (.ref ob96), .val (.ref b_100), .val (.ref b_104)] [(.int (3 : Int32)), (.int (4 : Int32))])
    refine own_go (fun _ => XS.icmpNo X104.here hx rfl (hb hby at_270) rfl (Jvm.Free.XT.ii_le_f (by decide : ((3 : Int32) < (4 : Int32))))) ?_
    show own_G p e below Φ T104 (mkF m 273 #[.val (.int p0), .val (.int p1), .val (.int p2), .val (.int p3), .val (.int (4 : Int32)), .val (.int x5_14), .val (.int x6_22), .val (.int x7_33), .val (.int x8_42), .val (.int x9_53), .val (.int x10_62), .val (.ref ob91), .val (.int (x10_62 + (1 : Int32))), .val (.ref ob96), .val (.ref b_100), .val (.ref b_104)] [])
    refine own_go (fun _ => XS.aload X104.here hx rfl (hb hby at_273) rfl rfl) ?_
    show own_G p e below Φ T104 (mkF m 275 #[.val (.int p0), .val (.int p1), .val (.int p2), .val (.int p3), .val (.int (4 : Int32)), .val (.int x5_14), .val (.int x6_22), .val (.int x7_33), .val (.int x8_42), .val (.int x9_53), .val (.int x10_62), .val (.ref ob91), .val (.int (x10_62 + (1 : Int32))), .val (.ref ob96), .val (.ref b_100), .val (.ref b_104)] [(.ref ob91)])
    refine own_go (fun _ => XS.iconst X104.here hx rfl (hb hby at_275)) ?_
    show own_G p e below Φ T104 (mkF m 276 #[.val (.int p0), .val (.int p1), .val (.int p2), .val (.int p3), .val (.int (4 : Int32)), .val (.int x5_14), .val (.int x6_22), .val (.int x7_33), .val (.int x8_42), .val (.int x9_53), .val (.int x10_62), .val (.ref ob91), .val (.int (x10_62 + (1 : Int32))), .val (.ref ob96), .val (.ref b_100), .val (.ref b_104)] [(.int (3 : Int32)), (.ref ob91)])
    obtain ⟨cl113, Ar113, q113, S113, M113, H113, G113⟩ := id f109
    have hin113 : ¬ ((3 : Int32) < 0 ∨ cl113.slots.size ≤ ((3 : Int32)).toNatClampNeg) := inb_of S113 ⟨by decide, by decide⟩
    refine own_go (fun _ => X104.iaload hx (j := (3 : Int32)) (v := (.int x9_53)) Ar113.1 (State.isArrayOf_alike hZ.alike Ar113.2.1) Ar113.2.2 hin113 (H113.at hin113 rfl) (g := (mkF m 276 #[.val (.int p0), .val (.int p1), .val (.int p2), .val (.int p3), .val (.int (4 : Int32)), .val (.int x5_14), .val (.int x6_22), .val (.int x7_33), .val (.int x8_42), .val (.int x9_53), .val (.int x10_62), .val (.ref ob91), .val (.int (x10_62 + (1 : Int32))), .val (.ref ob96), .val (.ref b_100), .val (.ref b_104)] [(.int (3 : Int32)), (.ref ob91)])) rfl rfl (hb hby at_276) _) ?_
    show own_G p e below Φ T104 (mkF m 277 #[.val (.int p0), .val (.int p1), .val (.int p2), .val (.int p3), .val (.int (4 : Int32)), .val (.int x5_14), .val (.int x6_22), .val (.int x7_33), .val (.int x8_42), .val (.int x9_53), .val (.int x10_62), .val (.ref ob91), .val (.int (x10_62 + (1 : Int32))), .val (.ref ob96), .val (.ref b_100), .val (.ref b_104)] [(.int x9_53)])
    refine own_go (fun _ => XS.iload X104.here hx rfl (hb hby at_277) rfl) ?_
    show own_G p e below Φ T104 (mkF m 279 #[.val (.int p0), .val (.int p1), .val (.int p2), .val (.int p3), .val (.int (4 : Int32)), .val (.int x5_14), .val (.int x6_22), .val (.int x7_33), .val (.int x8_42), .val (.int x9_53), .val (.int x10_62), .val (.ref ob91), .val (.int (x10_62 + (1 : Int32))), .val (.ref ob96), .val (.ref b_100), .val (.ref b_104)] [(.int x9_53), (.int x9_53)])
    refine own_go (fun _ => XS.icmpYes X104.here hx rfl (pc0 := 279) (pc' := 284) rfl (hb hby at_279) rfl (Jvm.Free.XT.ii_eq_t (rfl : x9_53 = x9_53)) (by decide) (by decide)) ?_
    show own_G p e below Φ T104 (mkF m 284 #[.val (.int p0), .val (.int p1), .val (.int p2), .val (.int p3), .val (.int (4 : Int32)), .val (.int x5_14), .val (.int x6_22), .val (.int x7_33), .val (.int x8_42), .val (.int x9_53), .val (.int x10_62), .val (.ref ob91), .val (.int (x10_62 + (1 : Int32))), .val (.ref ob96), .val (.ref b_100), .val (.ref b_104)] [])
    refine own_go (fun _ => XS.aload X104.here hx rfl (hb hby at_284) rfl rfl) ?_
    show own_G p e below Φ T104 (mkF m 286 #[.val (.int p0), .val (.int p1), .val (.int p2), .val (.int p3), .val (.int (4 : Int32)), .val (.int x5_14), .val (.int x6_22), .val (.int x7_33), .val (.int x8_42), .val (.int x9_53), .val (.int x10_62), .val (.ref ob91), .val (.int (x10_62 + (1 : Int32))), .val (.ref ob96), .val (.ref b_100), .val (.ref b_104)] [(.ref b_100)])
    refine own_go (fun _ => XS.aload X104.here hx rfl (hb hby at_286) rfl rfl) ?_
    show own_G p e below Φ T104 (mkF m 288 #[.val (.int p0), .val (.int p1), .val (.int p2), .val (.int p3), .val (.int (4 : Int32)), .val (.int x5_14), .val (.int x6_22), .val (.int x7_33), .val (.int x8_42), .val (.int x9_53), .val (.int x10_62), .val (.ref ob91), .val (.int (x10_62 + (1 : Int32))), .val (.ref ob96), .val (.ref b_100), .val (.ref b_104)] [(.ref b_104), (.ref b_100)])
    refine own_go (fun _ => XS.iconst X104.here hx rfl (hb hby at_288)) ?_
    show own_G p e below Φ T104 (mkF m 289 #[.val (.int p0), .val (.int p1), .val (.int p2), .val (.int p3), .val (.int (4 : Int32)), .val (.int x5_14), .val (.int x6_22), .val (.int x7_33), .val (.int x8_42), .val (.int x9_53), .val (.int x10_62), .val (.ref ob91), .val (.int (x10_62 + (1 : Int32))), .val (.ref ob96), .val (.ref b_100), .val (.ref b_104)] [(.int (0 : Int32)), (.ref b_104), (.ref b_100)])
    refine own_go (fun _ => XS.iload X104.here hx rfl (hb hby at_289) rfl) ?_
    show own_G p e below Φ T104 (mkF m 291 #[.val (.int p0), .val (.int p1), .val (.int p2), .val (.int p3), .val (.int (4 : Int32)), .val (.int x5_14), .val (.int x6_22), .val (.int x7_33), .val (.int x8_42), .val (.int x9_53), .val (.int x10_62), .val (.ref ob91), .val (.int (x10_62 + (1 : Int32))), .val (.ref ob96), .val (.ref b_100), .val (.ref b_104)] [(.int (4 : Int32)), (.int (0 : Int32)), (.ref b_104), (.ref b_100)])
    refine own_go (fun _ => XS.iconst X104.here hx rfl (hb hby at_291)) ?_
    show own_G p e below Φ T104 (mkF m 292 #[.val (.int p0), .val (.int p1), .val (.int p2), .val (.int p3), .val (.int (4 : Int32)), .val (.int x5_14), .val (.int x6_22), .val (.int x7_33), .val (.int x8_42), .val (.int x9_53), .val (.int x10_62), .val (.ref ob91), .val (.int (x10_62 + (1 : Int32))), .val (.ref ob96), .val (.ref b_100), .val (.ref b_104)] [(.int (0 : Int32)), (.int (4 : Int32)), (.int (0 : Int32)), (.ref b_104), (.ref b_100)])
    refine own_go (fun _ => XS.iload X104.here hx rfl (hb hby at_292) rfl) ?_
    show own_G p e below Φ T104 (mkF m 294 #[.val (.int p0), .val (.int p1), .val (.int p2), .val (.int p3), .val (.int (4 : Int32)), .val (.int x5_14), .val (.int x6_22), .val (.int x7_33), .val (.int x8_42), .val (.int x9_53), .val (.int x10_62), .val (.ref ob91), .val (.int (x10_62 + (1 : Int32))), .val (.ref ob96), .val (.ref b_100), .val (.ref b_104)] [(.int x5_14), (.int (0 : Int32)), (.int (4 : Int32)), (.int (0 : Int32)), (.ref b_104), (.ref b_100)])
    refine own_go (fun _ => XS.iload X104.here hx rfl (hb hby at_294) rfl) ?_
    show own_G p e below Φ T104 (mkF m 296 #[.val (.int p0), .val (.int p1), .val (.int p2), .val (.int p3), .val (.int (4 : Int32)), .val (.int x5_14), .val (.int x6_22), .val (.int x7_33), .val (.int x8_42), .val (.int x9_53), .val (.int x10_62), .val (.ref ob91), .val (.int (x10_62 + (1 : Int32))), .val (.ref ob96), .val (.ref b_100), .val (.ref b_104)] [(.int x7_33), (.int x5_14), (.int (0 : Int32)), (.int (4 : Int32)), (.int (0 : Int32)), (.ref b_104), (.ref b_100)])
    refine own_go (fun _ => XS.iload X104.here hx rfl (hb hby at_296) rfl) ?_
    show own_G p e below Φ T104 (mkF m 298 #[.val (.int p0), .val (.int p1), .val (.int p2), .val (.int p3), .val (.int (4 : Int32)), .val (.int x5_14), .val (.int x6_22), .val (.int x7_33), .val (.int x8_42), .val (.int x9_53), .val (.int x10_62), .val (.ref ob91), .val (.int (x10_62 + (1 : Int32))), .val (.ref ob96), .val (.ref b_100), .val (.ref b_104)] [(.int x9_53), (.int x7_33), (.int x5_14), (.int (0 : Int32)), (.int (4 : Int32)), (.int (0 : Int32)), (.ref b_104), (.ref b_100)])
    obtain ⟨_, _, ⟨T114, zL114, zk114, zn114⟩, -, X114, ⟨Lc114, hQ114, l114, y114, z114⟩, st114⟩ := Jvm.LawKit.callS X104 hx (y := (⟨"com/example/edgewarden/edgewarden/graph/LikenessGetClassSizesPinLaw", "sizeOk", "([I[IIIIIII)Z"⟩ : MethodName)) hown (mvT hZ (wd_24 hw)) (mvT hZ (wd_25 hw)) (mvT hZ (wd_26 hw)) (mvT hZ (wd_27 hw)) (by decide) (backOf (W := 0) (rmK l Z a0 hw [] b_100 b_104 kb_100 kb_104 (own_max (own_max (own_max (own_max (0 : Int32) ((0 : Int32) + (1 : Int32))) (x5_14 + (1 : Int32))) (x7_33 + (1 : Int32))) (x9_53 + (1 : Int32))) (own_inc (own_inc (own_inc (own_inc (own_zeros (own_max (own_max (own_max (own_max (0 : Int32) ((0 : Int32) + (1 : Int32))) (x5_14 + (1 : Int32))) (x7_33 + (1 : Int32))) (x9_53 + (1 : Int32)))) (0 : Int32)) x5_14) x7_33) x9_53) (0 : Int32) (4 : Int32) (0 : Int32) x5_14 x7_33 x9_53 T104.heap n0 Zp104 f106 p104_0 (by decide) (own_use (P := fun t => (0 : Int32) < (own_max (own_max (own_max (own_max (0 : Int32) ((0 : Int32) + (1 : Int32))) (t.1 + (1 : Int32))) (t.2.2.1 + (1 : Int32))) (t.2.2.2.2.1 + (1 : Int32))) → ((own_inc (own_inc (own_inc (own_inc (own_zeros (own_max (own_max (own_max (own_max (0 : Int32) ((0 : Int32) + (1 : Int32))) (t.1 + (1 : Int32))) (t.2.2.1 + (1 : Int32))) (t.2.2.2.2.1 + (1 : Int32)))) (0 : Int32)) t.1) t.2.2.1) t.2.2.2.2.1)).getD ((0 : Int32)).toNatClampNeg 0 = own_cnt (0 : Int32) (4 : Int32) (0 : Int32) t.1 t.2.2.1 t.2.2.2.2.1) (by decide +kernel) hall)) hZ (wd_27 hw) (wd_26 hw) (by decide) (by decide)) (g := (mkF m 298 #[.val (.int p0), .val (.int p1), .val (.int p2), .val (.int p3), .val (.int (4 : Int32)), .val (.int x5_14), .val (.int x6_22), .val (.int x7_33), .val (.int x8_42), .val (.int x9_53), .val (.int x10_62), .val (.ref ob91), .val (.int (x10_62 + (1 : Int32))), .val (.ref ob96), .val (.ref b_100), .val (.ref b_104)] [(.int x9_53), (.int x7_33), (.int x5_14), (.int (0 : Int32)), (.int (4 : Int32)), (.int (0 : Int32)), (.ref b_104), (.ref b_100)])) rfl (by rw [hml]; rfl) (argsL := [(.ref b_100), (.ref b_104), (.int (0 : Int32)), (.int (4 : Int32)), (.int (0 : Int32)), (.int x5_14), (.int x7_33), (.int x9_53)]) (rest := []) (lenOf pd_4 rfl) rfl (by show 2 * 0 + _ ≤ _; exact Nat.le_of_eq rfl) (hb hby at_298) (fun _ _ => ⟨rfl, rfl, (by decide : 4 + 0 ≤ _), (by decide : 16 + 0 ≤ _)⟩)
    dsimp only [Pt.U, Pt.locs, Pt.cells, Pt.slots] at X114 l114 y114 z114 st114 hQ114
    subst l114 y114 z114
    obtain ⟨rfl, N114q, hs114⟩ := hQ114
    have N114 := Fr.app N104 N114q
    refine own_go st114 ?_
    show own_G p e below Φ T114 (mkF m 301 #[.val (.int p0), .val (.int p1), .val (.int p2), .val (.int p3), .val (.int (4 : Int32)), .val (.int x5_14), .val (.int x6_22), .val (.int x7_33), .val (.int x8_42), .val (.int x9_53), .val (.int x10_62), .val (.ref ob91), .val (.int (x10_62 + (1 : Int32))), .val (.ref ob96), .val (.ref b_100), .val (.ref b_104)] [(.int (1 : Int32))])
    refine own_go (fun _ => XS.ifNo X114.here hx rfl (hb hby at_301) rfl (Jvm.Free.XT.i0_eq_f (by decide : ¬ ((1 : Int32) = (0 : Int32))))) ?_
    show own_G p e below Φ T114 (mkF m 304 #[.val (.int p0), .val (.int p1), .val (.int p2), .val (.int p3), .val (.int (4 : Int32)), .val (.int x5_14), .val (.int x6_22), .val (.int x7_33), .val (.int x8_42), .val (.int x9_53), .val (.int x10_62), .val (.ref ob91), .val (.int (x10_62 + (1 : Int32))), .val (.ref ob96), .val (.ref b_100), .val (.ref b_104)] [])
    refine own_go (fun _ => XS.aload X114.here hx rfl (hb hby at_304) rfl rfl) ?_
    show own_G p e below Φ T114 (mkF m 306 #[.val (.int p0), .val (.int p1), .val (.int p2), .val (.int p3), .val (.int (4 : Int32)), .val (.int x5_14), .val (.int x6_22), .val (.int x7_33), .val (.int x8_42), .val (.int x9_53), .val (.int x10_62), .val (.ref ob91), .val (.int (x10_62 + (1 : Int32))), .val (.ref ob96), .val (.ref b_100), .val (.ref b_104)] [(.ref b_100)])
    refine own_go (fun _ => XS.aload X114.here hx rfl (hb hby at_306) rfl rfl) ?_
    show own_G p e below Φ T114 (mkF m 308 #[.val (.int p0), .val (.int p1), .val (.int p2), .val (.int p3), .val (.int (4 : Int32)), .val (.int x5_14), .val (.int x6_22), .val (.int x7_33), .val (.int x8_42), .val (.int x9_53), .val (.int x10_62), .val (.ref ob91), .val (.int (x10_62 + (1 : Int32))), .val (.ref ob96), .val (.ref b_100), .val (.ref b_104)] [(.ref b_104), (.ref b_100)])
    refine own_go (fun _ => XS.iconst X114.here hx rfl (hb hby at_308)) ?_
    show own_G p e below Φ T114 (mkF m 309 #[.val (.int p0), .val (.int p1), .val (.int p2), .val (.int p3), .val (.int (4 : Int32)), .val (.int x5_14), .val (.int x6_22), .val (.int x7_33), .val (.int x8_42), .val (.int x9_53), .val (.int x10_62), .val (.ref ob91), .val (.int (x10_62 + (1 : Int32))), .val (.ref ob96), .val (.ref b_100), .val (.ref b_104)] [(.int (1 : Int32)), (.ref b_104), (.ref b_100)])
    refine own_go (fun _ => XS.iload X114.here hx rfl (hb hby at_309) rfl) ?_
    show own_G p e below Φ T114 (mkF m 311 #[.val (.int p0), .val (.int p1), .val (.int p2), .val (.int p3), .val (.int (4 : Int32)), .val (.int x5_14), .val (.int x6_22), .val (.int x7_33), .val (.int x8_42), .val (.int x9_53), .val (.int x10_62), .val (.ref ob91), .val (.int (x10_62 + (1 : Int32))), .val (.ref ob96), .val (.ref b_100), .val (.ref b_104)] [(.int (4 : Int32)), (.int (1 : Int32)), (.ref b_104), (.ref b_100)])
    refine own_go (fun _ => XS.iconst X114.here hx rfl (hb hby at_311)) ?_
    show own_G p e below Φ T114 (mkF m 312 #[.val (.int p0), .val (.int p1), .val (.int p2), .val (.int p3), .val (.int (4 : Int32)), .val (.int x5_14), .val (.int x6_22), .val (.int x7_33), .val (.int x8_42), .val (.int x9_53), .val (.int x10_62), .val (.ref ob91), .val (.int (x10_62 + (1 : Int32))), .val (.ref ob96), .val (.ref b_100), .val (.ref b_104)] [(.int (0 : Int32)), (.int (4 : Int32)), (.int (1 : Int32)), (.ref b_104), (.ref b_100)])
    refine own_go (fun _ => XS.iload X114.here hx rfl (hb hby at_312) rfl) ?_
    show own_G p e below Φ T114 (mkF m 314 #[.val (.int p0), .val (.int p1), .val (.int p2), .val (.int p3), .val (.int (4 : Int32)), .val (.int x5_14), .val (.int x6_22), .val (.int x7_33), .val (.int x8_42), .val (.int x9_53), .val (.int x10_62), .val (.ref ob91), .val (.int (x10_62 + (1 : Int32))), .val (.ref ob96), .val (.ref b_100), .val (.ref b_104)] [(.int x5_14), (.int (0 : Int32)), (.int (4 : Int32)), (.int (1 : Int32)), (.ref b_104), (.ref b_100)])
    refine own_go (fun _ => XS.iload X114.here hx rfl (hb hby at_314) rfl) ?_
    show own_G p e below Φ T114 (mkF m 316 #[.val (.int p0), .val (.int p1), .val (.int p2), .val (.int p3), .val (.int (4 : Int32)), .val (.int x5_14), .val (.int x6_22), .val (.int x7_33), .val (.int x8_42), .val (.int x9_53), .val (.int x10_62), .val (.ref ob91), .val (.int (x10_62 + (1 : Int32))), .val (.ref ob96), .val (.ref b_100), .val (.ref b_104)] [(.int x7_33), (.int x5_14), (.int (0 : Int32)), (.int (4 : Int32)), (.int (1 : Int32)), (.ref b_104), (.ref b_100)])
    refine own_go (fun _ => XS.iload X114.here hx rfl (hb hby at_316) rfl) ?_
    show own_G p e below Φ T114 (mkF m 318 #[.val (.int p0), .val (.int p1), .val (.int p2), .val (.int p3), .val (.int (4 : Int32)), .val (.int x5_14), .val (.int x6_22), .val (.int x7_33), .val (.int x8_42), .val (.int x9_53), .val (.int x10_62), .val (.ref ob91), .val (.int (x10_62 + (1 : Int32))), .val (.ref ob96), .val (.ref b_100), .val (.ref b_104)] [(.int x9_53), (.int x7_33), (.int x5_14), (.int (0 : Int32)), (.int (4 : Int32)), (.int (1 : Int32)), (.ref b_104), (.ref b_100)])
    obtain ⟨_, _, ⟨T115, zL115, zk115, zn115⟩, -, X115, ⟨Lc115, hQ115, l115, y115, z115⟩, st115⟩ := Jvm.LawKit.callS X114 hx (y := (⟨"com/example/edgewarden/edgewarden/graph/LikenessGetClassSizesPinLaw", "sizeOk", "([I[IIIIIII)Z"⟩ : MethodName)) hown (mvT hZ (wd_24 hw)) (mvT hZ (wd_25 hw)) (mvT hZ (wd_26 hw)) (mvT hZ (wd_27 hw)) (by decide) (backOf (W := 0) (rmK l Z a0 hw [] b_100 b_104 kb_100 kb_104 (own_max (own_max (own_max (own_max (0 : Int32) ((0 : Int32) + (1 : Int32))) (x5_14 + (1 : Int32))) (x7_33 + (1 : Int32))) (x9_53 + (1 : Int32))) (own_inc (own_inc (own_inc (own_inc (own_zeros (own_max (own_max (own_max (own_max (0 : Int32) ((0 : Int32) + (1 : Int32))) (x5_14 + (1 : Int32))) (x7_33 + (1 : Int32))) (x9_53 + (1 : Int32)))) (0 : Int32)) x5_14) x7_33) x9_53) (1 : Int32) (4 : Int32) (0 : Int32) x5_14 x7_33 x9_53 T104.heap n0 Zp104 f106 p104_0 (by decide) (own_use (P := fun t => (1 : Int32) < (own_max (own_max (own_max (own_max (0 : Int32) ((0 : Int32) + (1 : Int32))) (t.1 + (1 : Int32))) (t.2.2.1 + (1 : Int32))) (t.2.2.2.2.1 + (1 : Int32))) → ((own_inc (own_inc (own_inc (own_inc (own_zeros (own_max (own_max (own_max (own_max (0 : Int32) ((0 : Int32) + (1 : Int32))) (t.1 + (1 : Int32))) (t.2.2.1 + (1 : Int32))) (t.2.2.2.2.1 + (1 : Int32)))) (0 : Int32)) t.1) t.2.2.1) t.2.2.2.2.1)).getD ((1 : Int32)).toNatClampNeg 0 = own_cnt (1 : Int32) (4 : Int32) (0 : Int32) t.1 t.2.2.1 t.2.2.2.2.1) (by decide +kernel) hall)) hZ (wd_27 hw) (wd_26 hw) (by decide) (by decide)) (g := (mkF m 318 #[.val (.int p0), .val (.int p1), .val (.int p2), .val (.int p3), .val (.int (4 : Int32)), .val (.int x5_14), .val (.int x6_22), .val (.int x7_33), .val (.int x8_42), .val (.int x9_53), .val (.int x10_62), .val (.ref ob91), .val (.int (x10_62 + (1 : Int32))), .val (.ref ob96), .val (.ref b_100), .val (.ref b_104)] [(.int x9_53), (.int x7_33), (.int x5_14), (.int (0 : Int32)), (.int (4 : Int32)), (.int (1 : Int32)), (.ref b_104), (.ref b_100)])) rfl (by rw [hml]; rfl) (argsL := [(.ref b_100), (.ref b_104), (.int (1 : Int32)), (.int (4 : Int32)), (.int (0 : Int32)), (.int x5_14), (.int x7_33), (.int x9_53)]) (rest := []) (lenOf pd_4 rfl) rfl (by show 2 * 0 + _ ≤ _; exact Nat.le_of_eq rfl) (hb hby at_318) (fun _ _ => ⟨rfl, hs114, (by decide : 4 + 0 ≤ _), (by decide : 16 + 0 ≤ _)⟩)
    dsimp only [Pt.U, Pt.locs, Pt.cells, Pt.slots] at X115 l115 y115 z115 st115 hQ115
    subst l115 y115 z115
    obtain ⟨rfl, N115q, hs115⟩ := hQ115
    have N115 := Fr.app N114 N115q
    refine own_go st115 ?_
    show own_G p e below Φ T115 (mkF m 321 #[.val (.int p0), .val (.int p1), .val (.int p2), .val (.int p3), .val (.int (4 : Int32)), .val (.int x5_14), .val (.int x6_22), .val (.int x7_33), .val (.int x8_42), .val (.int x9_53), .val (.int x10_62), .val (.ref ob91), .val (.int (x10_62 + (1 : Int32))), .val (.ref ob96), .val (.ref b_100), .val (.ref b_104)] [(.int (1 : Int32))])
    refine own_go (fun _ => XS.ifNo X115.here hx rfl (hb hby at_321) rfl (Jvm.Free.XT.i0_eq_f (by decide : ¬ ((1 : Int32) = (0 : Int32))))) ?_
    show own_G p e below Φ T115 (mkF m 324 #[.val (.int p0), .val (.int p1), .val (.int p2), .val (.int p3), .val (.int (4 : Int32)), .val (.int x5_14), .val (.int x6_22), .val (.int x7_33), .val (.int x8_42), .val (.int x9_53), .val (.int x10_62), .val (.ref ob91), .val (.int (x10_62 + (1 : Int32))), .val (.ref ob96), .val (.ref b_100), .val (.ref b_104)] [])
    refine own_go (fun _ => XS.aload X115.here hx rfl (hb hby at_324) rfl rfl) ?_
    show own_G p e below Φ T115 (mkF m 326 #[.val (.int p0), .val (.int p1), .val (.int p2), .val (.int p3), .val (.int (4 : Int32)), .val (.int x5_14), .val (.int x6_22), .val (.int x7_33), .val (.int x8_42), .val (.int x9_53), .val (.int x10_62), .val (.ref ob91), .val (.int (x10_62 + (1 : Int32))), .val (.ref ob96), .val (.ref b_100), .val (.ref b_104)] [(.ref b_100)])
    refine own_go (fun _ => XS.aload X115.here hx rfl (hb hby at_326) rfl rfl) ?_
    show own_G p e below Φ T115 (mkF m 328 #[.val (.int p0), .val (.int p1), .val (.int p2), .val (.int p3), .val (.int (4 : Int32)), .val (.int x5_14), .val (.int x6_22), .val (.int x7_33), .val (.int x8_42), .val (.int x9_53), .val (.int x10_62), .val (.ref ob91), .val (.int (x10_62 + (1 : Int32))), .val (.ref ob96), .val (.ref b_100), .val (.ref b_104)] [(.ref b_104), (.ref b_100)])
    refine own_go (fun _ => XS.iconst X115.here hx rfl (hb hby at_328)) ?_
    show own_G p e below Φ T115 (mkF m 329 #[.val (.int p0), .val (.int p1), .val (.int p2), .val (.int p3), .val (.int (4 : Int32)), .val (.int x5_14), .val (.int x6_22), .val (.int x7_33), .val (.int x8_42), .val (.int x9_53), .val (.int x10_62), .val (.ref ob91), .val (.int (x10_62 + (1 : Int32))), .val (.ref ob96), .val (.ref b_100), .val (.ref b_104)] [(.int (2 : Int32)), (.ref b_104), (.ref b_100)])
    refine own_go (fun _ => XS.iload X115.here hx rfl (hb hby at_329) rfl) ?_
    show own_G p e below Φ T115 (mkF m 331 #[.val (.int p0), .val (.int p1), .val (.int p2), .val (.int p3), .val (.int (4 : Int32)), .val (.int x5_14), .val (.int x6_22), .val (.int x7_33), .val (.int x8_42), .val (.int x9_53), .val (.int x10_62), .val (.ref ob91), .val (.int (x10_62 + (1 : Int32))), .val (.ref ob96), .val (.ref b_100), .val (.ref b_104)] [(.int (4 : Int32)), (.int (2 : Int32)), (.ref b_104), (.ref b_100)])
    refine own_go (fun _ => XS.iconst X115.here hx rfl (hb hby at_331)) ?_
    show own_G p e below Φ T115 (mkF m 332 #[.val (.int p0), .val (.int p1), .val (.int p2), .val (.int p3), .val (.int (4 : Int32)), .val (.int x5_14), .val (.int x6_22), .val (.int x7_33), .val (.int x8_42), .val (.int x9_53), .val (.int x10_62), .val (.ref ob91), .val (.int (x10_62 + (1 : Int32))), .val (.ref ob96), .val (.ref b_100), .val (.ref b_104)] [(.int (0 : Int32)), (.int (4 : Int32)), (.int (2 : Int32)), (.ref b_104), (.ref b_100)])
    refine own_go (fun _ => XS.iload X115.here hx rfl (hb hby at_332) rfl) ?_
    show own_G p e below Φ T115 (mkF m 334 #[.val (.int p0), .val (.int p1), .val (.int p2), .val (.int p3), .val (.int (4 : Int32)), .val (.int x5_14), .val (.int x6_22), .val (.int x7_33), .val (.int x8_42), .val (.int x9_53), .val (.int x10_62), .val (.ref ob91), .val (.int (x10_62 + (1 : Int32))), .val (.ref ob96), .val (.ref b_100), .val (.ref b_104)] [(.int x5_14), (.int (0 : Int32)), (.int (4 : Int32)), (.int (2 : Int32)), (.ref b_104), (.ref b_100)])
    refine own_go (fun _ => XS.iload X115.here hx rfl (hb hby at_334) rfl) ?_
    show own_G p e below Φ T115 (mkF m 336 #[.val (.int p0), .val (.int p1), .val (.int p2), .val (.int p3), .val (.int (4 : Int32)), .val (.int x5_14), .val (.int x6_22), .val (.int x7_33), .val (.int x8_42), .val (.int x9_53), .val (.int x10_62), .val (.ref ob91), .val (.int (x10_62 + (1 : Int32))), .val (.ref ob96), .val (.ref b_100), .val (.ref b_104)] [(.int x7_33), (.int x5_14), (.int (0 : Int32)), (.int (4 : Int32)), (.int (2 : Int32)), (.ref b_104), (.ref b_100)])
    refine own_go (fun _ => XS.iload X115.here hx rfl (hb hby at_336) rfl) ?_
    show own_G p e below Φ T115 (mkF m 338 #[.val (.int p0), .val (.int p1), .val (.int p2), .val (.int p3), .val (.int (4 : Int32)), .val (.int x5_14), .val (.int x6_22), .val (.int x7_33), .val (.int x8_42), .val (.int x9_53), .val (.int x10_62), .val (.ref ob91), .val (.int (x10_62 + (1 : Int32))), .val (.ref ob96), .val (.ref b_100), .val (.ref b_104)] [(.int x9_53), (.int x7_33), (.int x5_14), (.int (0 : Int32)), (.int (4 : Int32)), (.int (2 : Int32)), (.ref b_104), (.ref b_100)])
    obtain ⟨_, _, ⟨T116, zL116, zk116, zn116⟩, -, X116, ⟨Lc116, hQ116, l116, y116, z116⟩, st116⟩ := Jvm.LawKit.callS X115 hx (y := (⟨"com/example/edgewarden/edgewarden/graph/LikenessGetClassSizesPinLaw", "sizeOk", "([I[IIIIIII)Z"⟩ : MethodName)) hown (mvT hZ (wd_24 hw)) (mvT hZ (wd_25 hw)) (mvT hZ (wd_26 hw)) (mvT hZ (wd_27 hw)) (by decide) (backOf (W := 0) (rmK l Z a0 hw [] b_100 b_104 kb_100 kb_104 (own_max (own_max (own_max (own_max (0 : Int32) ((0 : Int32) + (1 : Int32))) (x5_14 + (1 : Int32))) (x7_33 + (1 : Int32))) (x9_53 + (1 : Int32))) (own_inc (own_inc (own_inc (own_inc (own_zeros (own_max (own_max (own_max (own_max (0 : Int32) ((0 : Int32) + (1 : Int32))) (x5_14 + (1 : Int32))) (x7_33 + (1 : Int32))) (x9_53 + (1 : Int32)))) (0 : Int32)) x5_14) x7_33) x9_53) (2 : Int32) (4 : Int32) (0 : Int32) x5_14 x7_33 x9_53 T104.heap n0 Zp104 f106 p104_0 (by decide) (own_use (P := fun t => (2 : Int32) < (own_max (own_max (own_max (own_max (0 : Int32) ((0 : Int32) + (1 : Int32))) (t.1 + (1 : Int32))) (t.2.2.1 + (1 : Int32))) (t.2.2.2.2.1 + (1 : Int32))) → ((own_inc (own_inc (own_inc (own_inc (own_zeros (own_max (own_max (own_max (own_max (0 : Int32) ((0 : Int32) + (1 : Int32))) (t.1 + (1 : Int32))) (t.2.2.1 + (1 : Int32))) (t.2.2.2.2.1 + (1 : Int32)))) (0 : Int32)) t.1) t.2.2.1) t.2.2.2.2.1)).getD ((2 : Int32)).toNatClampNeg 0 = own_cnt (2 : Int32) (4 : Int32) (0 : Int32) t.1 t.2.2.1 t.2.2.2.2.1) (by decide +kernel) hall)) hZ (wd_27 hw) (wd_26 hw) (by decide) (by decide)) (g := (mkF m 338 #[.val (.int p0), .val (.int p1), .val (.int p2), .val (.int p3), .val (.int (4 : Int32)), .val (.int x5_14), .val (.int x6_22), .val (.int x7_33), .val (.int x8_42), .val (.int x9_53), .val (.int x10_62), .val (.ref ob91), .val (.int (x10_62 + (1 : Int32))), .val (.ref ob96), .val (.ref b_100), .val (.ref b_104)] [(.int x9_53), (.int x7_33), (.int x5_14), (.int (0 : Int32)), (.int (4 : Int32)), (.int (2 : Int32)), (.ref b_104), (.ref b_100)])) rfl (by rw [hml]; rfl) (argsL := [(.ref b_100), (.ref b_104), (.int (2 : Int32)), (.int (4 : Int32)), (.int (0 : Int32)), (.int x5_14), (.int x7_33), (.int x9_53)]) (rest := []) (lenOf pd_4 rfl) rfl (by show 2 * 0 + _ ≤ _; exact Nat.le_of_eq rfl) (hb hby at_338) (fun _ _ => ⟨rfl, hs115, (by decide : 4 + 0 ≤ _), (by decide : 16 + 0 ≤ _)⟩)
    dsimp only [Pt.U, Pt.locs, Pt.cells, Pt.slots] at X116 l116 y116 z116 st116 hQ116
    subst l116 y116 z116
    obtain ⟨rfl, N116q, hs116⟩ := hQ116
    have N116 := Fr.app N115 N116q
    refine own_go st116 ?_
    show own_G p e below Φ T116 (mkF m 341 #[.val (.int p0), .val (.int p1), .val (.int p2), .val (.int p3), .val (.int (4 : Int32)), .val (.int x5_14), .val (.int x6_22), .val (.int x7_33), .val (.int x8_42), .val (.int x9_53), .val (.int x10_62), .val (.ref ob91), .val (.int (x10_62 + (1 : Int32))), .val (.ref ob96), .val (.ref b_100), .val (.ref b_104)] [(.int (1 : Int32))])
    refine own_go (fun _ => XS.ifNo X116.here hx rfl (hb hby at_341) rfl (Jvm.Free.XT.i0_eq_f (by decide : ¬ ((1 : Int32) = (0 : Int32))))) ?_
    show own_G p e below Φ T116 (mkF m 344 #[.val (.int p0), .val (.int p1), .val (.int p2), .val (.int p3), .val (.int (4 : Int32)), .val (.int x5_14), .val (.int x6_22), .val (.int x7_33), .val (.int x8_42), .val (.int x9_53), .val (.int x10_62), .val (.ref ob91), .val (.int (x10_62 + (1 : Int32))), .val (.ref ob96), .val (.ref b_100), .val (.ref b_104)] [])
    refine own_go (fun _ => XS.aload X116.here hx rfl (hb hby at_344) rfl rfl) ?_
    show own_G p e below Φ T116 (mkF m 346 #[.val (.int p0), .val (.int p1), .val (.int p2), .val (.int p3), .val (.int (4 : Int32)), .val (.int x5_14), .val (.int x6_22), .val (.int x7_33), .val (.int x8_42), .val (.int x9_53), .val (.int x10_62), .val (.ref ob91), .val (.int (x10_62 + (1 : Int32))), .val (.ref ob96), .val (.ref b_100), .val (.ref b_104)] [(.ref b_100)])
    refine own_go (fun _ => XS.aload X116.here hx rfl (hb hby at_346) rfl rfl) ?_
    show own_G p e below Φ T116 (mkF m 348 #[.val (.int p0), .val (.int p1), .val (.int p2), .val (.int p3), .val (.int (4 : Int32)), .val (.int x5_14), .val (.int x6_22), .val (.int x7_33), .val (.int x8_42), .val (.int x9_53), .val (.int x10_62), .val (.ref ob91), .val (.int (x10_62 + (1 : Int32))), .val (.ref ob96), .val (.ref b_100), .val (.ref b_104)] [(.ref b_104), (.ref b_100)])
    refine own_go (fun _ => XS.iconst X116.here hx rfl (hb hby at_348)) ?_
    show own_G p e below Φ T116 (mkF m 349 #[.val (.int p0), .val (.int p1), .val (.int p2), .val (.int p3), .val (.int (4 : Int32)), .val (.int x5_14), .val (.int x6_22), .val (.int x7_33), .val (.int x8_42), .val (.int x9_53), .val (.int x10_62), .val (.ref ob91), .val (.int (x10_62 + (1 : Int32))), .val (.ref ob96), .val (.ref b_100), .val (.ref b_104)] [(.int (3 : Int32)), (.ref b_104), (.ref b_100)])
    refine own_go (fun _ => XS.iload X116.here hx rfl (hb hby at_349) rfl) ?_
    show own_G p e below Φ T116 (mkF m 351 #[.val (.int p0), .val (.int p1), .val (.int p2), .val (.int p3), .val (.int (4 : Int32)), .val (.int x5_14), .val (.int x6_22), .val (.int x7_33), .val (.int x8_42), .val (.int x9_53), .val (.int x10_62), .val (.ref ob91), .val (.int (x10_62 + (1 : Int32))), .val (.ref ob96), .val (.ref b_100), .val (.ref b_104)] [(.int (4 : Int32)), (.int (3 : Int32)), (.ref b_104), (.ref b_100)])
    refine own_go (fun _ => XS.iconst X116.here hx rfl (hb hby at_351)) ?_
    show own_G p e below Φ T116 (mkF m 352 #[.val (.int p0), .val (.int p1), .val (.int p2), .val (.int p3), .val (.int (4 : Int32)), .val (.int x5_14), .val (.int x6_22), .val (.int x7_33), .val (.int x8_42), .val (.int x9_53), .val (.int x10_62), .val (.ref ob91), .val (.int (x10_62 + (1 : Int32))), .val (.ref ob96), .val (.ref b_100), .val (.ref b_104)] [(.int (0 : Int32)), (.int (4 : Int32)), (.int (3 : Int32)), (.ref b_104), (.ref b_100)])
    refine own_go (fun _ => XS.iload X116.here hx rfl (hb hby at_352) rfl) ?_
    show own_G p e below Φ T116 (mkF m 354 #[.val (.int p0), .val (.int p1), .val (.int p2), .val (.int p3), .val (.int (4 : Int32)), .val (.int x5_14), .val (.int x6_22), .val (.int x7_33), .val (.int x8_42), .val (.int x9_53), .val (.int x10_62), .val (.ref ob91), .val (.int (x10_62 + (1 : Int32))), .val (.ref ob96), .val (.ref b_100), .val (.ref b_104)] [(.int x5_14), (.int (0 : Int32)), (.int (4 : Int32)), (.int (3 : Int32)), (.ref b_104), (.ref b_100)])
    refine own_go (fun _ => XS.iload X116.here hx rfl (hb hby at_354) rfl) ?_
    show own_G p e below Φ T116 (mkF m 356 #[.val (.int p0), .val (.int p1), .val (.int p2), .val (.int p3), .val (.int (4 : Int32)), .val (.int x5_14), .val (.int x6_22), .val (.int x7_33), .val (.int x8_42), .val (.int x9_53), .val (.int x10_62), .val (.ref ob91), .val (.int (x10_62 + (1 : Int32))), .val (.ref ob96), .val (.ref b_100), .val (.ref b_104)] [(.int x7_33), (.int x5_14), (.int (0 : Int32)), (.int (4 : Int32)), (.int (3 : Int32)), (.ref b_104), (.ref b_100)])
    refine own_go (fun _ => XS.iload X116.here hx rfl (hb hby at_356) rfl) ?_
    show own_G p e below Φ T116 (mkF m 358 #[.val (.int p0), .val (.int p1), .val (.int p2), .val (.int p3), .val (.int (4 : Int32)), .val (.int x5_14), .val (.int x6_22), .val (.int x7_33), .val (.int x8_42), .val (.int x9_53), .val (.int x10_62), .val (.ref ob91), .val (.int (x10_62 + (1 : Int32))), .val (.ref ob96), .val (.ref b_100), .val (.ref b_104)] [(.int x9_53), (.int x7_33), (.int x5_14), (.int (0 : Int32)), (.int (4 : Int32)), (.int (3 : Int32)), (.ref b_104), (.ref b_100)])
    obtain ⟨_, _, ⟨T117, zL117, zk117, zn117⟩, -, X117, ⟨Lc117, hQ117, l117, y117, z117⟩, st117⟩ := Jvm.LawKit.callS X116 hx (y := (⟨"com/example/edgewarden/edgewarden/graph/LikenessGetClassSizesPinLaw", "sizeOk", "([I[IIIIIII)Z"⟩ : MethodName)) hown (mvT hZ (wd_24 hw)) (mvT hZ (wd_25 hw)) (mvT hZ (wd_26 hw)) (mvT hZ (wd_27 hw)) (by decide) (backOf (W := 0) (rmK l Z a0 hw [] b_100 b_104 kb_100 kb_104 (own_max (own_max (own_max (own_max (0 : Int32) ((0 : Int32) + (1 : Int32))) (x5_14 + (1 : Int32))) (x7_33 + (1 : Int32))) (x9_53 + (1 : Int32))) (own_inc (own_inc (own_inc (own_inc (own_zeros (own_max (own_max (own_max (own_max (0 : Int32) ((0 : Int32) + (1 : Int32))) (x5_14 + (1 : Int32))) (x7_33 + (1 : Int32))) (x9_53 + (1 : Int32)))) (0 : Int32)) x5_14) x7_33) x9_53) (3 : Int32) (4 : Int32) (0 : Int32) x5_14 x7_33 x9_53 T104.heap n0 Zp104 f106 p104_0 (by decide) (own_use (P := fun t => (3 : Int32) < (own_max (own_max (own_max (own_max (0 : Int32) ((0 : Int32) + (1 : Int32))) (t.1 + (1 : Int32))) (t.2.2.1 + (1 : Int32))) (t.2.2.2.2.1 + (1 : Int32))) → ((own_inc (own_inc (own_inc (own_inc (own_zeros (own_max (own_max (own_max (own_max (0 : Int32) ((0 : Int32) + (1 : Int32))) (t.1 + (1 : Int32))) (t.2.2.1 + (1 : Int32))) (t.2.2.2.2.1 + (1 : Int32)))) (0 : Int32)) t.1) t.2.2.1) t.2.2.2.2.1)).getD ((3 : Int32)).toNatClampNeg 0 = own_cnt (3 : Int32) (4 : Int32) (0 : Int32) t.1 t.2.2.1 t.2.2.2.2.1) (by decide +kernel) hall)) hZ (wd_27 hw) (wd_26 hw) (by decide) (by decide)) (g := (mkF m 358 #[.val (.int p0), .val (.int p1), .val (.int p2), .val (.int p3), .val (.int (4 : Int32)), .val (.int x5_14), .val (.int x6_22), .val (.int x7_33), .val (.int x8_42), .val (.int x9_53), .val (.int x10_62), .val (.ref ob91), .val (.int (x10_62 + (1 : Int32))), .val (.ref ob96), .val (.ref b_100), .val (.ref b_104)] [(.int x9_53), (.int x7_33), (.int x5_14), (.int (0 : Int32)), (.int (4 : Int32)), (.int (3 : Int32)), (.ref b_104), (.ref b_100)])) rfl (by rw [hml]; rfl) (argsL := [(.ref b_100), (.ref b_104), (.int (3 : Int32)), (.int (4 : Int32)), (.int (0 : Int32)), (.int x5_14), (.int x7_33), (.int x9_53)]) (rest := []) (lenOf pd_4 rfl) rfl (by show 2 * 0 + _ ≤ _; exact Nat.le_of_eq rfl) (hb hby at_358) (fun _ _ => ⟨rfl, hs116, (by decide : 4 + 0 ≤ _), (by decide : 16 + 0 ≤ _)⟩)
    dsimp only [Pt.U, Pt.locs, Pt.cells, Pt.slots] at X117 l117 y117 z117 st117 hQ117
    subst l117 y117 z117
    obtain ⟨rfl, N117q, hs117⟩ := hQ117
    have N117 := Fr.app N116 N117q
    refine own_go st117 ?_
    show own_G p e below Φ T117 (mkF m 361 #[.val (.int p0), .val (.int p1), .val (.int p2), .val (.int p3), .val (.int (4 : Int32)), .val (.int x5_14), .val (.int x6_22), .val (.int x7_33), .val (.int x8_42), .val (.int x9_53), .val (.int x10_62), .val (.ref ob91), .val (.int (x10_62 + (1 : Int32))), .val (.ref ob96), .val (.ref b_100), .val (.ref b_104)] [(.int (1 : Int32))])
    refine own_go (fun _ => XS.ifNo X117.here hx rfl (hb hby at_361) rfl (Jvm.Free.XT.i0_eq_f (by decide : ¬ ((1 : Int32) = (0 : Int32))))) ?_
    show own_G p e below Φ T117 (mkF m 364 #[.val (.int p0), .val (.int p1), .val (.int p2), .val (.int p3), .val (.int (4 : Int32)), .val (.int x5_14), .val (.int x6_22), .val (.int x7_33), .val (.int x8_42), .val (.int x9_53), .val (.int x10_62), .val (.ref ob91), .val (.int (x10_62 + (1 : Int32))), .val (.ref ob96), .val (.ref b_100), .val (.ref b_104)] [])
    refine own_go (fun _ => XS.iconst X117.here hx rfl (hb hby at_364)) ?_
    show own_G p e below Φ T117 (mkF m 365 #[.val (.int p0), .val (.int p1), .val (.int p2), .val (.int p3), .val (.int (4 : Int32)), .val (.int x5_14), .val (.int x6_22), .val (.int x7_33), .val (.int x8_42), .val (.int x9_53), .val (.int x10_62), .val (.ref ob91), .val (.int (x10_62 + (1 : Int32))), .val (.ref ob96), .val (.ref b_100), .val (.ref b_104)] [(.int (1 : Int32))])
    refine own_go (fun _ => XS.goto X117.here hx rfl (pc0 := 365) (pc' := 369) rfl (hb hby at_365) (by decide) (by decide)) ?_
    show own_G p e below Φ T117 (mkF m 369 #[.val (.int p0), .val (.int p1), .val (.int p2), .val (.int p3), .val (.int (4 : Int32)), .val (.int x5_14), .val (.int x6_22), .val (.int x7_33), .val (.int x8_42), .val (.int x9_53), .val (.int x10_62), .val (.ref ob91), .val (.int (x10_62 + (1 : Int32))), .val (.ref ob96), .val (.ref b_100), .val (.ref b_104)] [(.int (1 : Int32))])
    rw [hΦ]
    refine own_ret X117 (v := some (.int (1 : Int32))) (fun h => by rw [Bd.returns] at h; cases h) (BodyLoose.notSynchronized Bd) (fun fs hr => retN X117 hx (t := .boolean) Bd.returns (by simp) (hb hby at_369) hr) ?_ (by decide) (by decide)
    rw [hs117]
    exact ⟨rfl, N117⟩
set_option maxRecDepth 65536 in
set_option maxHeartbeats 40000000 in
theorem comes_1 {Post : Tables → Env → Array Value → State → Outcome → State → Prop} (hpost : ∀ tb e args s v u, (limb_1_1.after args s (.returned v) u = true ∧ limb_1_2.after args s (.returned v) u = true ∧ True) → FrameEnd s (.returned v) u (Jvm.fieldLocs frame_1_writes args s ++ Jvm.arrayLocs frame_1_arrays args s ++ Jvm.staticLocs frame_1_statics s) 16 128 → Post tb e args s (.returned v) u) :
    ArmFor flags0 classFile x code maxLocals ret World_1 tables_1 room_1 Calls_1 rest_1 Pre_1 Post := by
  intro l hfl _ _ p e ha hc hk s m args below hf hA hF happ hP
  obtain ⟨hcalls, hrest, hpre⟩ := hP
  obtain ⟨-, -, -, hnamed, -, -, -, hat⟩ := (Spec.applies_iff hf).mp happ
  obtain ⟨hg, hn⟩ := and_e (Cond.before_iff.mp (show (Jvm.Cond.and given_1 narrow_1).before args s = true from hpre))
  obtain ⟨g1, g2⟩ := and_e hg
  obtain ⟨g3, g4⟩ := and_e g2
  obtain ⟨g5, g6⟩ := and_e g4
  obtain ⟨g7, g8⟩ := and_e g6
  obtain ⟨w0, w1, w2, w3, rfl⟩ : ∃ w0 w1 w2 w3 : Value, args = #[w0, w1, w2, w3] := by
    have hs : args.size = 4 := by simpa [Cond.value, given_1] using g1
    obtain ⟨L⟩ := args
    match L, hs with
    | [w0, w1, w2, w3], _ => exact ⟨w0, w1, w2, w3, rfl⟩
  have hw := fun d (hd : d ∈ tables_1) => atoms_spec (ws := Jvm.Cond.code x code maxLocals ret :: tables_1) hat d (List.mem_cons_of_mem _ hd)
  obtain ⟨i0, ei0⟩ := is_v g3
  obtain rfl : w0 = (.int i0) := Option.some.inj ei0
  obtain ⟨i1, ei1⟩ := is_v g5
  obtain rfl : w1 = (.int i1) := Option.some.inj ei1
  obtain ⟨i2, ei2⟩ := is_v g7
  obtain rfl : w2 = (.int i2) := Option.some.inj ei2
  obtain ⟨i3, ei3⟩ := is_v g8
  obtain rfl : w3 = (.int i3) := Option.some.inj ei3
  obtain ⟨n, o, h1, h2, h3, _, L, rfl, ⟨rfl, N⟩, hq⟩ := rm0 l s _ hw tables_1 i0 i1 i2 i3 s.heap s.heap.size (Nat.le_refl _)  p e ha hc hk s m _ below hf ((Spec.applies_iff_loose hf).mp happ).1 ⟨rfl, State.Warmed39.refl s, rfl⟩ trivial
  refine ⟨n, _, h1, h2, h3, hpost _ _ _ _ _ _ ⟨Cond.after_iff.mpr rfl, Cond.after_iff.mpr (eq_i res_at (Term.int_eval (1)) rfl), trivial⟩ ⟨hq.1, hq.2.1, (hq.2.2.sift fun y hy => Or.inr (N y hy)).mono (by decide) (by decide)⟩⟩
theorem main_1_1 : Claimed_1_1 := comes_1 fun _ _ _ _ _ _ h hF => ⟨h.1, hF⟩
theorem main_1_2 : Claimed_1_2 := comes_1 fun _ _ _ _ _ _ h hF => ⟨h.2.1, hF⟩
end Jvm.Pilot.@@N@@
namespace Jvm.Pilot.@@N@@
open Jvm Jvm.ClassFile Sem Op Lib Jvm.Free Jvm.Stand Jvm.Pilot.@@N@@.Jvm.D
/-! MADE BY PROGRAM (witnessworld.py) out of the Statement's table words and the real class files: 10 classes; the members and pool entries that the words name. The judged class is class 1, her method 1. -/
namespace start1
open Jvm.ClassFile
def u (s : String) : CpInfo := .utf8 (stringToUtf16 s)
/-- a pool by its gaps: so many unusable entries, then the entry; so many at the end -/
def gap : Nat → List CpInfo → List CpInfo
  | 0, r => r
  | n + 1, r => .unusable :: gap n r
def poolList (es : List (Nat × CpInfo)) (last : Nat) : List CpInfo := es.foldr (fun e r => gap e.1 (e.2 :: r)) (gap last [])
def pool (es : List (Nat × CpInfo)) (last : Nat) : Array CpInfo := ⟨poolList es last⟩
def fileOf (pool : Array CpInfo) (this : Nat) (attrs : Array Attribute := #[]) (ms : Array MethodInfo := #[]) (fl : Nat := 33) (sup : Nat := 0) (ifs : Array Nat := #[]) (fds : Array FieldInfo := #[]) : ClassFile where
  minorVersion := 0
  majorVersion := 65
  constantPool := pool
  accessFlags := fl
  thisClass := this
  superClass := sup
  interfaces := ifs
  fields := fds
  methods := ms
  attributes := attrs
def plain (name : String) (sup : Option ClassId) : Class where
  name := name
  kind := .ordinary
  loader := none
  accessFlags := 33
  super := sup
  interfaces := #[]
  cf := none
  fields := #[]
  methods := #[]
  instanceTypes := #[]
  staticTypes := #[]
  resolved := #[]
  callSites := []
  init := .initialized
  statics := none
  mirror := none

def pool0 : Array CpInfo := pool [(5, u "<init>"), (0, u "()V"), (1, .class_ 10), (1, u "java/lang/Object")] 113

def k0c0 : Code := { maxStack := 0, maxLocals := 1, code := object_method_1_code, exceptionTable := #[], attributes := #[] }
def k0m0 : Method := { name := "<init>", desc := "()V", sig := { parameters := [], returnType := none }, accessFlags := 1, code := some k0c0 }
/-- java/lang/Object -/
def k0 : Class := { plain "java/lang/Object" none with
  accessFlags := 33
  interfaces := #[]
  cf := some (fileOf pool0 8 #[] #[{ accessFlags := 1, nameIndex := 5, descriptorIndex := 6, attributes := #[] }] 33 0 #[] #[])
  fields := #[]
  methods := #[k0m0]
  instanceTypes := #[]
  staticTypes := #[]
  resolved := Array.replicate 124 none
  statics := none }

def pool1 : Array CpInfo := pool [(2, .class_ 4), (1, u "java/lang/Object"), (0, u "<init>"), (0, u "()V"), (0, .integer 2147483647), (0, .methodref 9 10), (0, .class_ 11), (0, .nameAndType 12 13), (0, u "java/lang/Math"), (0, u "max"), (0, u "(II)I"), (0, .class_ 15), (0, u "com/example/edgewarden/edgewarden/graph/Likeness"), (0, .methodref 14 17), (0, .nameAndType 5 18), (0, u "([I)V"), (0, .methodref 14 20), (0, .nameAndType 21 22), (0, u "getClassSizes"), (0, u "()[I"), (0, .methodref 24 25), (0, .class_ 26), (0, .nameAndType 27 28), (0, u "com/example/edgewarden/edgewarden/graph/LikenessGetClassSizesPinLaw"), (0, u "sizeOk"), (0, u "([I[IIIIIII)Z"), (0, .methodref 24 30), (0, .nameAndType 31 32), (0, u "cnt"), (0, u "(IIIIII)I"), (2, u "law"), (0, u "(IIII)Z")] 5

def k1m0 : Method := { name := "<init>", desc := "()V", sig := { parameters := [], returnType := none }, accessFlags := 1, code := none }
def k1c1 : Code := { maxStack := 8, maxLocals := 16, code := code, exceptionTable := #[], attributes := #[] }
def k1m1 : Method := { name := "law", desc := "(IIII)Z", sig := { parameters := [.int, .int, .int, .int], returnType := some .boolean }, accessFlags := 9, code := some k1c1 }
def k1c2 : Code := { maxStack := 2, maxLocals := 7, code := method_3_code, exceptionTable := #[], attributes := #[] }
def k1m2 : Method := { name := "cnt", desc := "(IIIIII)I", sig := { parameters := [.int, .int, .int, .int, .int, .int], returnType := some .int }, accessFlags := 10, code := some k1c2 }
def k1c3 : Code := { maxStack := 6, maxLocals := 9, code := method_4_code, exceptionTable := #[], attributes := #[] }
def k1m3 : Method := { name := "sizeOk", desc := "([I[IIIIIII)Z", sig := { parameters := [(.array .int), (.array .int), .int, .int, .int, .int, .int, .int], returnType := some .boolean }, accessFlags := 10, code := some k1c3 }
/-- com/example/edgewarden/edgewarden/graph/LikenessGetClassSizesPinLaw -/
def k1 : Class := { plain "com/example/edgewarden/edgewarden/graph/LikenessGetClassSizesPinLaw" (some 0) with
  accessFlags := 49
  interfaces := #[]
  cf := some (fileOf pool1 24 #[] #[{ accessFlags := 1, nameIndex := 5, descriptorIndex := 6, attributes := #[] }, { accessFlags := 9, nameIndex := 35, descriptorIndex := 36, attributes := #[] }, { accessFlags := 10, nameIndex := 31, descriptorIndex := 32, attributes := #[] }, { accessFlags := 10, nameIndex := 27, descriptorIndex := 28, attributes := #[] }] 49 2 #[] #[])
  fields := #[]
  methods := #[k1m0, k1m1, k1m2, k1m3]
  instanceTypes := #[]
  staticTypes := #[]
  resolved := Array.replicate 42 none
  statics := none }

def pool2 : Array CpInfo := pool [(1, .class_ 2), (0, u "java/lang/Math"), (1, .class_ 6), (1, u "java/lang/Object"), (0, u "<init>"), (0, u "()V"), (89, .class_ 100), (1, u "java/lang/Math$RandomNumberGeneratorHolder"), (71, u "negativeZeroFloatBits"), (0, u "J"), (2, u "negativeZeroDoubleBits"), (21, u "max"), (46, u "$assertionsDisabled"), (0, u "Z"), (88, u "(II)I"), (2, u "twoToTheDoubleScaleDown"), (0, u "D"), (4, u "twoToTheDoubleScaleUp"), (9, u "E"), (3, u "PI"), (2, u "TAU"), (2, u "DEGREES_TO_RADIANS"), (0, u "RADIANS_TO_DEGREES")] 94

def k2m0 : Method := { name := "<init>", desc := "()V", sig := { parameters := [], returnType := none }, accessFlags := 2, code := none }
def k2c1 : Code := { maxStack := 2, maxLocals := 2, code := jdk_29_method_65_code, exceptionTable := #[], attributes := #[] }
def k2m1 : Method := { name := "max", desc := "(II)I", sig := { parameters := [.int, .int], returnType := some .int }, accessFlags := 9, code := some k2c1 }
/-- java/lang/Math -/
def k2 : Class := { plain "java/lang/Math" (some 0) with
  accessFlags := 49
  interfaces := #[]
  cf := some (fileOf pool2 1 #[.nestMembers #[98]] #[{ accessFlags := 2, nameIndex := 7, descriptorIndex := 8, attributes := #[] }, { accessFlags := 9, nameIndex := 198, descriptorIndex := 335, attributes := #[] }] 49 4 #[] #[{ accessFlags := 25, nameIndex := 354, descriptorIndex := 339, attributes := #[] }, { accessFlags := 25, nameIndex := 358, descriptorIndex := 339, attributes := #[] }, { accessFlags := 25, nameIndex := 361, descriptorIndex := 339, attributes := #[] }, { accessFlags := 26, nameIndex := 364, descriptorIndex := 339, attributes := #[] }, { accessFlags := 26, nameIndex := 365, descriptorIndex := 339, attributes := #[] }, { accessFlags := 26, nameIndex := 172, descriptorIndex := 173, attributes := #[] }, { accessFlags := 26, nameIndex := 176, descriptorIndex := 173, attributes := #[] }, { accessFlags := 8, nameIndex := 344, descriptorIndex := 339, attributes := #[] }, { accessFlags := 8, nameIndex := 338, descriptorIndex := 339, attributes := #[] }, { accessFlags := 4120, nameIndex := 245, descriptorIndex := 246, attributes := #[] }])
  fields := #[{ name := "E", type := .double, accessFlags := 25, slot := 0, constantValue := 0 }, { name := "PI", type := .double, accessFlags := 25, slot := 1, constantValue := 0 }, { name := "TAU", type := .double, accessFlags := 25, slot := 2, constantValue := 0 }, { name := "DEGREES_TO_RADIANS", type := .double, accessFlags := 26, slot := 3, constantValue := 0 }, { name := "RADIANS_TO_DEGREES", type := .double, accessFlags := 26, slot := 4, constantValue := 0 }, { name := "negativeZeroFloatBits", type := .long, accessFlags := 26, slot := 5, constantValue := 0 }, { name := "negativeZeroDoubleBits", type := .long, accessFlags := 26, slot := 6, constantValue := 0 }, { name := "twoToTheDoubleScaleUp", type := .double, accessFlags := 8, slot := 7, constantValue := 0 }, { name := "twoToTheDoubleScaleDown", type := .double, accessFlags := 8, slot := 8, constantValue := 0 }, { name := "$assertionsDisabled", type := .boolean, accessFlags := 4120, slot := 9, constantValue := 0 }]
  methods := #[k2m0, k2m1]
  instanceTypes := #[]
  staticTypes := #[.double, .double, .double, .double, .double, .long, .long, .double, .double, .boolean]
  resolved := Array.replicate 460 none
  statics := none }

def pool3 : Array CpInfo := pool [(2, .class_ 4), (1, u "com/example/edgewarden/edgewarden/graph/Likeness"), (36, u "<init>"), (1, .methodref 44 45), (0, .class_ 46), (0, .nameAndType 41 47), (0, u "java/lang/Object"), (0, u "()V"), (42, .fieldref 2 91), (0, .nameAndType 92 93), (0, u "m_aClasses"), (0, u "[I"), (7, u "(II)I"), (3, .class_ 106), (0, u "com/example/edgewarden/edgewarden/graph/Likeness$Places"), (2, u "([I)V"), (13, .fieldref 2 124), (0, .nameAndType 125 126), (0, u "m_nClassCount"), (0, u "I"), (0, .methodref 128 129), (0, .class_ 130), (0, .nameAndType 131 101), (0, u "java/lang/Math"), (0, u "max"), (10, u "getClassSizes"), (0, u "()[I")] 6

def k3c0 : Code := { maxStack := 3, maxLocals := 7, code := prog_57_method_3_code, exceptionTable := #[], attributes := #[] }
def k3m0 : Method := { name := "<init>", desc := "([I)V", sig := { parameters := [(.array .int)], returnType := none }, accessFlags := 0, code := some k3c0 }
def k3c1 : Code := { maxStack := 4, maxLocals := 6, code := prog_57_method_6_code, exceptionTable := #[], attributes := #[] }
def k3m1 : Method := { name := "getClassSizes", desc := "()[I", sig := { parameters := [], returnType := some (.array .int) }, accessFlags := 0, code := some k3c1 }
/-- com/example/edgewarden/edgewarden/graph/Likeness -/
def k3 : Class := { plain "com/example/edgewarden/edgewarden/graph/Likeness" (some 0) with
  accessFlags := 32
  interfaces := #[]
  cf := some (fileOf pool3 2 #[.nestMembers #[105]] #[{ accessFlags := 0, nameIndex := 41, descriptorIndex := 109, attributes := #[] }, { accessFlags := 0, nameIndex := 142, descriptorIndex := 143, attributes := #[] }] 32 44 #[] #[{ accessFlags := 18, nameIndex := 92, descriptorIndex := 93, attributes := #[] }, { accessFlags := 18, nameIndex := 125, descriptorIndex := 126, attributes := #[] }])
  fields := #[{ name := "m_aClasses", type := (.array .int), accessFlags := 18, slot := 0, constantValue := 0 }, { name := "m_nClassCount", type := .int, accessFlags := 18, slot := 1, constantValue := 0 }]
  methods := #[k3m0, k3m1]
  instanceTypes := #[(.array .int), .int]
  staticTypes := #[]
  resolved := Array.replicate 150 none
  statics := none }

def pool4 : Array CpInfo := pool [(1, u "java/lang/Cloneable"), (0, .class_ 1), (0, u "java/lang/Object"), (0, .class_ 3)] 3

/-- java/lang/Cloneable -/
def k4 : Class := { plain "java/lang/Cloneable" (some 0) with
  accessFlags := 1537
  interfaces := #[]
  cf := some (fileOf pool4 2 #[] #[] 1537 4 #[] #[])
  fields := #[]
  methods := #[]
  instanceTypes := #[]
  staticTypes := #[]
  resolved := Array.replicate 8 none
  statics := none }

def pool5 : Array CpInfo := pool [(1, u "java/io/Serializable"), (0, .class_ 1), (0, u "java/lang/Object"), (0, .class_ 3)] 3

/-- java/io/Serializable -/
def k5 : Class := { plain "java/io/Serializable" (some 0) with
  accessFlags := 1537
  interfaces := #[]
  cf := some (fileOf pool5 2 #[] #[] 1537 4 #[] #[])
  fields := #[]
  methods := #[]
  instanceTypes := #[]
  staticTypes := #[]
  resolved := Array.replicate 8 none
  statics := none }

/-- the primitive byte -/
def k6 : Class := { plain "byte" none with kind := .primitive 'B', accessFlags := 0x411 }
/-- [B -/
def k7 : Class := { plain "[B" (some 0) with kind := .array 6 .byte, interfaces := #[4, 5], accessFlags := 1041 }

/-- the primitive int -/
def k8 : Class := { plain "int" none with kind := .primitive 'I', accessFlags := 0x411 }
/-- [I -/
def k9 : Class := { plain "[I" (some 0) with kind := .array 8 .int, interfaces := #[4, 5], accessFlags := 1041 }

def heap : Heap := #[]
def classes : Array Class := #[k0, k1, k2, k3, k4, k5, k6, k7, k8, k9]
def interned : List (Array UInt16 × Addr) := []
def slotsUsed : Nat := 0
def theMethod : MethodId := ⟨1, 1⟩
def args0 : Array Value := #[.int 5, .int 5, .int 5, .int 5]
def aboutOver (below : List Frame) : State where
  vm := { classes := classes, interned := interned.toArray }
  heap := heap
  slotsUsed := slotsUsed
  threads := #[{ frames := .invoking theMethod args0 :: below }]
def below0 : List Frame := [.native { method := ⟨0, 0⟩, args := #[] }]
def about1 : State := aboutOver below0
def p0 : Program := .bare "" "" ""
def e0 : Env := launch0.env 0 0 0
theorem w_frames : about1.frames = Frame.invoking theMethod args0 :: below0 := rfl
set_option maxRecDepth 65536 in
theorem w_args : argsFit about1.vm theMethod args0 = true := by decide +kernel
set_option maxRecDepth 65536 in
theorem w_heap : heapFits about1 = true := by decide +kernel
set_option maxRecDepth 65536 in
theorem w_runnable : about1.curStatus? = some .runnable := by decide +kernel
set_option maxRecDepth 65536 in
theorem w_alone : about1.alone = true := by decide +kernel
set_option maxRecDepth 65536 in
theorem w_named : about1.methodNamed? x = some theMethod := by decide +kernel
set_option maxRecDepth 65536 in
theorem w_hears : about1.hears theMethod below0 = true := by decide +kernel
set_option maxRecDepth 65536 in
theorem w_ripe : about1.ripe theMethod args0 below0 = true := by decide +kernel
theorem w_running : about1.status = .running := rfl
set_option maxRecDepth 65536 in
theorem w_room : about1.hasRoom e0.platform room_1 = true :=
  launch0.hasRoom_least _ room_1 (by decide +kernel) (by decide +kernel) (by decide +kernel) (by decide +kernel) (by decide +kernel) (by decide +kernel)
theorem allAtoms_all (ts : List Jvm.Cond) (a : Array Jvm.Value) (st : Jvm.State) : (allAtoms ts).before a st = ts.all (fun c => c.before a st) := by
  induction ts with
  | nil => rfl
  | cons c t ih =>
    show (Jvm.Cond.and c (allAtoms t)).before a st = _
    rw [Jvm.Cond.before_and, ih, List.all_cons]
def words1 : List Jvm.Cond := Jvm.Cond.code x code maxLocals ret :: tables_1
/-- a 'code' word, met by the world's own term for the bytes: nothing is compared byte by byte -/
theorem code_word {y : MethodName} {bytes : ByteArray} {mx : Nat} {rt : Option FieldType} {a : Array Value} {s : State} {m : MethodId} {meth : Method} {c : Code} (h1 : s.methodNamed? y = some m) (h2 : s.vm.method? m = some meth) (h3 : meth.code = some c) (h4 : c.code = bytes)
    (h5 : (c.maxLocals == mx && c.exceptionTable.isEmpty && decide (c.maxStack ≤ mostOperands) && decide (meth.sig.returnType = rt) && !meth.locks && decide (parseMethodDescriptor y.desc = some meth.sig)) = true) : (Jvm.Cond.code y bytes mx rt).before a s = true := by
  simp only [Bool.and_eq_true, beq_iff_eq, Bool.not_eq_true', decide_eq_true_eq] at h5
  obtain ⟨⟨⟨⟨⟨g1, g2⟩, g3⟩, g4⟩, g5⟩, g6⟩ := h5
  simp [Cond.before, Cond.holds, Cond.value, h1, h2, h3, h4, g1, g2, g3, g4, g5, g6]
def isCode : Jvm.Cond → Bool
  | .code _ _ _ _ => true
  | _ => false
theorem all_split {L : List Jvm.Cond} {P : Jvm.Cond → Bool} (h1 : L.all (fun c => isCode c || P c) = true) (h2 : ∀ c ∈ L.filter isCode, P c = true) : L.all P = true := by
  refine List.all_eq_true.mpr fun c hc => ?_
  have h := List.all_eq_true.mp h1 c hc
  rcases Bool.eq_false_or_eq_true (isCode c) with hi | hi
  · exact h2 c (List.mem_filter.mpr ⟨hc, hi⟩)
  · simpa [hi] using h
set_option maxRecDepth 65536 in
theorem w_c0 : (Jvm.Cond.code x code maxLocals ret).before args0 about1 = true := code_word (m := ⟨1, 1⟩) (meth := k1m1) (c := k1c1) (by decide +kernel) rfl rfl rfl (by decide +kernel)
set_option maxRecDepth 65536 in
theorem w_c1 : (Jvm.Cond.code ({ cls := "java/lang/Math", name := "max", desc := "(II)I" } : Jvm.MethodName) jdk_29_method_65_code (2 : Nat) (Option.some Jvm.ClassFile.FieldType.int)).before args0 about1 = true := code_word (m := ⟨2, 1⟩) (meth := k2m1) (c := k2c1) (by decide +kernel) rfl rfl rfl (by decide +kernel)
set_option maxRecDepth 65536 in
theorem w_c2 : (Jvm.Cond.code ({ cls := "com/example/edgewarden/edgewarden/graph/Likeness", name := "<init>", desc := "([I)V" } : Jvm.MethodName) prog_57_method_3_code (7 : Nat) (Option.none : Option Jvm.ClassFile.FieldType)).before args0 about1 = true := code_word (m := ⟨3, 0⟩) (meth := k3m0) (c := k3c0) (by decide +kernel) rfl rfl rfl (by decide +kernel)
set_option maxRecDepth 65536 in
theorem w_c3 : (Jvm.Cond.code ({ cls := "java/lang/Object", name := "<init>", desc := "()V" } : Jvm.MethodName) object_method_1_code (1 : Nat) (Option.none : Option Jvm.ClassFile.FieldType)).before args0 about1 = true := code_word (m := ⟨0, 0⟩) (meth := k0m0) (c := k0c0) (by decide +kernel) rfl rfl rfl (by decide +kernel)
set_option maxRecDepth 65536 in
theorem w_c4 : (Jvm.Cond.code ({ cls := "com/example/edgewarden/edgewarden/graph/Likeness", name := "getClassSizes", desc := "()[I" } : Jvm.MethodName) prog_57_method_6_code (6 : Nat) (Option.some (Jvm.ClassFile.FieldType.array Jvm.ClassFile.FieldType.int))).before args0 about1 = true := code_word (m := ⟨3, 1⟩) (meth := k3m1) (c := k3c1) (by decide +kernel) rfl rfl rfl (by decide +kernel)
set_option maxRecDepth 65536 in
theorem w_c5 : (Jvm.Cond.code ({ cls := "com/example/edgewarden/edgewarden/graph/LikenessGetClassSizesPinLaw", name := "sizeOk", desc := "([I[IIIIIII)Z" } : Jvm.MethodName) method_4_code (9 : Nat) (Option.some Jvm.ClassFile.FieldType.boolean)).before args0 about1 = true := code_word (m := ⟨1, 3⟩) (meth := k1m3) (c := k1c3) (by decide +kernel) rfl rfl rfl (by decide +kernel)
set_option maxRecDepth 65536 in
theorem w_c6 : (Jvm.Cond.code ({ cls := "com/example/edgewarden/edgewarden/graph/LikenessGetClassSizesPinLaw", name := "cnt", desc := "(IIIIII)I" } : Jvm.MethodName) method_3_code (7 : Nat) (Option.some Jvm.ClassFile.FieldType.int)).before args0 about1 = true := code_word (m := ⟨1, 2⟩) (meth := k1m2) (c := k1c2) (by decide +kernel) rfl rfl rfl (by decide +kernel)
def codes1 : List Jvm.Cond := [Jvm.Cond.code x code maxLocals ret, Jvm.Cond.code ({ cls := "java/lang/Math", name := "max", desc := "(II)I" } : Jvm.MethodName) jdk_29_method_65_code (2 : Nat) (Option.some Jvm.ClassFile.FieldType.int), Jvm.Cond.code ({ cls := "com/example/edgewarden/edgewarden/graph/Likeness", name := "<init>", desc := "([I)V" } : Jvm.MethodName) prog_57_method_3_code (7 : Nat) (Option.none : Option Jvm.ClassFile.FieldType), Jvm.Cond.code ({ cls := "java/lang/Object", name := "<init>", desc := "()V" } : Jvm.MethodName) object_method_1_code (1 : Nat) (Option.none : Option Jvm.ClassFile.FieldType), Jvm.Cond.code ({ cls := "com/example/edgewarden/edgewarden/graph/Likeness", name := "getClassSizes", desc := "()[I" } : Jvm.MethodName) prog_57_method_6_code (6 : Nat) (Option.some (Jvm.ClassFile.FieldType.array Jvm.ClassFile.FieldType.int)), Jvm.Cond.code ({ cls := "com/example/edgewarden/edgewarden/graph/LikenessGetClassSizesPinLaw", name := "sizeOk", desc := "([I[IIIIIII)Z" } : Jvm.MethodName) method_4_code (9 : Nat) (Option.some Jvm.ClassFile.FieldType.boolean), Jvm.Cond.code ({ cls := "com/example/edgewarden/edgewarden/graph/LikenessGetClassSizesPinLaw", name := "cnt", desc := "(IIIIII)I" } : Jvm.MethodName) method_3_code (7 : Nat) (Option.some Jvm.ClassFile.FieldType.int)]
set_option maxRecDepth 65536 in
theorem codes_eq : words1.filter isCode = codes1 := rfl
theorem w_codes : ∀ c ∈ words1.filter isCode, c.before args0 about1 = true := by
  rw [codes_eq]
  intro c hc
  simp only [codes1, List.mem_cons, List.not_mem_nil, or_false] at hc
  rcases hc with rfl | rfl | rfl | rfl | rfl | rfl | rfl
  · exact w_c0
  · exact w_c1
  · exact w_c2
  · exact w_c3
  · exact w_c4
  · exact w_c5
  · exact w_c6
set_option maxRecDepth 65536 in
theorem w_t1 : (words1.take 24).all (fun c => isCode c || c.before args0 about1) = true := by decide +kernel
set_option maxRecDepth 65536 in
theorem w_t2 : (words1.drop 24).all (fun c => isCode c || c.before args0 about1) = true := by decide +kernel
theorem w_tables : (allAtoms (Jvm.Cond.code x code maxLocals ret :: tables_1)).before args0 about1 = true := by
  rw [allAtoms_all]
  show words1.all (fun c => c.before args0 about1) = true
  refine all_split ?_ w_codes
  rw [← List.take_append_drop 24 words1, List.all_append, w_t1, w_t2]
  rfl
set_option maxRecDepth 65536 in
theorem w_case : (Jvm.Cond.and given_1 narrow_1).before args0 about1 = true := by decide +kernel
theorem w_applies : (headSpec (Jvm.Cond.code x code maxLocals ret :: tables_1) room_1).applies x e0.platform about1 = true :=
  (Spec.applies_iff w_frames).mpr ⟨w_running, w_runnable, w_alone, w_named, w_hears, w_ripe, w_room, w_tables⟩
theorem atStart : AtStart classFile x code maxLocals ret World_1 tables_1 room_1 Calls_1 rest_1 Pre_1 launch0 p0 e0 about1 theMethod args0 below0 :=
  ⟨lists_1, trivial, launch0.admits_env _ _ _, launch0.least_env, fairChoices_fair.cas, fairChoices_fair.clock, w_frames, w_args, w_heap, w_applies, trivial, trivial, w_case⟩
end start1
theorem witness_1 : WitnessClaimed_1 := ⟨start1.p0, start1.e0, start1.about1, start1.theMethod, start1.args0, start1.below0, start1.atStart⟩
end Jvm.Pilot.@@N@@
