import JvmDerived
import JvmDerived.Pilot.@@N@@Statement
import JvmDerived.Pilot.@@N@@Code
set_option linter.unusedVariables false
set_option linter.unusedSimpArgs false
namespace Jvm.RoadKit
open Sem ClassFile Op Lib Jvm.Stand Jvm.Free Jvm.LawKit
section Own
variable {p : Program} {l : Launch} {e : Env} {R : Room} {s : State} {m : MethodId} {args : Array Value} {below : List Frame} {meth : Method} {c : Code} {T T' : State} {locs : List Loc} {cells slots : Nat} {g g' : JFrame} {Φ : State → Prop}
/-- from this frame the run comes to a state with Φ -/
def own_G (p : Program) (e : Env) (below : List Frame) (Φ : State → Prop) (T : State) (g : JFrame) : Prop := ∃ t, Steps p.tables e below (T.setTop g) t ∧ Φ t
/-- what the end of a method with the answer Q is -/
def own_E (s : State) (below : List Frame) (Q : Option Value → Heap → List Loc → Prop) (k n : Nat) (t : State) : Prop := ∃ o, t.status = .running ∧ Ended t below o ∧ ∃ v L, o = .returned v ∧ Q v t.heap L ∧ FrameEnd s o t L k n
def own_Al (_ : Stand p l e R s m args below meth c T locs cells slots) (T' : State) : Prop := Stand p l e R s m args below meth c T' locs cells slots
theorem own_go (h : ∀ t, Steps p.tables e below (T'.setTop g') t → Steps p.tables e below (T.setTop g) t) (k : own_G p e below Φ T' g') : own_G p e below Φ T g := by
  obtain ⟨t, a, b⟩ := k
  exact ⟨t, h t a, b⟩
theorem own_on (h : Steps p.tables e below (T.setTop g) (T'.setTop g')) (k : own_G p e below Φ T' g') : own_G p e below Φ T g := by
  obtain ⟨t, a, b⟩ := k
  exact ⟨t, h.trans a, b⟩
theorem own_ret (X : Stand p l e R s m args below meth c T locs cells slots) {Q : Option Value → Heap → List Loc → Prop} {k n : Nat} {v : Option Value} (hv : meth.sig.returnType = none → v = none) (hlocks : meth.locks = false)
    (hst : ∀ fs, (∀ (f : JFrame) (acts : List Action), f.method = m → f.locked = none → f.entered = [] → (doReturn e (T.setTop f) acts v).1 = T.setFrames fs) → Steps p.tables e below (T.setTop g) (T.setFrames fs))
    (hq : Q v T.heap locs) (hc : cells ≤ k) (hn : slots ≤ n) : own_G p e below (own_E s below Q k n) T g := by
  obtain ⟨fs, hr, hrun, hended, hW, hsame⟩ := X.leave hv hlocks
  exact ⟨_, hst fs hr, _, hrun, hended, _, _, rfl, hq, ⟨_, rfl⟩, hW, hsame.mono hc hn⟩
def own_EW (s : State) (below : List Frame) (Q : Option Value → Heap → List Loc → Prop) (k n : Nat) (t : State) : Prop := ∃ o, t.status = .running ∧ Ended t below o ∧ ∃ v L, o = .returned v ∧ Q v t.heap L ∧ ReturnedEndW s o t L k n
theorem own_retW {vm₁ : Vm} (X : Stand p l e R (s.setVm vm₁) m args below meth c T locs cells slots) {q : Nat} (hS : s.Since vm₁ q) (hq' : q ≤ T.heap.size) {Q : Option Value → Heap → List Loc → Prop} {k n : Nat} {v : Option Value} (hv : meth.sig.returnType = none → v = none) (hlocks : meth.locks = false)
    (hst : ∀ fs, (∀ (f : JFrame) (acts : List Action), f.method = m → f.locked = none → f.entered = [] → (doReturn e (T.setTop f) acts v).1 = T.setFrames fs) → Steps p.tables e below (T.setTop g) (T.setFrames fs))
    (hq : Q v T.heap locs) (hc : cells ≤ k) (hn : slots ≤ n) : own_G p e below (own_EW s below Q k n) T g := by
  obtain ⟨fs, hr, hrun, hended, h1, h2, h3, h4⟩ := X.leaveW hS hq' hv hlocks
  exact ⟨_, hst fs hr, _, hrun, hended, _, _, rfl, hq, h1, h2, h3, h4.mono hc hn⟩
theorem own_lrem_eq (x y : Int64) : x - (x / y) * y = x % y := by
  apply Int64.toInt_inj.mp
  have r := rng64 (x % y)
  have hm : (x % y).toInt = x.toInt - y.toInt * x.toInt.tdiv y.toInt := by rw [Int64.toInt_mod, Int.tmod_def]
  have hs : (x - x / y * y).toInt = (x.toInt - y.toInt * x.toInt.tdiv y.toInt).bmod (2 ^ 64) := by
    rw [Int64.toInt_sub, Int64.toInt_mul, Int64.toInt_div, Int.bmod_mul_bmod, Int.sub_bmod_bmod, Int.mul_comm]
  rw [hs, ← hm]
  exact Int.bmod_eq_of_le (by omega) (by omega)
theorem own_lremM {target : State} (X : Stand p l e R s m args below meth c T locs cells slots) (hx : p.tables.exec = Jvm.exec) (hg : g.method = m) {x y : Int64} {rest : List Value} (hd : decode c.code g.pc = .ok (.lrem, 1)) (hs : g.stack = .long y :: .long x :: rest) (hy : y ≠ 0)
    (hr : Steps p.tables e below (T.setTop { g with pc := g.pc + 1, stack := .long (x % y) :: rest }) target) : Steps p.tables e below (T.setTop g) target :=
  XS.lrem X.here hx hg hd hs hy (by rw [own_lrem_eq]; exact hr)
theorem own_nar {v : Value} {t : FieldType} (h : v.isRef = true) : narrow t v = v := by
  rcases ref_cases h with rfl | ⟨a, rfl⟩ <;> cases t <;> rfl
end Own
end Jvm.RoadKit
namespace Jvm.Pilot.@@N@@
open Jvm Jvm.ClassFile Sem Op Lib Jvm.Free Jvm.Stand Jvm.LawKit Jvm.RoadKit Bundle Jvm.Pilot.@@N@@.Jvm.D

def own_abs (q : Int64) : Int64 := if q < 0 then -q else q
def own_sq (a b c d : Int64) : Int64 := ((a - c) * (a - c)) + ((b - d) * (b - d))
theorem own_abs_le {x : Int64} (h : -1000000000 ≤ x.toInt ∧ x.toInt ≤ 1000000000) : ¬ ((1000000000 : Int64) < own_abs x) := by
  have hc : (1000000000 : Int64).toInt = 1000000000 := by decide
  have h0 : (0 : Int64).toInt = 0 := by decide
  unfold own_abs
  rw [Int64.lt_iff_toInt_lt, hc]
  split
  · have q := Int64.toInt_neg x
    rw [q, Int.bmod_eq_of_le (by omega) (by omega)]
    omega
  · omega
theorem own_rem (a : Int64) : -1000000000 ≤ (a % (1000000001 : Int64)).toInt ∧ (a % (1000000001 : Int64)).toInt ≤ 1000000000 := by
  have hc : (1000000001 : Int64).toInt = 1000000001 := by decide
  rw [Int64.toInt_mod, hc]
  have h1 := Int.tmod_lt_of_pos a.toInt (b := 1000000001) (by decide)
  have h2 := Int.lt_tmod_of_pos a.toInt (b := 1000000001) (by decide)
  omega
theorem own_ok {a x : Int64} (h : a % (1000000001 : Int64) = x) : ¬ ((1000000000 : Int64) < own_abs x) := by
  rw [← h]
  exact own_abs_le (own_rem a)
theorem own_ring (a b c d : Int64) : own_sq a b c d = (((a * a) + (c * c)) - (((2 : Int64) * a) * c)) + (((b * b) + (d * d)) - (((2 : Int64) * b) * d)) := by
  unfold own_sq
  grind
theorem own_ring' (a b c d : Int64) : own_sq c d a b = (((a * a) + (c * c)) - (((2 : Int64) * a) * c)) + (((b * b) + (d * d)) - (((2 : Int64) * b) * d)) := by
  unfold own_sq
  grind

theorem d4_0 : decode jdk_29_method_61_code 0 = .ok (.lload_n 0, 1) := by decide +kernel
theorem d4_1 : decode jdk_29_method_61_code 1 = .ok (.lconst 0, 1) := by decide +kernel
theorem d4_2 : decode jdk_29_method_61_code 2 = .ok (.lcmp, 1) := by decide +kernel
theorem d4_3 : decode jdk_29_method_61_code 3 = .ok (.ifCond .ge 8, 3) := by decide +kernel
theorem d4_6 : decode jdk_29_method_61_code 6 = .ok (.lload_n 0, 1) := by decide +kernel
theorem d4_7 : decode jdk_29_method_61_code 7 = .ok (.lneg, 1) := by decide +kernel
theorem d4_8 : decode jdk_29_method_61_code 8 = .ok (.goto 4, 3) := by decide +kernel
theorem d4_12 : decode jdk_29_method_61_code 12 = .ok (.lreturn, 1) := by decide +kernel
theorem d4_11 : decode jdk_29_method_61_code 11 = .ok (.lload_n 0, 1) := by decide +kernel
theorem ef_rm4 (m : MethodId) (q1 : Int64) : entryFrame m #[(.long q1)] 2 = mkF m 0 #[.val (.long q1), .second] [] := by first | (simp [entryFrame, mkF, argsToLocals, Value.category]; done) | rfl
def Q_rm4 (Z : State) (q1 : Int64) (h0 : Heap) (n0 : Nat) (v : Option Value) (h : Heap) (L : List Loc) : Prop := v = some (.long (own_abs q1)) ∧ Fr n0 L ∧ h = h0
set_option maxRecDepth 65536 in
set_option maxHeartbeats 40000000 in
theorem rm4 (l : Launch) (Z : State) (a0 : Array Value) (hw : ∀ d ∈ tables_1, d.before a0 Z = true) (ws : List Jvm.Cond) (q1 : Int64) (h0 : Heap) (n0 : Nat) (Z0 : n0 ≤ h0.size)  :
    MetFree l (⟨"java/lang/Math", "abs", "(J)J"⟩ : MethodName) (head1 (Jvm.Cond.code (⟨"java/lang/Math", "abs", "(J)J"⟩ : MethodName) jdk_29_method_61_code 2 (some .long) :: ws) ({ frames := 0, cells := 0, slots := 0, locals := 0 } : Room)) (fun a U => a = #[(.long q1)] ∧ Z.Warmed39 U.vm ∧ U.heap = h0) (fun _ _ _ _ _ => True) (fun _ U o U' => ∃ v L, o = .returned v ∧ Q_rm4 Z q1 h0 n0 v U'.heap L ∧ FrameEnd U o U' L ({ frames := 0, cells := 0, slots := 0, locals := 0 } : Room).cells ({ frames := 0, cells := 0, slots := 0, locals := 0 } : Room).slots) := by
  refine MetFree.of_bodySF (Jvm.Free.JP.mathPlain rfl (by decide +kernel)) hisR ?_
  intro p e s m args below meth c s₁ Bd hml0 hP hK
  obtain ⟨rfl, hZ, hh⟩ := hP
  have hx := Bd.exec
  have hby := Bd.bytes
  have hml : c.maxLocals = 2 := hml0
  have hown : s.vm.findClass "java/lang/Math" = some m.cls := findClass_of_methodNamed Bd.named
  have hnm := (name_of_methodNamed Bd.named Bd.method).1
  have X0 : Stand p l e ({ frames := 0, cells := 0, slots := 0, locals := 0 } : Room) s m #[(.long q1)] below meth c s₁ [] 0 0 := Stand.of_body Bd
  have e0 : s₁.heap = h0 := by rw [← hh, Bd.state]; rfl
  have N0 := Fr.nil n0
  suffices G0 : own_G p e below (own_E s below (Q_rm4 Z q1 h0 n0) ({ frames := 0, cells := 0, slots := 0, locals := 0 } : Room).cells ({ frames := 0, cells := 0, slots := 0, locals := 0 } : Room).slots) s₁ (mkF m 0 #[.val (.long q1), .second] []) by
    obtain ⟨zt, zst, zo, zq1, zq2, zq3⟩ := G0
    exact ⟨zt, zo, castTop (ef_rm4 m q1) zst, zq1, zq2, zq3⟩
  obtain ⟨Φ, hΦ⟩ : ∃ Φ, Φ = own_E s below (Q_rm4 Z q1 h0 n0) ({ frames := 0, cells := 0, slots := 0, locals := 0 } : Room).cells ({ frames := 0, cells := 0, slots := 0, locals := 0 } : Room).slots := ⟨_, rfl⟩
  rw [← hΦ]
  show own_G p e below Φ s₁ (mkF m 0 #[.val (.long q1), .second] [])
  refine own_go (fun _ => XS.lloadN X0.here hx rfl (hb hby d4_0) rfl) ?_
  show own_G p e below Φ s₁ (mkF m 1 #[.val (.long q1), .second] [(.long q1)])
  refine own_go (fun _ => XS.lconst X0.here hx rfl (hb hby d4_1)) ?_
  show own_G p e below Φ s₁ (mkF m 2 #[.val (.long q1), .second] [(.long (0 : Int64)), (.long q1)])
  refine own_go (fun _ => XS.lcmp X0.here hx rfl (hb hby d4_2) rfl) ?_
  show own_G p e below Φ s₁ (mkF m 3 #[.val (.long q1), .second] [(.int (lcmpW q1 (0 : Int64)))])
  by_cases hc3 : q1 < (0 : Int64)
  · refine own_go (fun _ => XS.ifNo X0.here hx rfl (hb hby d4_3) rfl (Jvm.Free.XT.ll_ge_f hc3)) ?_
    show own_G p e below Φ s₁ (mkF m 6 #[.val (.long q1), .second] [])
    refine own_go (fun _ => XS.lloadN X0.here hx rfl (hb hby d4_6) rfl) ?_
    show own_G p e below Φ s₁ (mkF m 7 #[.val (.long q1), .second] [(.long q1)])
    refine own_go (fun _ => XS.lneg X0.here hx rfl (hb hby d4_7) rfl) ?_
    show own_G p e below Φ s₁ (mkF m 8 #[.val (.long q1), .second] [(.long ((-q1)))])
    refine own_go (fun _ => XS.goto X0.here hx rfl (pc0 := 8) (pc' := 12) rfl (hb hby d4_8) (by decide) (by decide)) ?_
    show own_G p e below Φ s₁ (mkF m 12 #[.val (.long q1), .second] [(.long ((-q1)))])
    rw [hΦ]
    refine own_ret X0 (v := some (.long ((-q1)))) (fun h => by rw [Bd.returns] at h; cases h) (BodyLoose.notSynchronized Bd) (fun fs hr => retOut X0 hx Bd.returns rfl (Or.inr (Or.inl ⟨rfl, rfl, _, rfl⟩)) (hb hby d4_12) hr) ?_ (by decide) (by decide)
    rw [e0]
    exact ⟨(by simp [own_abs, hc3]), N0, rfl⟩
  · refine own_go (fun _ => XS.ifYes X0.here hx rfl (pc0 := 3) (pc' := 11) rfl (hb hby d4_3) rfl (Jvm.Free.XT.ll_ge_t hc3) (by decide) (by decide)) ?_
    show own_G p e below Φ s₁ (mkF m 11 #[.val (.long q1), .second] [])
    refine own_go (fun _ => XS.lloadN X0.here hx rfl (hb hby d4_11) rfl) ?_
    show own_G p e below Φ s₁ (mkF m 12 #[.val (.long q1), .second] [(.long q1)])
    rw [hΦ]
    refine own_ret X0 (v := some (.long q1)) (fun h => by rw [Bd.returns] at h; cases h) (BodyLoose.notSynchronized Bd) (fun fs hr => retOut X0 hx Bd.returns rfl (Or.inr (Or.inl ⟨rfl, rfl, _, rfl⟩)) (hb hby d4_12) hr) ?_ (by decide) (by decide)
    rw [e0]
    exact ⟨(by simp [own_abs, hc3]), N0, rfl⟩
theorem d2_0 : decode jdk_30_method_1_code 0 = .ok (.aload_n 0, 1) := by decide +kernel
theorem d2_1 : decode jdk_30_method_1_code 1 = .ok (.invokespecial 1, 3) := by decide +kernel
theorem wd_12 {Z : State} {a0 : Array Value} (hw : ∀ d ∈ tables_1, d.before a0 Z = true) : ((Jvm.Cond.methodLink "java/lang/Record" (1 : Nat) ({ cls := "java/lang/Object", name := "<init>", desc := "()V" } : Jvm.MethodName)) : Jvm.Cond).before a0 Z = true := hw _ (List.mem_of_getElem? (i := 12) rfl)
theorem wd_13 {Z : State} {a0 : Array Value} (hw : ∀ d ∈ tables_1, d.before a0 Z = true) : ((Jvm.Cond.instanceMethod ({ cls := "java/lang/Object", name := "<init>", desc := "()V" } : Jvm.MethodName)) : Jvm.Cond).before a0 Z = true := hw _ (List.mem_of_getElem? (i := 13) rfl)
theorem wd_14 {Z : State} {a0 : Array Value} (hw : ∀ d ∈ tables_1, d.before a0 Z = true) : ((Jvm.Cond.code ({ cls := "java/lang/Object", name := "<init>", desc := "()V" } : Jvm.MethodName) object_method_1_code (1 : Nat) (Option.none : Option Jvm.ClassFile.FieldType)) : Jvm.Cond).before a0 Z = true := hw _ (List.mem_of_getElem? (i := 14) rfl)
theorem d2_4 : decode jdk_30_method_1_code 4 = .ok (.return_, 1) := by decide +kernel
theorem pn_0 : plainName "java/lang/Record" = true := by first | (simp [plainName, overriddenIn]; done) | decide +kernel
theorem ef_rm2 (m : MethodId) (a1 : Addr) : entryFrame m #[(.ref a1)] 1 = mkF m 0 #[.val (.ref a1)] [] := by first | (simp [entryFrame, mkF, argsToLocals, Value.category]; done) | rfl
def Q_rm2 (Z : State) (a1 : Addr) (h0 : Heap) (n0 : Nat) (v : Option Value) (h : Heap) (L : List Loc) : Prop := v = none ∧ Fr n0 L ∧ h = h0
set_option maxRecDepth 65536 in
set_option maxHeartbeats 40000000 in
theorem rm2 (l : Launch) (Z : State) (a0 : Array Value) (hw : ∀ d ∈ tables_1, d.before a0 Z = true) (ws : List Jvm.Cond) (a1 : Addr) (h0 : Heap) (n0 : Nat) (Z0 : n0 ≤ h0.size)  :
    MetFree l (⟨"java/lang/Record", "<init>", "()V"⟩ : MethodName) (head1 (Jvm.Cond.code (⟨"java/lang/Record", "<init>", "()V"⟩ : MethodName) jdk_30_method_1_code 1 none :: ws) ({ frames := 1, cells := 0, slots := 0, locals := 12 } : Room)) (fun a U => a = #[(.ref a1)] ∧ Z.Warmed39 U.vm ∧ U.heap = h0) (fun _ _ _ _ _ => True) (fun _ U o U' => ∃ v L, o = .returned v ∧ Q_rm2 Z a1 h0 n0 v U'.heap L ∧ FrameEnd U o U' L ({ frames := 1, cells := 0, slots := 0, locals := 12 } : Room).cells ({ frames := 1, cells := 0, slots := 0, locals := 12 } : Room).slots) := by
  refine MetFree.of_bodySF (plainFor_of_name pn_0) hisR ?_
  intro p e s m args below meth c s₁ Bd hml0 hP hK
  obtain ⟨rfl, hZ, hh⟩ := hP
  have hx := Bd.exec
  have hby := Bd.bytes
  have hml : c.maxLocals = 1 := hml0
  have hown : s.vm.findClass "java/lang/Record" = some m.cls := findClass_of_methodNamed Bd.named
  have hnm := (name_of_methodNamed Bd.named Bd.method).1
  have X0 : Stand p l e ({ frames := 1, cells := 0, slots := 0, locals := 12 } : Room) s m #[(.ref a1)] below meth c s₁ [] 0 0 := Stand.of_body Bd
  have e0 : s₁.heap = h0 := by rw [← hh, Bd.state]; rfl
  have N0 := Fr.nil n0
  suffices G0 : own_G p e below (own_E s below (Q_rm2 Z a1 h0 n0) ({ frames := 1, cells := 0, slots := 0, locals := 12 } : Room).cells ({ frames := 1, cells := 0, slots := 0, locals := 12 } : Room).slots) s₁ (mkF m 0 #[.val (.ref a1)] []) by
    obtain ⟨zt, zst, zo, zq1, zq2, zq3⟩ := G0
    exact ⟨zt, zo, castTop (ef_rm2 m a1) zst, zq1, zq2, zq3⟩
  obtain ⟨Φ, hΦ⟩ : ∃ Φ, Φ = own_E s below (Q_rm2 Z a1 h0 n0) ({ frames := 1, cells := 0, slots := 0, locals := 12 } : Room).cells ({ frames := 1, cells := 0, slots := 0, locals := 12 } : Room).slots := ⟨_, rfl⟩
  rw [← hΦ]
  show own_G p e below Φ s₁ (mkF m 0 #[.val (.ref a1)] [])
  refine own_go (fun _ => XS.aloadN X0.here hx rfl (hb hby d2_0) rfl rfl) ?_
  show own_G p e below Φ s₁ (mkF m 1 #[.val (.ref a1)] [(.ref a1)])
  obtain ⟨T1, X1, e1, st1⟩ := initO X0 hx hZ hown (wd_12 hw) (wd_13 hw) (wd_14 hw) e0 (g := (mkF m 1 #[.val (.ref a1)] [(.ref a1)])) rfl (by rw [hml]; rfl) rfl (hb hby d2_1) (by decide) (W := 0) (by show 2 * 0 + _ ≤ _; exact Nat.le_of_eq rfl) (by decide)
  refine own_go st1 ?_
  show own_G p e below Φ T1 (mkF m 4 #[.val (.ref a1)] [])
  rw [hΦ]
  refine own_ret X1 (v := none) (fun _ => rfl) (BodyLoose.notSynchronized Bd) (fun fs hr => X1.returnOut hx Bd.returns (hb hby d2_4) hr) ?_ (by decide) (by decide)
  rw [e1]
  exact ⟨rfl, N0, rfl⟩
theorem d1_0 : decode prog_20_method_1_code 0 = .ok (.aload_n 0, 1) := by decide +kernel
theorem d1_1 : decode prog_20_method_1_code 1 = .ok (.invokespecial 3, 3) := by decide +kernel
theorem wd_7 {Z : State} {a0 : Array Value} (hw : ∀ d ∈ tables_1, d.before a0 Z = true) : ((Jvm.Cond.methodLink "com/example/fairhail/fairhail/core/Point" (3 : Nat) ({ cls := "java/lang/Record", name := "<init>", desc := "()V" } : Jvm.MethodName)) : Jvm.Cond).before a0 Z = true := hw _ (List.mem_of_getElem? (i := 7) rfl)
theorem wd_11 {Z : State} {a0 : Array Value} (hw : ∀ d ∈ tables_1, d.before a0 Z = true) : ((Jvm.Cond.code ({ cls := "java/lang/Record", name := "<init>", desc := "()V" } : Jvm.MethodName) jdk_30_method_1_code (1 : Nat) (Option.none : Option Jvm.ClassFile.FieldType)) : Jvm.Cond).before a0 Z = true := hw _ (List.mem_of_getElem? (i := 11) rfl)
theorem wd_10 {Z : State} {a0 : Array Value} (hw : ∀ d ∈ tables_1, d.before a0 Z = true) : ((Jvm.Cond.initialized "java/lang/Record") : Jvm.Cond).before a0 Z = true := hw _ (List.mem_of_getElem? (i := 10) rfl)
theorem pd_0 : parseMethodDescriptor "()V" = some ⟨[], none⟩ := by decide +kernel
theorem wd_8 {Z : State} {a0 : Array Value} (hw : ∀ d ∈ tables_1, d.before a0 Z = true) : ((Jvm.Cond.instanceMethod ({ cls := "java/lang/Record", name := "<init>", desc := "()V" } : Jvm.MethodName)) : Jvm.Cond).before a0 Z = true := hw _ (List.mem_of_getElem? (i := 8) rfl)
theorem d1_4 : decode prog_20_method_1_code 4 = .ok (.lload_n 1, 1) := by decide +kernel
theorem d1_5 : decode prog_20_method_1_code 5 = .ok (.invokestatic 9, 3) := by decide +kernel
theorem wd_15 {Z : State} {a0 : Array Value} (hw : ∀ d ∈ tables_1, d.before a0 Z = true) : ((Jvm.Cond.methodLink "com/example/fairhail/fairhail/core/Point" (9 : Nat) ({ cls := "java/lang/Math", name := "abs", desc := "(J)J" } : Jvm.MethodName)) : Jvm.Cond).before a0 Z = true := hw _ (List.mem_of_getElem? (i := 15) rfl)
theorem wd_18 {Z : State} {a0 : Array Value} (hw : ∀ d ∈ tables_1, d.before a0 Z = true) : ((Jvm.Cond.code ({ cls := "java/lang/Math", name := "abs", desc := "(J)J" } : Jvm.MethodName) jdk_29_method_61_code (2 : Nat) (Option.some Jvm.ClassFile.FieldType.long)) : Jvm.Cond).before a0 Z = true := hw _ (List.mem_of_getElem? (i := 18) rfl)
theorem wd_17 {Z : State} {a0 : Array Value} (hw : ∀ d ∈ tables_1, d.before a0 Z = true) : ((Jvm.Cond.initialized "java/lang/Math") : Jvm.Cond).before a0 Z = true := hw _ (List.mem_of_getElem? (i := 17) rfl)
theorem pd_1 : parseMethodDescriptor "(J)J" = some ⟨[.long], some .long⟩ := by decide +kernel
theorem wd_16 {Z : State} {a0 : Array Value} (hw : ∀ d ∈ tables_1, d.before a0 Z = true) : ((Jvm.Cond.static ({ cls := "java/lang/Math", name := "abs", desc := "(J)J" } : Jvm.MethodName)) : Jvm.Cond).before a0 Z = true := hw _ (List.mem_of_getElem? (i := 16) rfl)
theorem d1_8 : decode prog_20_method_1_code 8 = .ok (.ldc2_w 15, 3) := by decide +kernel
theorem wd_19 {Z : State} {a0 : Array Value} (hw : ∀ d ∈ tables_1, d.before a0 Z = true) : ((Jvm.Cond.constantLong "com/example/fairhail/fairhail/core/Point" (15 : Nat) (1000000000 : Int64)) : Jvm.Cond).before a0 Z = true := hw _ (List.mem_of_getElem? (i := 19) rfl)
theorem d1_11 : decode prog_20_method_1_code 11 = .ok (.lcmp, 1) := by decide +kernel
theorem d1_12 : decode prog_20_method_1_code 12 = .ok (.ifCond .gt 14, 3) := by decide +kernel
theorem d1_15 : decode prog_20_method_1_code 15 = .ok (.lload_n 3, 1) := by decide +kernel
theorem d1_16 : decode prog_20_method_1_code 16 = .ok (.invokestatic 9, 3) := by decide +kernel
theorem d1_19 : decode prog_20_method_1_code 19 = .ok (.ldc2_w 15, 3) := by decide +kernel
theorem d1_22 : decode prog_20_method_1_code 22 = .ok (.lcmp, 1) := by decide +kernel
theorem d1_23 : decode prog_20_method_1_code 23 = .ok (.ifCond .le 18, 3) := by decide +kernel
theorem d1_41 : decode prog_20_method_1_code 41 = .ok (.aload_n 0, 1) := by decide +kernel
theorem d1_42 : decode prog_20_method_1_code 42 = .ok (.lload_n 1, 1) := by decide +kernel
theorem d1_43 : decode prog_20_method_1_code 43 = .ok (.putfield 26, 3) := by decide +kernel
theorem wd_20 {Z : State} {a0 : Array Value} (hw : ∀ d ∈ tables_1, d.before a0 Z = true) : ((Jvm.Cond.fieldLink "com/example/fairhail/fairhail/core/Point" (26 : Nat) "com/example/fairhail/fairhail/core/Point" "x" "J") : Jvm.Cond).before a0 Z = true := hw _ (List.mem_of_getElem? (i := 20) rfl)
theorem wd_21 {Z : State} {a0 : Array Value} (hw : ∀ d ∈ tables_1, d.before a0 Z = true) : ((Jvm.Cond.laysFinal "com/example/fairhail/fairhail/core/Point" "com/example/fairhail/fairhail/core/Point" "x" "J") : Jvm.Cond).before a0 Z = true := hw _ (List.mem_of_getElem? (i := 21) rfl)
theorem wd_2 {Z : State} {a0 : Array Value} (hw : ∀ d ∈ tables_1, d.before a0 Z = true) : ((Jvm.Cond.instantiable "com/example/fairhail/fairhail/core/Point" (2 : Nat)) : Jvm.Cond).before a0 Z = true := hw _ (List.mem_of_getElem? (i := 2) rfl)
theorem d1_46 : decode prog_20_method_1_code 46 = .ok (.aload_n 0, 1) := by decide +kernel
theorem d1_47 : decode prog_20_method_1_code 47 = .ok (.lload_n 3, 1) := by decide +kernel
theorem d1_48 : decode prog_20_method_1_code 48 = .ok (.putfield 30, 3) := by decide +kernel
theorem wd_22 {Z : State} {a0 : Array Value} (hw : ∀ d ∈ tables_1, d.before a0 Z = true) : ((Jvm.Cond.fieldLink "com/example/fairhail/fairhail/core/Point" (30 : Nat) "com/example/fairhail/fairhail/core/Point" "y" "J") : Jvm.Cond).before a0 Z = true := hw _ (List.mem_of_getElem? (i := 22) rfl)
theorem wd_23 {Z : State} {a0 : Array Value} (hw : ∀ d ∈ tables_1, d.before a0 Z = true) : ((Jvm.Cond.laysFinal "com/example/fairhail/fairhail/core/Point" "com/example/fairhail/fairhail/core/Point" "y" "J") : Jvm.Cond).before a0 Z = true := hw _ (List.mem_of_getElem? (i := 23) rfl)
theorem sl_0 {Z : State} {a0 : Array Value} (hw : ∀ d ∈ tables_1, d.before a0 Z = true) : Jvm.RoadKit.slotOf Z "com/example/fairhail/fairhail/core/Point" "y" "J" ≠ Jvm.RoadKit.slotOf Z "com/example/fairhail/fairhail/core/Point" "x" "J" := slot_ne (C := "com/example/fairhail/fairhail/core/Point") (Or.inr (wd_23 hw)) (Or.inr (wd_21 hw)) (by decide) (t := .long) (t' := .long) (by decide) (by decide)
theorem d1_51 : decode prog_20_method_1_code 51 = .ok (.return_, 1) := by decide +kernel
theorem sl_1 {Z : State} {a0 : Array Value} (hw : ∀ d ∈ tables_1, d.before a0 Z = true) : Jvm.RoadKit.slotOf Z "com/example/fairhail/fairhail/core/Point" "x" "J" ≠ Jvm.RoadKit.slotOf Z "com/example/fairhail/fairhail/core/Point" "y" "J" := slot_ne (C := "com/example/fairhail/fairhail/core/Point") (Or.inr (wd_21 hw)) (Or.inr (wd_23 hw)) (by decide) (t := .long) (t' := .long) (by decide) (by decide)
theorem pn_1 : plainName "com/example/fairhail/fairhail/core/Point" = true := by first | (simp [plainName, overriddenIn]; done) | decide +kernel
theorem ef_rm1 (m : MethodId) (a1 : Addr) (q0 : Int64) (q1 : Int64) : entryFrame m #[(.ref a1), (.long q0), (.long q1)] 5 = mkF m 0 #[.val (.ref a1), .val (.long q0), .second, .val (.long q1), .second] [] := by first | (simp [entryFrame, mkF, argsToLocals, Value.category]; done) | rfl
def Q_rm1 (Z : State) (a1 : Addr) (q0 : Int64) (q1 : Int64) (u0 : Value) (u1 : Value) (h0 : Heap) (n0 : Nat) (v : Option Value) (h : Heap) (L : List Loc) : Prop := v = none ∧ Fr n0 L ∧ Keep h0 h [a1] ∧ Exa Z h a1 "com/example/fairhail/fairhail/core/Point" ∧ Fld Z h a1 "com/example/fairhail/fairhail/core/Point" "x" "J" (.long q0) ∧ Fld Z h a1 "com/example/fairhail/fairhail/core/Point" "y" "J" (.long q1)
set_option maxRecDepth 65536 in
set_option maxHeartbeats 40000000 in
theorem rm1 (l : Launch) (Z : State) (a0 : Array Value) (hw : ∀ d ∈ tables_1, d.before a0 Z = true) (ws : List Jvm.Cond) (a1 : Addr) (q0 : Int64) (q1 : Int64) (u0 : Value) (u1 : Value) (h0 : Heap) (n0 : Nat) (Z0 : n0 ≤ h0.size) (E_a1 : Exa Z h0 a1 "com/example/fairhail/fairhail/core/Point") (F_x_a1 : Fld Z h0 a1 "com/example/fairhail/fairhail/core/Point" "x" "J" u0) (F_y_a1 : Fld Z h0 a1 "com/example/fairhail/fairhail/core/Point" "y" "J" u1) (g_a1 : n0 ≤ a1) (hq0 : ¬ ((1000000000 : Int64) < own_abs q0)) (hq1 : ¬ ((1000000000 : Int64) < own_abs q1)) :
    MetFree l (⟨"com/example/fairhail/fairhail/core/Point", "<init>", "(JJ)V"⟩ : MethodName) (head1 (Jvm.Cond.code (⟨"com/example/fairhail/fairhail/core/Point", "<init>", "(JJ)V"⟩ : MethodName) prog_20_method_1_code 5 none :: ws) ({ frames := 2, cells := 0, slots := 0, locals := 24 } : Room)) (fun a U => a = #[(.ref a1), (.long q0), (.long q1)] ∧ Z.Warmed39 U.vm ∧ U.heap = h0) (fun _ _ _ _ _ => True) (fun _ U o U' => ∃ v L, o = .returned v ∧ Q_rm1 Z a1 q0 q1 u0 u1 h0 n0 v U'.heap L ∧ FrameEnd U o U' L ({ frames := 2, cells := 0, slots := 0, locals := 24 } : Room).cells ({ frames := 2, cells := 0, slots := 0, locals := 24 } : Room).slots) := by
  refine MetFree.of_bodySF (plainFor_of_name pn_1) hisR ?_
  intro p e s m args below meth c s₁ Bd hml0 hP hK
  obtain ⟨rfl, hZ, hh⟩ := hP
  have hx := Bd.exec
  have hby := Bd.bytes
  have hml : c.maxLocals = 5 := hml0
  have hown : s.vm.findClass "com/example/fairhail/fairhail/core/Point" = some m.cls := findClass_of_methodNamed Bd.named
  have hnm := (name_of_methodNamed Bd.named Bd.method).1
  have X0 : Stand p l e ({ frames := 2, cells := 0, slots := 0, locals := 24 } : Room) s m #[(.ref a1), (.long q0), (.long q1)] below meth c s₁ [] 0 0 := Stand.of_body Bd
  have e0 : s₁.heap = h0 := by rw [← hh, Bd.state]; rfl
  have N0 := Fr.nil n0
  have K0 : Keep h0 h0 [a1] := Keep.refl _ _
  suffices G0 : own_G p e below (own_E s below (Q_rm1 Z a1 q0 q1 u0 u1 h0 n0) ({ frames := 2, cells := 0, slots := 0, locals := 24 } : Room).cells ({ frames := 2, cells := 0, slots := 0, locals := 24 } : Room).slots) s₁ (mkF m 0 #[.val (.ref a1), .val (.long q0), .second, .val (.long q1), .second] []) by
    obtain ⟨zt, zst, zo, zq1, zq2, zq3⟩ := G0
    exact ⟨zt, zo, castTop (ef_rm1 m a1 q0 q1) zst, zq1, zq2, zq3⟩
  obtain ⟨Φ, hΦ⟩ : ∃ Φ, Φ = own_E s below (Q_rm1 Z a1 q0 q1 u0 u1 h0 n0) ({ frames := 2, cells := 0, slots := 0, locals := 24 } : Room).cells ({ frames := 2, cells := 0, slots := 0, locals := 24 } : Room).slots := ⟨_, rfl⟩
  rw [← hΦ]
  show own_G p e below Φ s₁ (mkF m 0 #[.val (.ref a1), .val (.long q0), .second, .val (.long q1), .second] [])
  refine own_go (fun _ => XS.aloadN X0.here hx rfl (hb hby d1_0) rfl rfl) ?_
  show own_G p e below Φ s₁ (mkF m 1 #[.val (.ref a1), .val (.long q0), .second, .val (.long q1), .second] [(.ref a1)])
  obtain ⟨_, _, ⟨T1, zL1, zk1, zn1⟩, -, X1, ⟨Lc1, hQ1, l1, y1, z1⟩, st1⟩ := X0.specialBack hx (y := (⟨"java/lang/Record", "<init>", "()V"⟩ : MethodName)) rfl hown (mvT hZ (wd_7 hw)) (mvT hZ (wd_8 hw)) (mvT hZ (wd_11 hw)) (by decide) (backOf (W := 0) (rm2 l Z a0 hw [] a1 h0 n0 Z0 ) hZ (wd_11 hw) (wd_10 hw) (by decide) (by decide)) (g := (mkF m 1 #[.val (.ref a1), .val (.long q0), .second, .val (.long q1), .second] [(.ref a1)])) rfl (by rw [hml]; rfl) (Steps.refl _) (a := a1) (argsL := []) (rest := []) (lenOf pd_0 rfl) rfl (by show 2 * 0 + _ ≤ _; exact Nat.le_of_eq rfl) (hb hby d1_1) (fun _ _ => ⟨rfl, e0, (by decide : 0 + 0 ≤ _), (by decide : 0 + 0 ≤ _)⟩)
  dsimp only [Pt.U, Pt.locs, Pt.cells, Pt.slots] at X1 l1 y1 z1 st1 hQ1
  subst l1 y1 z1
  obtain ⟨rfl, N1q, hs1⟩ := hQ1
  have N1 := Fr.app N0 N1q
  refine own_on st1 ?_
  show own_G p e below Φ T1 (mkF m 4 #[.val (.ref a1), .val (.long q0), .second, .val (.long q1), .second] [])
  refine own_go (fun _ => XS.lloadN X1.here hx rfl (hb hby d1_4) rfl) ?_
  show own_G p e below Φ T1 (mkF m 5 #[.val (.ref a1), .val (.long q0), .second, .val (.long q1), .second] [(.long q0)])
  obtain ⟨_, _, ⟨T2, zL2, zk2, zn2⟩, -, X2, ⟨Lc2, hQ2, l2, y2, z2⟩, st2⟩ := Jvm.LawKit.callS X1 hx (y := (⟨"java/lang/Math", "abs", "(J)J"⟩ : MethodName)) hown (mvT hZ (wd_15 hw)) (mvT hZ (wd_16 hw)) (mvT hZ (wd_17 hw)) (mvT hZ (wd_18 hw)) (by decide) (backOf (W := 0) (rm4 l Z a0 hw [] q0 h0 n0 Z0 ) hZ (wd_18 hw) (wd_17 hw) (by decide) (by decide)) (g := (mkF m 5 #[.val (.ref a1), .val (.long q0), .second, .val (.long q1), .second] [(.long q0)])) rfl (by rw [hml]; rfl) (argsL := [(.long q0)]) (rest := []) (lenOf pd_1 rfl) rfl (by show 2 * 0 + _ ≤ _; exact Nat.le_of_eq rfl) (hb hby d1_5) (fun _ _ => ⟨rfl, hs1, (by decide : 0 + 0 ≤ _), (by decide : 0 + 0 ≤ _)⟩)
  dsimp only [Pt.U, Pt.locs, Pt.cells, Pt.slots] at X2 l2 y2 z2 st2 hQ2
  subst l2 y2 z2
  obtain ⟨rfl, N2q, hs2⟩ := hQ2
  have N2 := Fr.app N1 N2q
  refine own_go st2 ?_
  show own_G p e below Φ T2 (mkF m 8 #[.val (.ref a1), .val (.long q0), .second, .val (.long q1), .second] [(.long (own_abs q0))])
  refine own_go (fun _ => X2.ldc2Long hx hown (mvT hZ (wd_19 hw)) (g := (mkF m 8 #[.val (.ref a1), .val (.long q0), .second, .val (.long q1), .second] [(.long (own_abs q0))])) rfl (hb hby d1_8) _) ?_
  show own_G p e below Φ T2 (mkF m 11 #[.val (.ref a1), .val (.long q0), .second, .val (.long q1), .second] [(.long (1000000000 : Int64)), (.long (own_abs q0))])
  refine own_go (fun _ => XS.lcmp X2.here hx rfl (hb hby d1_11) rfl) ?_
  show own_G p e below Φ T2 (mkF m 12 #[.val (.ref a1), .val (.long q0), .second, .val (.long q1), .second] [(.int (lcmpW (own_abs q0) (1000000000 : Int64)))])
  refine own_go (fun _ => XS.ifNo X2.here hx rfl (hb hby d1_12) rfl (Jvm.Free.XT.ll_gt_f hq0)) ?_
  show own_G p e below Φ T2 (mkF m 15 #[.val (.ref a1), .val (.long q0), .second, .val (.long q1), .second] [])
  refine own_go (fun _ => XS.lloadN X2.here hx rfl (hb hby d1_15) rfl) ?_
  show own_G p e below Φ T2 (mkF m 16 #[.val (.ref a1), .val (.long q0), .second, .val (.long q1), .second] [(.long q1)])
  obtain ⟨_, _, ⟨T3, zL3, zk3, zn3⟩, -, X3, ⟨Lc3, hQ3, l3, y3, z3⟩, st3⟩ := Jvm.LawKit.callS X2 hx (y := (⟨"java/lang/Math", "abs", "(J)J"⟩ : MethodName)) hown (mvT hZ (wd_15 hw)) (mvT hZ (wd_16 hw)) (mvT hZ (wd_17 hw)) (mvT hZ (wd_18 hw)) (by decide) (backOf (W := 0) (rm4 l Z a0 hw [] q1 h0 n0 Z0 ) hZ (wd_18 hw) (wd_17 hw) (by decide) (by decide)) (g := (mkF m 16 #[.val (.ref a1), .val (.long q0), .second, .val (.long q1), .second] [(.long q1)])) rfl (by rw [hml]; rfl) (argsL := [(.long q1)]) (rest := []) (lenOf pd_1 rfl) rfl (by show 2 * 0 + _ ≤ _; exact Nat.le_of_eq rfl) (hb hby d1_16) (fun _ _ => ⟨rfl, hs2, (by decide : 0 + 0 ≤ _), (by decide : 0 + 0 ≤ _)⟩)
  dsimp only [Pt.U, Pt.locs, Pt.cells, Pt.slots] at X3 l3 y3 z3 st3 hQ3
  subst l3 y3 z3
  obtain ⟨rfl, N3q, hs3⟩ := hQ3
  have N3 := Fr.app N2 N3q
  refine own_go st3 ?_
  show own_G p e below Φ T3 (mkF m 19 #[.val (.ref a1), .val (.long q0), .second, .val (.long q1), .second] [(.long (own_abs q1))])
  refine own_go (fun _ => X3.ldc2Long hx hown (mvT hZ (wd_19 hw)) (g := (mkF m 19 #[.val (.ref a1), .val (.long q0), .second, .val (.long q1), .second] [(.long (own_abs q1))])) rfl (hb hby d1_19) _) ?_
  show own_G p e below Φ T3 (mkF m 22 #[.val (.ref a1), .val (.long q0), .second, .val (.long q1), .second] [(.long (1000000000 : Int64)), (.long (own_abs q1))])
  refine own_go (fun _ => XS.lcmp X3.here hx rfl (hb hby d1_22) rfl) ?_
  show own_G p e below Φ T3 (mkF m 23 #[.val (.ref a1), .val (.long q0), .second, .val (.long q1), .second] [(.int (lcmpW (own_abs q1) (1000000000 : Int64)))])
  refine own_go (fun _ => XS.ifYes X3.here hx rfl (pc0 := 23) (pc' := 41) rfl (hb hby d1_23) rfl (Jvm.Free.XT.ll_le_t hq1) (by decide) (by decide)) ?_
  show own_G p e below Φ T3 (mkF m 41 #[.val (.ref a1), .val (.long q0), .second, .val (.long q1), .second] [])
  refine own_go (fun _ => XS.aloadN X3.here hx rfl (hb hby d1_41) rfl rfl) ?_
  show own_G p e below Φ T3 (mkF m 42 #[.val (.ref a1), .val (.long q0), .second, .val (.long q1), .second] [(.ref a1)])
  refine own_go (fun _ => XS.lloadN X3.here hx rfl (hb hby d1_42) rfl) ?_
  show own_G p e below Φ T3 (mkF m 43 #[.val (.ref a1), .val (.long q0), .second, .val (.long q1), .second] [(.long q0), (.ref a1)])
  obtain ⟨T4, h4, X4, e4, W4, st4⟩ := putF X3 hx hZ hown (host := "") (Or.inl (wd_20 hw)) Via.refl hs3 F_x_a1 E_a1 (Or.inr ⟨(wd_21 hw), rfl, hnm⟩) (wd_2 hw) (ty := .long) (by decide) rfl rfl (g := (mkF m 43 #[.val (.ref a1), .val (.long q0), .second, .val (.long q1), .second] [(.long q0), (.ref a1)])) rfl rfl (hb hby d1_43)
  refine own_go st4 ?_
  have N4 := Fr.snoc X4 N3 g_a1
  have K4 := K0.wr W4 (Or.inl (List.mem_of_getElem? (i := 0) rfl))
  have Zp4 : n0 ≤ h4.size := Nat.le_trans Z0 (Keep.of_wr W4).1
  have f4w := F_x_a1.same W4
  show own_G p e below Φ T4 (mkF m 46 #[.val (.ref a1), .val (.long q0), .second, .val (.long q1), .second] [])
  refine own_go (fun _ => XS.aloadN X4.here hx rfl (hb hby d1_46) rfl rfl) ?_
  show own_G p e below Φ T4 (mkF m 47 #[.val (.ref a1), .val (.long q0), .second, .val (.long q1), .second] [(.ref a1)])
  refine own_go (fun _ => XS.lloadN X4.here hx rfl (hb hby d1_47) rfl) ?_
  show own_G p e below Φ T4 (mkF m 48 #[.val (.ref a1), .val (.long q0), .second, .val (.long q1), .second] [(.long q1), (.ref a1)])
  have f5 : Exa Z h4 a1 "com/example/fairhail/fairhail/core/Point" := E_a1.wr W4
  have f6 : Fld Z h4 a1 "com/example/fairhail/fairhail/core/Point" "y" "J" u1 := F_y_a1.other W4 (Or.inr (sl_0 hw))
  obtain ⟨T7, h7, X7, e7, W7, st7⟩ := putF X4 hx hZ hown (host := "") (Or.inl (wd_22 hw)) Via.refl e4 f6 f5 (Or.inr ⟨(wd_23 hw), rfl, hnm⟩) (wd_2 hw) (ty := .long) (by decide) rfl rfl (g := (mkF m 48 #[.val (.ref a1), .val (.long q0), .second, .val (.long q1), .second] [(.long q1), (.ref a1)])) rfl rfl (hb hby d1_48)
  refine own_go st7 ?_
  have N7 := Fr.snoc X7 N4 g_a1
  have K7 := K4.wr W7 (Or.inl (List.mem_of_getElem? (i := 0) rfl))
  have Zp7 : n0 ≤ h7.size := Nat.le_trans Zp4 (Keep.of_wr W7).1
  have f7w := f6.same W7
  show own_G p e below Φ T7 (mkF m 51 #[.val (.ref a1), .val (.long q0), .second, .val (.long q1), .second] [])
  have f8 : Exa Z h7 a1 "com/example/fairhail/fairhail/core/Point" := f5.wr W7
  have f9 : Fld Z h7 a1 "com/example/fairhail/fairhail/core/Point" "x" "J" (.long q0) := f4w.other W7 (Or.inr (sl_1 hw))
  rw [hΦ]
  refine own_ret X7 (v := none) (fun _ => rfl) (BodyLoose.notSynchronized Bd) (fun fs hr => X7.returnOut hx Bd.returns (hb hby d1_51) hr) ?_ (by decide) (by decide)
  rw [e7]
  exact ⟨rfl, N7, K7, f8, f9, f7w⟩
theorem d5_0 : decode prog_20_method_3_code 0 = .ok (.aload_n 0, 1) := by decide +kernel
theorem d5_1 : decode prog_20_method_3_code 1 = .ok (.getfield 26, 3) := by decide +kernel
theorem d5_4 : decode prog_20_method_3_code 4 = .ok (.aload_n 1, 1) := by decide +kernel
theorem d5_5 : decode prog_20_method_3_code 5 = .ok (.getfield 26, 3) := by decide +kernel
theorem d5_8 : decode prog_20_method_3_code 8 = .ok (.lsub, 1) := by decide +kernel
theorem d5_9 : decode prog_20_method_3_code 9 = .ok (.lstore_n 2, 1) := by decide +kernel
theorem d5_10 : decode prog_20_method_3_code 10 = .ok (.aload_n 0, 1) := by decide +kernel
theorem d5_11 : decode prog_20_method_3_code 11 = .ok (.getfield 30, 3) := by decide +kernel
theorem d5_14 : decode prog_20_method_3_code 14 = .ok (.aload_n 1, 1) := by decide +kernel
theorem d5_15 : decode prog_20_method_3_code 15 = .ok (.getfield 30, 3) := by decide +kernel
theorem d5_18 : decode prog_20_method_3_code 18 = .ok (.lsub, 1) := by decide +kernel
theorem d5_19 : decode prog_20_method_3_code 19 = .ok (.lstore 4, 2) := by decide +kernel
theorem d5_21 : decode prog_20_method_3_code 21 = .ok (.lload_n 2, 1) := by decide +kernel
theorem d5_22 : decode prog_20_method_3_code 22 = .ok (.lload_n 2, 1) := by decide +kernel
theorem d5_23 : decode prog_20_method_3_code 23 = .ok (.lmul, 1) := by decide +kernel
theorem d5_24 : decode prog_20_method_3_code 24 = .ok (.lload 4, 2) := by decide +kernel
theorem d5_26 : decode prog_20_method_3_code 26 = .ok (.lload 4, 2) := by decide +kernel
theorem d5_28 : decode prog_20_method_3_code 28 = .ok (.lmul, 1) := by decide +kernel
theorem d5_29 : decode prog_20_method_3_code 29 = .ok (.ladd, 1) := by decide +kernel
theorem d5_30 : decode prog_20_method_3_code 30 = .ok (.lreturn, 1) := by decide +kernel
theorem ef_rm5 (m : MethodId) (a1 : Addr) (a2 : Addr) : entryFrame m #[(.ref a1), (.ref a2)] 6 = mkF m 0 #[.val (.ref a1), .val (.ref a2), .unset, .unset, .unset, .unset] [] := by first | (simp [entryFrame, mkF, argsToLocals, Value.category]; done) | rfl
def Q_rm5 (Z : State) (a1 : Addr) (a2 : Addr) (xa : Int64) (ya : Int64) (xb : Int64) (yb : Int64) (h0 : Heap) (n0 : Nat) (v : Option Value) (h : Heap) (L : List Loc) : Prop := v = some (.long (own_sq xa ya xb yb)) ∧ Fr n0 L ∧ h = h0
set_option maxRecDepth 65536 in
set_option maxHeartbeats 40000000 in
theorem rm5 (l : Launch) (Z : State) (a0 : Array Value) (hw : ∀ d ∈ tables_1, d.before a0 Z = true) (ws : List Jvm.Cond) (a1 : Addr) (a2 : Addr) (xa : Int64) (ya : Int64) (xb : Int64) (yb : Int64) (h0 : Heap) (n0 : Nat) (Z0 : n0 ≤ h0.size) (F_x_a1 : Fld Z h0 a1 "com/example/fairhail/fairhail/core/Point" "x" "J" (.long xa)) (F_y_a1 : Fld Z h0 a1 "com/example/fairhail/fairhail/core/Point" "y" "J" (.long ya)) (F_x_a2 : Fld Z h0 a2 "com/example/fairhail/fairhail/core/Point" "x" "J" (.long xb)) (F_y_a2 : Fld Z h0 a2 "com/example/fairhail/fairhail/core/Point" "y" "J" (.long yb)) :
    MetFree l (⟨"com/example/fairhail/fairhail/core/Point", "squaredDistanceTo", "(Lcom/example/fairhail/fairhail/core/Point;)J"⟩ : MethodName) (head1 (Jvm.Cond.code (⟨"com/example/fairhail/fairhail/core/Point", "squaredDistanceTo", "(Lcom/example/fairhail/fairhail/core/Point;)J"⟩ : MethodName) prog_20_method_3_code 6 (some .long) :: ws) ({ frames := 0, cells := 0, slots := 0, locals := 0 } : Room)) (fun a U => a = #[(.ref a1), (.ref a2)] ∧ Z.Warmed39 U.vm ∧ U.heap = h0) (fun _ _ _ _ _ => True) (fun _ U o U' => ∃ v L, o = .returned v ∧ Q_rm5 Z a1 a2 xa ya xb yb h0 n0 v U'.heap L ∧ FrameEnd U o U' L ({ frames := 0, cells := 0, slots := 0, locals := 0 } : Room).cells ({ frames := 0, cells := 0, slots := 0, locals := 0 } : Room).slots) := by
  refine MetFree.of_bodySF (plainFor_of_name pn_1) hisR ?_
  intro p e s m args below meth c s₁ Bd hml0 hP hK
  obtain ⟨rfl, hZ, hh⟩ := hP
  have hx := Bd.exec
  have hby := Bd.bytes
  have hml : c.maxLocals = 6 := hml0
  have hown : s.vm.findClass "com/example/fairhail/fairhail/core/Point" = some m.cls := findClass_of_methodNamed Bd.named
  have hnm := (name_of_methodNamed Bd.named Bd.method).1
  have X0 : Stand p l e ({ frames := 0, cells := 0, slots := 0, locals := 0 } : Room) s m #[(.ref a1), (.ref a2)] below meth c s₁ [] 0 0 := Stand.of_body Bd
  have e0 : s₁.heap = h0 := by rw [← hh, Bd.state]; rfl
  have N0 := Fr.nil n0
  suffices G0 : own_G p e below (own_E s below (Q_rm5 Z a1 a2 xa ya xb yb h0 n0) ({ frames := 0, cells := 0, slots := 0, locals := 0 } : Room).cells ({ frames := 0, cells := 0, slots := 0, locals := 0 } : Room).slots) s₁ (mkF m 0 #[.val (.ref a1), .val (.ref a2), .unset, .unset, .unset, .unset] []) by
    obtain ⟨zt, zst, zo, zq1, zq2, zq3⟩ := G0
    exact ⟨zt, zo, castTop (ef_rm5 m a1 a2) zst, zq1, zq2, zq3⟩
  obtain ⟨Φ, hΦ⟩ : ∃ Φ, Φ = own_E s below (Q_rm5 Z a1 a2 xa ya xb yb h0 n0) ({ frames := 0, cells := 0, slots := 0, locals := 0 } : Room).cells ({ frames := 0, cells := 0, slots := 0, locals := 0 } : Room).slots := ⟨_, rfl⟩
  rw [← hΦ]
  show own_G p e below Φ s₁ (mkF m 0 #[.val (.ref a1), .val (.ref a2), .unset, .unset, .unset, .unset] [])
  refine own_go (fun _ => XS.aloadN X0.here hx rfl (hb hby d5_0) rfl rfl) ?_
  show own_G p e below Φ s₁ (mkF m 1 #[.val (.ref a1), .val (.ref a2), .unset, .unset, .unset, .unset] [(.ref a1)])
  obtain ⟨T1, X1, e1, st1⟩ := getF X0 hx hZ hown (host := "") (Or.inl (wd_20 hw)) Via.refl e0 F_x_a1 (g := (mkF m 1 #[.val (.ref a1), .val (.ref a2), .unset, .unset, .unset, .unset] [(.ref a1)])) rfl rfl (hb hby d5_1)
  refine own_go st1 ?_
  show own_G p e below Φ T1 (mkF m 4 #[.val (.ref a1), .val (.ref a2), .unset, .unset, .unset, .unset] [(.long xa)])
  refine own_go (fun _ => XS.aloadN X1.here hx rfl (hb hby d5_4) rfl rfl) ?_
  show own_G p e below Φ T1 (mkF m 5 #[.val (.ref a1), .val (.ref a2), .unset, .unset, .unset, .unset] [(.ref a2), (.long xa)])
  obtain ⟨T2, X2, e2, st2⟩ := getF X1 hx hZ hown (host := "") (Or.inl (wd_20 hw)) Via.refl e1 F_x_a2 (g := (mkF m 5 #[.val (.ref a1), .val (.ref a2), .unset, .unset, .unset, .unset] [(.ref a2), (.long xa)])) rfl rfl (hb hby d5_5)
  refine own_go st2 ?_
  show own_G p e below Φ T2 (mkF m 8 #[.val (.ref a1), .val (.ref a2), .unset, .unset, .unset, .unset] [(.long xb), (.long xa)])
  refine own_go (fun _ => XS.lsub X2.here hx rfl (hb hby d5_8) rfl) ?_
  show own_G p e below Φ T2 (mkF m 9 #[.val (.ref a1), .val (.ref a2), .unset, .unset, .unset, .unset] [(.long (xa - xb))])
  refine own_go (fun _ => XS.lstoreN X2.here hx rfl (hb hby d5_9) rfl (l' := #[.val (.ref a1), .val (.ref a2), .val (.long (xa - xb)), .second, .unset, .unset]) rfl) ?_
  show own_G p e below Φ T2 (mkF m 10 #[.val (.ref a1), .val (.ref a2), .val (.long (xa - xb)), .second, .unset, .unset] [])
  refine own_go (fun _ => XS.aloadN X2.here hx rfl (hb hby d5_10) rfl rfl) ?_
  show own_G p e below Φ T2 (mkF m 11 #[.val (.ref a1), .val (.ref a2), .val (.long (xa - xb)), .second, .unset, .unset] [(.ref a1)])
  obtain ⟨T3, X3, e3, st3⟩ := getF X2 hx hZ hown (host := "") (Or.inl (wd_22 hw)) Via.refl e2 F_y_a1 (g := (mkF m 11 #[.val (.ref a1), .val (.ref a2), .val (.long (xa - xb)), .second, .unset, .unset] [(.ref a1)])) rfl rfl (hb hby d5_11)
  refine own_go st3 ?_
  show own_G p e below Φ T3 (mkF m 14 #[.val (.ref a1), .val (.ref a2), .val (.long (xa - xb)), .second, .unset, .unset] [(.long ya)])
  refine own_go (fun _ => XS.aloadN X3.here hx rfl (hb hby d5_14) rfl rfl) ?_
  show own_G p e below Φ T3 (mkF m 15 #[.val (.ref a1), .val (.ref a2), .val (.long (xa - xb)), .second, .unset, .unset] [(.ref a2), (.long ya)])
  obtain ⟨T4, X4, e4, st4⟩ := getF X3 hx hZ hown (host := "") (Or.inl (wd_22 hw)) Via.refl e3 F_y_a2 (g := (mkF m 15 #[.val (.ref a1), .val (.ref a2), .val (.long (xa - xb)), .second, .unset, .unset] [(.ref a2), (.long ya)])) rfl rfl (hb hby d5_15)
  refine own_go st4 ?_
  show own_G p e below Φ T4 (mkF m 18 #[.val (.ref a1), .val (.ref a2), .val (.long (xa - xb)), .second, .unset, .unset] [(.long yb), (.long ya)])
  refine own_go (fun _ => XS.lsub X4.here hx rfl (hb hby d5_18) rfl) ?_
  show own_G p e below Φ T4 (mkF m 19 #[.val (.ref a1), .val (.ref a2), .val (.long (xa - xb)), .second, .unset, .unset] [(.long (ya - yb))])
  refine own_go (fun _ => XS.lstore X4.here hx rfl (hb hby d5_19) rfl (l' := #[.val (.ref a1), .val (.ref a2), .val (.long (xa - xb)), .second, .val (.long (ya - yb)), .second]) rfl) ?_
  show own_G p e below Φ T4 (mkF m 21 #[.val (.ref a1), .val (.ref a2), .val (.long (xa - xb)), .second, .val (.long (ya - yb)), .second] [])
  refine own_go (fun _ => XS.lloadN X4.here hx rfl (hb hby d5_21) rfl) ?_
  show own_G p e below Φ T4 (mkF m 22 #[.val (.ref a1), .val (.ref a2), .val (.long (xa - xb)), .second, .val (.long (ya - yb)), .second] [(.long (xa - xb))])
  refine own_go (fun _ => XS.lloadN X4.here hx rfl (hb hby d5_22) rfl) ?_
  show own_G p e below Φ T4 (mkF m 23 #[.val (.ref a1), .val (.ref a2), .val (.long (xa - xb)), .second, .val (.long (ya - yb)), .second] [(.long (xa - xb)), (.long (xa - xb))])
  refine own_go (fun _ => XS.lmul X4.here hx rfl (hb hby d5_23) rfl) ?_
  show own_G p e below Φ T4 (mkF m 24 #[.val (.ref a1), .val (.ref a2), .val (.long (xa - xb)), .second, .val (.long (ya - yb)), .second] [(.long ((xa - xb) * (xa - xb)))])
  refine own_go (fun _ => XS.lload X4.here hx rfl (hb hby d5_24) rfl) ?_
  show own_G p e below Φ T4 (mkF m 26 #[.val (.ref a1), .val (.ref a2), .val (.long (xa - xb)), .second, .val (.long (ya - yb)), .second] [(.long (ya - yb)), (.long ((xa - xb) * (xa - xb)))])
  refine own_go (fun _ => XS.lload X4.here hx rfl (hb hby d5_26) rfl) ?_
  show own_G p e below Φ T4 (mkF m 28 #[.val (.ref a1), .val (.ref a2), .val (.long (xa - xb)), .second, .val (.long (ya - yb)), .second] [(.long (ya - yb)), (.long (ya - yb)), (.long ((xa - xb) * (xa - xb)))])
  refine own_go (fun _ => XS.lmul X4.here hx rfl (hb hby d5_28) rfl) ?_
  show own_G p e below Φ T4 (mkF m 29 #[.val (.ref a1), .val (.ref a2), .val (.long (xa - xb)), .second, .val (.long (ya - yb)), .second] [(.long ((ya - yb) * (ya - yb))), (.long ((xa - xb) * (xa - xb)))])
  refine own_go (fun _ => XS.ladd X4.here hx rfl (hb hby d5_29) rfl) ?_
  show own_G p e below Φ T4 (mkF m 30 #[.val (.ref a1), .val (.ref a2), .val (.long (xa - xb)), .second, .val (.long (ya - yb)), .second] [(.long (((xa - xb) * (xa - xb)) + ((ya - yb) * (ya - yb))))])
  rw [hΦ]
  refine own_ret X4 (v := some (.long (((xa - xb) * (xa - xb)) + ((ya - yb) * (ya - yb))))) (fun h => by rw [Bd.returns] at h; cases h) (BodyLoose.notSynchronized Bd) (fun fs hr => retOut X4 hx Bd.returns rfl (Or.inr (Or.inl ⟨rfl, rfl, _, rfl⟩)) (hb hby d5_30) hr) ?_ (by decide) (by decide)
  rw [e4]
  exact ⟨rfl, N0, rfl⟩
theorem wd_0 {Z : State} {a0 : Array Value} (hw : ∀ d ∈ tables_1, d.before a0 Z = true) : ((Jvm.Cond.constantLong "com/example/fairhail/fairhail/core/PointSquaredDistanceToPinLaw" (7 : Nat) (1000000001 : Int64)) : Jvm.Cond).before a0 Z = true := hw _ (List.mem_of_getElem? (i := 0) rfl)
theorem wd_1 {Z : State} {a0 : Array Value} (hw : ∀ d ∈ tables_1, d.before a0 Z = true) : ((Jvm.Cond.classLink "com/example/fairhail/fairhail/core/PointSquaredDistanceToPinLaw" (9 : Nat) "com/example/fairhail/fairhail/core/Point") : Jvm.Cond).before a0 Z = true := hw _ (List.mem_of_getElem? (i := 1) rfl)
theorem wd_3 {Z : State} {a0 : Array Value} (hw : ∀ d ∈ tables_1, d.before a0 Z = true) : ((Jvm.Cond.initialized "com/example/fairhail/fairhail/core/Point") : Jvm.Cond).before a0 Z = true := hw _ (List.mem_of_getElem? (i := 3) rfl)
theorem wd_4 {Z : State} {a0 : Array Value} (hw : ∀ d ∈ tables_1, d.before a0 Z = true) : ((Jvm.Cond.methodLink "com/example/fairhail/fairhail/core/PointSquaredDistanceToPinLaw" (11 : Nat) ({ cls := "com/example/fairhail/fairhail/core/Point", name := "<init>", desc := "(JJ)V" } : Jvm.MethodName)) : Jvm.Cond).before a0 Z = true := hw _ (List.mem_of_getElem? (i := 4) rfl)
theorem wd_6 {Z : State} {a0 : Array Value} (hw : ∀ d ∈ tables_1, d.before a0 Z = true) : ((Jvm.Cond.code ({ cls := "com/example/fairhail/fairhail/core/Point", name := "<init>", desc := "(JJ)V" } : Jvm.MethodName) prog_20_method_1_code (5 : Nat) (Option.none : Option Jvm.ClassFile.FieldType)) : Jvm.Cond).before a0 Z = true := hw _ (List.mem_of_getElem? (i := 6) rfl)
theorem pd_2 : parseMethodDescriptor "(JJ)V" = some ⟨[.long, .long], none⟩ := by decide +kernel
theorem wd_5 {Z : State} {a0 : Array Value} (hw : ∀ d ∈ tables_1, d.before a0 Z = true) : ((Jvm.Cond.instanceMethod ({ cls := "com/example/fairhail/fairhail/core/Point", name := "<init>", desc := "(JJ)V" } : Jvm.MethodName)) : Jvm.Cond).before a0 Z = true := hw _ (List.mem_of_getElem? (i := 5) rfl)
theorem wd_24 {Z : State} {a0 : Array Value} (hw : ∀ d ∈ tables_1, d.before a0 Z = true) : ((Jvm.Cond.constantLong "com/example/fairhail/fairhail/core/PointSquaredDistanceToPinLaw" (14 : Nat) (2 : Int64)) : Jvm.Cond).before a0 Z = true := hw _ (List.mem_of_getElem? (i := 24) rfl)
theorem wd_25 {Z : State} {a0 : Array Value} (hw : ∀ d ∈ tables_1, d.before a0 Z = true) : ((Jvm.Cond.methodLink "com/example/fairhail/fairhail/core/PointSquaredDistanceToPinLaw" (16 : Nat) ({ cls := "com/example/fairhail/fairhail/core/Point", name := "squaredDistanceTo", desc := "(Lcom/example/fairhail/fairhail/core/Point;)J" } : Jvm.MethodName)) : Jvm.Cond).before a0 Z = true := hw _ (List.mem_of_getElem? (i := 25) rfl)
theorem wd_29 {Z : State} {a0 : Array Value} (hw : ∀ d ∈ tables_1, d.before a0 Z = true) : ((Jvm.Cond.code ({ cls := "com/example/fairhail/fairhail/core/Point", name := "squaredDistanceTo", desc := "(Lcom/example/fairhail/fairhail/core/Point;)J" } : Jvm.MethodName) prog_20_method_3_code (6 : Nat) (Option.some Jvm.ClassFile.FieldType.long)) : Jvm.Cond).before a0 Z = true := hw _ (List.mem_of_getElem? (i := 29) rfl)
theorem pd_3 : parseMethodDescriptor "(Lcom/example/fairhail/fairhail/core/Point;)J" = some ⟨[(.object "com/example/fairhail/fairhail/core/Point")], some .long⟩ := by decide +kernel
theorem wd_28 {Z : State} {a0 : Array Value} (hw : ∀ d ∈ tables_1, d.before a0 Z = true) : ((Jvm.Cond.selects "com/example/fairhail/fairhail/core/Point" ({ cls := "com/example/fairhail/fairhail/core/Point", name := "squaredDistanceTo", desc := "(Lcom/example/fairhail/fairhail/core/Point;)J" } : Jvm.MethodName) ({ cls := "com/example/fairhail/fairhail/core/Point", name := "squaredDistanceTo", desc := "(Lcom/example/fairhail/fairhail/core/Point;)J" } : Jvm.MethodName)) : Jvm.Cond).before a0 Z = true := hw _ (List.mem_of_getElem? (i := 28) rfl)
theorem wd_26 {Z : State} {a0 : Array Value} (hw : ∀ d ∈ tables_1, d.before a0 Z = true) : ((Jvm.Cond.declares ({ cls := "com/example/fairhail/fairhail/core/Point", name := "squaredDistanceTo", desc := "(Lcom/example/fairhail/fairhail/core/Point;)J" } : Jvm.MethodName)) : Jvm.Cond).before a0 Z = true := hw _ (List.mem_of_getElem? (i := 26) rfl)
theorem wd_27 {Z : State} {a0 : Array Value} (hw : ∀ d ∈ tables_1, d.before a0 Z = true) : ((Jvm.Cond.instanceMethod ({ cls := "com/example/fairhail/fairhail/core/Point", name := "squaredDistanceTo", desc := "(Lcom/example/fairhail/fairhail/core/Point;)J" } : Jvm.MethodName)) : Jvm.Cond).before a0 Z = true := hw _ (List.mem_of_getElem? (i := 27) rfl)
theorem pn_2 : plainName "com/example/fairhail/fairhail/core/PointSquaredDistanceToPinLaw" = true := by first | (simp [plainName, overriddenIn]; done) | decide +kernel
theorem ef_rm0 (m : MethodId) (qa : Int64) (qb : Int64) (qc : Int64) (qd : Int64) : entryFrame m #[(.long qa), (.long qb), (.long qc), (.long qd)] maxLocals = mkF m 0 #[.val (.long qa), .second, .val (.long qb), .second, .val (.long qc), .second, .val (.long qd), .second, .unset, .unset, .unset, .unset, .unset, .unset, .unset, .unset, .unset, .unset, .unset, .unset, .unset, .unset, .unset, .unset] [] := by first | (simp [entryFrame, mkF, argsToLocals, Value.category, maxLocals]; done) | rfl
def Q_rm0 (Z : State) (qa : Int64) (qb : Int64) (qc : Int64) (qd : Int64) (h0 : Heap) (n0 : Nat) (v : Option Value) (h : Heap) (L : List Loc) : Prop := v = some (.int (1 : Int32)) ∧ Fr n0 L
set_option maxRecDepth 65536 in
set_option maxHeartbeats 40000000 in
theorem rm0 (l : Launch) (Z : State) (a0 : Array Value) (hw : ∀ d ∈ tables_1, d.before a0 Z = true) (ws : List Jvm.Cond) (qa : Int64) (qb : Int64) (qc : Int64) (qd : Int64) (h0 : Heap) (n0 : Nat) (Z0 : n0 ≤ h0.size)  :
    MetFree l x (head1 (Jvm.Cond.code x code maxLocals ret :: ws) room_1) (fun a U => a = #[(.long qa), (.long qb), (.long qc), (.long qd)] ∧ Z.Warmed39 U.vm ∧ U.heap = h0) (fun _ _ _ _ _ => True) (fun _ U o U' => ∃ v L, o = .returned v ∧ Q_rm0 Z qa qb qc qd h0 n0 v U'.heap L ∧ FrameEnd U o U' L room_1.cells room_1.slots) := by
  refine MetFree.of_bodySF (plainFor_of_name pn_2) hisR ?_
  intro p e s m args below meth c s₁ Bd hml0 hP hK
  obtain ⟨rfl, hZ, hh⟩ := hP
  have hx := Bd.exec
  have hby := Bd.bytes
  have hml : c.maxLocals = 24 := hml0
  have hown : s.vm.findClass "com/example/fairhail/fairhail/core/PointSquaredDistanceToPinLaw" = some m.cls := findClass_of_methodNamed Bd.named
  have hnm := (name_of_methodNamed Bd.named Bd.method).1
  have X0 : Stand p l e room_1 s m #[(.long qa), (.long qb), (.long qc), (.long qd)] below meth c s₁ [] 0 0 := Stand.of_body Bd
  have e0 : s₁.heap = h0 := by rw [← hh, Bd.state]; rfl
  have N0 := Fr.nil n0
  suffices G0 : own_G p e below (own_E s below (Q_rm0 Z qa qb qc qd h0 n0) room_1.cells room_1.slots) s₁ (mkF m 0 #[.val (.long qa), .second, .val (.long qb), .second, .val (.long qc), .second, .val (.long qd), .second, .unset, .unset, .unset, .unset, .unset, .unset, .unset, .unset, .unset, .unset, .unset, .unset, .unset, .unset, .unset, .unset] []) by
    obtain ⟨zt, zst, zo, zq1, zq2, zq3⟩ := G0
    exact ⟨zt, zo, castTop (ef_rm0 m qa qb qc qd) zst, zq1, zq2, zq3⟩
  obtain ⟨Φ, hΦ⟩ : ∃ Φ, Φ = own_E s below (Q_rm0 Z qa qb qc qd h0 n0) room_1.cells room_1.slots := ⟨_, rfl⟩
  rw [← hΦ]
  show own_G p e below Φ s₁ (mkF m 0 #[.val (.long qa), .second, .val (.long qb), .second, .val (.long qc), .second, .val (.long qd), .second, .unset, .unset, .unset, .unset, .unset, .unset, .unset, .unset, .unset, .unset, .unset, .unset, .unset, .unset, .unset, .unset] [])
  refine own_go (fun _ => XS.lloadN X0.here hx rfl (hb hby at_0) rfl) ?_
  show own_G p e below Φ s₁ (mkF m 1 #[.val (.long qa), .second, .val (.long qb), .second, .val (.long qc), .second, .val (.long qd), .second, .unset, .unset, .unset, .unset, .unset, .unset, .unset, .unset, .unset, .unset, .unset, .unset, .unset, .unset, .unset, .unset] [(.long qa)])
  refine own_go (fun _ => X0.ldc2Long hx hown (mvT hZ (wd_0 hw)) (g := (mkF m 1 #[.val (.long qa), .second, .val (.long qb), .second, .val (.long qc), .second, .val (.long qd), .second, .unset, .unset, .unset, .unset, .unset, .unset, .unset, .unset, .unset, .unset, .unset, .unset, .unset, .unset, .unset, .unset] [(.long qa)])) rfl (hb hby at_1) _) ?_
  show own_G p e below Φ s₁ (mkF m 4 #[.val (.long qa), .second, .val (.long qb), .second, .val (.long qc), .second, .val (.long qd), .second, .unset, .unset, .unset, .unset, .unset, .unset, .unset, .unset, .unset, .unset, .unset, .unset, .unset, .unset, .unset, .unset] [(.long (1000000001 : Int64)), (.long qa)])
  refine own_go (fun _ => own_lremM X0 hx rfl (hb hby at_4) rfl (by decide)) ?_
  show own_G p e below Φ s₁ (mkF m 5 #[.val (.long qa), .second, .val (.long qb), .second, .val (.long qc), .second, .val (.long qd), .second, .unset, .unset, .unset, .unset, .unset, .unset, .unset, .unset, .unset, .unset, .unset, .unset, .unset, .unset, .unset, .unset] [(.long (qa % (1000000001 : Int64)))])
  refine own_go (fun _ => XS.lstore X0.here hx rfl (hb hby at_5) rfl (l' := #[.val (.long qa), .second, .val (.long qb), .second, .val (.long qc), .second, .val (.long qd), .second, .val (.long (qa % (1000000001 : Int64))), .second, .unset, .unset, .unset, .unset, .unset, .unset, .unset, .unset, .unset, .unset, .unset, .unset, .unset, .unset]) rfl) ?_
  show own_G p e below Φ s₁ (mkF m 7 #[.val (.long qa), .second, .val (.long qb), .second, .val (.long qc), .second, .val (.long qd), .second, .val (.long (qa % (1000000001 : Int64))), .second, .unset, .unset, .unset, .unset, .unset, .unset, .unset, .unset, .unset, .unset, .unset, .unset, .unset, .unset] [])
  generalize hx8_5 : (qa % (1000000001 : Int64)) = x8_5
  show own_G p e below Φ s₁ (mkF m 7 #[.val (.long qa), .second, .val (.long qb), .second, .val (.long qc), .second, .val (.long qd), .second, .val (.long x8_5), .second, .unset, .unset, .unset, .unset, .unset, .unset, .unset, .unset, .unset, .unset, .unset, .unset, .unset, .unset] [])
  refine own_go (fun _ => XS.lloadN X0.here hx rfl (hb hby at_7) rfl) ?_
  show own_G p e below Φ s₁ (mkF m 8 #[.val (.long qa), .second, .val (.long qb), .second, .val (.long qc), .second, .val (.long qd), .second, .val (.long x8_5), .second, .unset, .unset, .unset, .unset, .unset, .unset, .unset, .unset, .unset, .unset, .unset, .unset, .unset, .unset] [(.long qb)])
  refine own_go (fun _ => X0.ldc2Long hx hown (mvT hZ (wd_0 hw)) (g := (mkF m 8 #[.val (.long qa), .second, .val (.long qb), .second, .val (.long qc), .second, .val (.long qd), .second, .val (.long x8_5), .second, .unset, .unset, .unset, .unset, .unset, .unset, .unset, .unset, .unset, .unset, .unset, .unset, .unset, .unset] [(.long qb)])) rfl (hb hby at_8) _) ?_
  show own_G p e below Φ s₁ (mkF m 11 #[.val (.long qa), .second, .val (.long qb), .second, .val (.long qc), .second, .val (.long qd), .second, .val (.long x8_5), .second, .unset, .unset, .unset, .unset, .unset, .unset, .unset, .unset, .unset, .unset, .unset, .unset, .unset, .unset] [(.long (1000000001 : Int64)), (.long qb)])
  refine own_go (fun _ => own_lremM X0 hx rfl (hb hby at_11) rfl (by decide)) ?_
  show own_G p e below Φ s₁ (mkF m 12 #[.val (.long qa), .second, .val (.long qb), .second, .val (.long qc), .second, .val (.long qd), .second, .val (.long x8_5), .second, .unset, .unset, .unset, .unset, .unset, .unset, .unset, .unset, .unset, .unset, .unset, .unset, .unset, .unset] [(.long (qb % (1000000001 : Int64)))])
  refine own_go (fun _ => XS.lstore X0.here hx rfl (hb hby at_12) rfl (l' := #[.val (.long qa), .second, .val (.long qb), .second, .val (.long qc), .second, .val (.long qd), .second, .val (.long x8_5), .second, .val (.long (qb % (1000000001 : Int64))), .second, .unset, .unset, .unset, .unset, .unset, .unset, .unset, .unset, .unset, .unset, .unset, .unset]) rfl) ?_
  show own_G p e below Φ s₁ (mkF m 14 #[.val (.long qa), .second, .val (.long qb), .second, .val (.long qc), .second, .val (.long qd), .second, .val (.long x8_5), .second, .val (.long (qb % (1000000001 : Int64))), .second, .unset, .unset, .unset, .unset, .unset, .unset, .unset, .unset, .unset, .unset, .unset, .unset] [])
  generalize hx10_12 : (qb % (1000000001 : Int64)) = x10_12
  show own_G p e below Φ s₁ (mkF m 14 #[.val (.long qa), .second, .val (.long qb), .second, .val (.long qc), .second, .val (.long qd), .second, .val (.long x8_5), .second, .val (.long x10_12), .second, .unset, .unset, .unset, .unset, .unset, .unset, .unset, .unset, .unset, .unset, .unset, .unset] [])
  refine own_go (fun _ => XS.lload X0.here hx rfl (hb hby at_14) rfl) ?_
  show own_G p e below Φ s₁ (mkF m 16 #[.val (.long qa), .second, .val (.long qb), .second, .val (.long qc), .second, .val (.long qd), .second, .val (.long x8_5), .second, .val (.long x10_12), .second, .unset, .unset, .unset, .unset, .unset, .unset, .unset, .unset, .unset, .unset, .unset, .unset] [(.long qc)])
  refine own_go (fun _ => X0.ldc2Long hx hown (mvT hZ (wd_0 hw)) (g := (mkF m 16 #[.val (.long qa), .second, .val (.long qb), .second, .val (.long qc), .second, .val (.long qd), .second, .val (.long x8_5), .second, .val (.long x10_12), .second, .unset, .unset, .unset, .unset, .unset, .unset, .unset, .unset, .unset, .unset, .unset, .unset] [(.long qc)])) rfl (hb hby at_16) _) ?_
  show own_G p e below Φ s₁ (mkF m 19 #[.val (.long qa), .second, .val (.long qb), .second, .val (.long qc), .second, .val (.long qd), .second, .val (.long x8_5), .second, .val (.long x10_12), .second, .unset, .unset, .unset, .unset, .unset, .unset, .unset, .unset, .unset, .unset, .unset, .unset] [(.long (1000000001 : Int64)), (.long qc)])
  refine own_go (fun _ => own_lremM X0 hx rfl (hb hby at_19) rfl (by decide)) ?_
  show own_G p e below Φ s₁ (mkF m 20 #[.val (.long qa), .second, .val (.long qb), .second, .val (.long qc), .second, .val (.long qd), .second, .val (.long x8_5), .second, .val (.long x10_12), .second, .unset, .unset, .unset, .unset, .unset, .unset, .unset, .unset, .unset, .unset, .unset, .unset] [(.long (qc % (1000000001 : Int64)))])
  refine own_go (fun _ => XS.lstore X0.here hx rfl (hb hby at_20) rfl (l' := #[.val (.long qa), .second, .val (.long qb), .second, .val (.long qc), .second, .val (.long qd), .second, .val (.long x8_5), .second, .val (.long x10_12), .second, .val (.long (qc % (1000000001 : Int64))), .second, .unset, .unset, .unset, .unset, .unset, .unset, .unset, .unset, .unset, .unset]) rfl) ?_
  show own_G p e below Φ s₁ (mkF m 22 #[.val (.long qa), .second, .val (.long qb), .second, .val (.long qc), .second, .val (.long qd), .second, .val (.long x8_5), .second, .val (.long x10_12), .second, .val (.long (qc % (1000000001 : Int64))), .second, .unset, .unset, .unset, .unset, .unset, .unset, .unset, .unset, .unset, .unset] [])
  generalize hx12_20 : (qc % (1000000001 : Int64)) = x12_20
  show own_G p e below Φ s₁ (mkF m 22 #[.val (.long qa), .second, .val (.long qb), .second, .val (.long qc), .second, .val (.long qd), .second, .val (.long x8_5), .second, .val (.long x10_12), .second, .val (.long x12_20), .second, .unset, .unset, .unset, .unset, .unset, .unset, .unset, .unset, .unset, .unset] [])
  refine own_go (fun _ => XS.lload X0.here hx rfl (hb hby at_22) rfl) ?_
  show own_G p e below Φ s₁ (mkF m 24 #[.val (.long qa), .second, .val (.long qb), .second, .val (.long qc), .second, .val (.long qd), .second, .val (.long x8_5), .second, .val (.long x10_12), .second, .val (.long x12_20), .second, .unset, .unset, .unset, .unset, .unset, .unset, .unset, .unset, .unset, .unset] [(.long qd)])
  refine own_go (fun _ => X0.ldc2Long hx hown (mvT hZ (wd_0 hw)) (g := (mkF m 24 #[.val (.long qa), .second, .val (.long qb), .second, .val (.long qc), .second, .val (.long qd), .second, .val (.long x8_5), .second, .val (.long x10_12), .second, .val (.long x12_20), .second, .unset, .unset, .unset, .unset, .unset, .unset, .unset, .unset, .unset, .unset] [(.long qd)])) rfl (hb hby at_24) _) ?_
  show own_G p e below Φ s₁ (mkF m 27 #[.val (.long qa), .second, .val (.long qb), .second, .val (.long qc), .second, .val (.long qd), .second, .val (.long x8_5), .second, .val (.long x10_12), .second, .val (.long x12_20), .second, .unset, .unset, .unset, .unset, .unset, .unset, .unset, .unset, .unset, .unset] [(.long (1000000001 : Int64)), (.long qd)])
  refine own_go (fun _ => own_lremM X0 hx rfl (hb hby at_27) rfl (by decide)) ?_
  show own_G p e below Φ s₁ (mkF m 28 #[.val (.long qa), .second, .val (.long qb), .second, .val (.long qc), .second, .val (.long qd), .second, .val (.long x8_5), .second, .val (.long x10_12), .second, .val (.long x12_20), .second, .unset, .unset, .unset, .unset, .unset, .unset, .unset, .unset, .unset, .unset] [(.long (qd % (1000000001 : Int64)))])
  refine own_go (fun _ => XS.lstore X0.here hx rfl (hb hby at_28) rfl (l' := #[.val (.long qa), .second, .val (.long qb), .second, .val (.long qc), .second, .val (.long qd), .second, .val (.long x8_5), .second, .val (.long x10_12), .second, .val (.long x12_20), .second, .val (.long (qd % (1000000001 : Int64))), .second, .unset, .unset, .unset, .unset, .unset, .unset, .unset, .unset]) rfl) ?_
  show own_G p e below Φ s₁ (mkF m 30 #[.val (.long qa), .second, .val (.long qb), .second, .val (.long qc), .second, .val (.long qd), .second, .val (.long x8_5), .second, .val (.long x10_12), .second, .val (.long x12_20), .second, .val (.long (qd % (1000000001 : Int64))), .second, .unset, .unset, .unset, .unset, .unset, .unset, .unset, .unset] [])
  generalize hx14_28 : (qd % (1000000001 : Int64)) = x14_28
  show own_G p e below Φ s₁ (mkF m 30 #[.val (.long qa), .second, .val (.long qb), .second, .val (.long qc), .second, .val (.long qd), .second, .val (.long x8_5), .second, .val (.long x10_12), .second, .val (.long x12_20), .second, .val (.long x14_28), .second, .unset, .unset, .unset, .unset, .unset, .unset, .unset, .unset] [])
  obtain ⟨T1, h1, X1, e1, E1, A1, D1, -, st1⟩ := newO X0 hx hZ hown (wd_1 hw) (wd_2 hw) (wd_3 hw) e0 (g := (mkF m 30 #[.val (.long qa), .second, .val (.long qb), .second, .val (.long qc), .second, .val (.long qd), .second, .val (.long x8_5), .second, .val (.long x10_12), .second, .val (.long x12_20), .second, .val (.long x14_28), .second, .unset, .unset, .unset, .unset, .unset, .unset, .unset, .unset] [])) rfl (hb hby at_30) (by decide) (by decide)
  obtain ⟨ob1, g1⟩ : ∃ z, z = h0.size := ⟨_, rfl⟩
  rw [← g1] at A1 D1 st1
  have g_ob1 : n0 ≤ ob1 := Nat.le_trans Z0 (Nat.le_of_eq g1.symm)
  have Zp1 : n0 ≤ h1.size := Nat.le_trans Z0 E1.1
  refine own_go st1 ?_
  have F_x_ob1 : Fld Z h1 ob1 "com/example/fairhail/fairhail/core/Point" "x" "J" (.long (0 : Int64)) := D1 (Or.inr (wd_21 hw)) (ty := .long) (by decide)
  have F_y_ob1 : Fld Z h1 ob1 "com/example/fairhail/fairhail/core/Point" "y" "J" (.long (0 : Int64)) := D1 (Or.inr (wd_23 hw)) (ty := .long) (by decide)
  show own_G p e below Φ T1 (mkF m 33 #[.val (.long qa), .second, .val (.long qb), .second, .val (.long qc), .second, .val (.long qd), .second, .val (.long x8_5), .second, .val (.long x10_12), .second, .val (.long x12_20), .second, .val (.long x14_28), .second, .unset, .unset, .unset, .unset, .unset, .unset, .unset, .unset] [(.ref ob1)])
  refine own_go (fun _ => XS.dup X1.here hx rfl (hb hby at_33) rfl rfl) ?_
  show own_G p e below Φ T1 (mkF m 34 #[.val (.long qa), .second, .val (.long qb), .second, .val (.long qc), .second, .val (.long qd), .second, .val (.long x8_5), .second, .val (.long x10_12), .second, .val (.long x12_20), .second, .val (.long x14_28), .second, .unset, .unset, .unset, .unset, .unset, .unset, .unset, .unset] [(.ref ob1), (.ref ob1)])
  refine own_go (fun _ => XS.lload X1.here hx rfl (hb hby at_34) rfl) ?_
  show own_G p e below Φ T1 (mkF m 36 #[.val (.long qa), .second, .val (.long qb), .second, .val (.long qc), .second, .val (.long qd), .second, .val (.long x8_5), .second, .val (.long x10_12), .second, .val (.long x12_20), .second, .val (.long x14_28), .second, .unset, .unset, .unset, .unset, .unset, .unset, .unset, .unset] [(.long x8_5), (.ref ob1), (.ref ob1)])
  refine own_go (fun _ => XS.lload X1.here hx rfl (hb hby at_36) rfl) ?_
  show own_G p e below Φ T1 (mkF m 38 #[.val (.long qa), .second, .val (.long qb), .second, .val (.long qc), .second, .val (.long qd), .second, .val (.long x8_5), .second, .val (.long x10_12), .second, .val (.long x12_20), .second, .val (.long x14_28), .second, .unset, .unset, .unset, .unset, .unset, .unset, .unset, .unset] [(.long x10_12), (.long x8_5), (.ref ob1), (.ref ob1)])
  obtain ⟨_, _, ⟨T2, zL2, zk2, zn2⟩, -, X2, ⟨Lc2, hQ2, l2, y2, z2⟩, st2⟩ := X1.specialBack hx (y := (⟨"com/example/fairhail/fairhail/core/Point", "<init>", "(JJ)V"⟩ : MethodName)) rfl hown (mvT hZ (wd_4 hw)) (mvT hZ (wd_5 hw)) (mvT hZ (wd_6 hw)) (by decide) (backOf (W := 1) (rm1 l Z a0 hw [] ob1 x8_5 x10_12 (.long (0 : Int64)) (.long (0 : Int64)) h1 n0 Zp1 A1 F_x_ob1 F_y_ob1 g_ob1 (own_ok hx8_5) (own_ok hx10_12)) hZ (wd_6 hw) (wd_3 hw) (by decide) (by decide)) (g := (mkF m 38 #[.val (.long qa), .second, .val (.long qb), .second, .val (.long qc), .second, .val (.long qd), .second, .val (.long x8_5), .second, .val (.long x10_12), .second, .val (.long x12_20), .second, .val (.long x14_28), .second, .unset, .unset, .unset, .unset, .unset, .unset, .unset, .unset] [(.long x10_12), (.long x8_5), (.ref ob1), (.ref ob1)])) rfl (by rw [hml]; rfl) (Steps.refl _) (a := ob1) (argsL := [(.long x8_5), (.long x10_12)]) (rest := [(.ref ob1)]) (lenOf pd_2 rfl) rfl (by show 2 * 0 + _ ≤ _; exact Nat.le_of_eq rfl) (hb hby at_38) (fun _ _ => ⟨rfl, e1, (by decide : 1 + 0 ≤ _), (by decide : 2 + 0 ≤ _)⟩)
  dsimp only [Pt.U, Pt.locs, Pt.cells, Pt.slots] at X2 l2 y2 z2 st2 hQ2
  subst l2 y2 z2
  obtain ⟨rfl, N2q, Kq2, p2_0, p2_1, p2_2⟩ := hQ2
  have N2 := Fr.app N0 N2q
  refine own_on st2 ?_
  have Zp2 : n0 ≤ T2.heap.size := Nat.le_trans Zp1 Kq2.1
  show own_G p e below Φ T2 (mkF m 41 #[.val (.long qa), .second, .val (.long qb), .second, .val (.long qc), .second, .val (.long qd), .second, .val (.long x8_5), .second, .val (.long x10_12), .second, .val (.long x12_20), .second, .val (.long x14_28), .second, .unset, .unset, .unset, .unset, .unset, .unset, .unset, .unset] [(.ref ob1)])
  refine own_go (fun _ => XS.astore X2.here hx rfl (hb hby at_41) rfl rfl (l' := #[.val (.long qa), .second, .val (.long qb), .second, .val (.long qc), .second, .val (.long qd), .second, .val (.long x8_5), .second, .val (.long x10_12), .second, .val (.long x12_20), .second, .val (.long x14_28), .second, .val (.ref ob1), .unset, .unset, .unset, .unset, .unset, .unset, .unset]) rfl) ?_
  show own_G p e below Φ T2 (mkF m 43 #[.val (.long qa), .second, .val (.long qb), .second, .val (.long qc), .second, .val (.long qd), .second, .val (.long x8_5), .second, .val (.long x10_12), .second, .val (.long x12_20), .second, .val (.long x14_28), .second, .val (.ref ob1), .unset, .unset, .unset, .unset, .unset, .unset, .unset] [])
  obtain ⟨T3, h3, X3, e3, E3, A3, D3, -, st3⟩ := newO X2 hx hZ hown (wd_1 hw) (wd_2 hw) (wd_3 hw) rfl (g := (mkF m 43 #[.val (.long qa), .second, .val (.long qb), .second, .val (.long qc), .second, .val (.long qd), .second, .val (.long x8_5), .second, .val (.long x10_12), .second, .val (.long x12_20), .second, .val (.long x14_28), .second, .val (.ref ob1), .unset, .unset, .unset, .unset, .unset, .unset, .unset] [])) rfl (hb hby at_43) (by decide) (by decide)
  obtain ⟨ob3, g3⟩ : ∃ z, z = T2.heap.size := ⟨_, rfl⟩
  rw [← g3] at A3 D3 st3
  have ne_ob1_ob3 : ob1 ≠ ob3 := Nat.ne_of_lt (Nat.lt_of_lt_of_le p2_0.lt (Nat.le_of_eq g3.symm))
  have g_ob3 : n0 ≤ ob3 := Nat.le_trans Zp2 (Nat.le_of_eq g3.symm)
  have Zp3 : n0 ≤ h3.size := Nat.le_trans Zp2 E3.1
  refine own_go st3 ?_
  have F_x_ob3 : Fld Z h3 ob3 "com/example/fairhail/fairhail/core/Point" "x" "J" (.long (0 : Int64)) := D3 (Or.inr (wd_21 hw)) (ty := .long) (by decide)
  have F_y_ob3 : Fld Z h3 ob3 "com/example/fairhail/fairhail/core/Point" "y" "J" (.long (0 : Int64)) := D3 (Or.inr (wd_23 hw)) (ty := .long) (by decide)
  show own_G p e below Φ T3 (mkF m 46 #[.val (.long qa), .second, .val (.long qb), .second, .val (.long qc), .second, .val (.long qd), .second, .val (.long x8_5), .second, .val (.long x10_12), .second, .val (.long x12_20), .second, .val (.long x14_28), .second, .val (.ref ob1), .unset, .unset, .unset, .unset, .unset, .unset, .unset] [(.ref ob3)])
  refine own_go (fun _ => XS.dup X3.here hx rfl (hb hby at_46) rfl rfl) ?_
  show own_G p e below Φ T3 (mkF m 47 #[.val (.long qa), .second, .val (.long qb), .second, .val (.long qc), .second, .val (.long qd), .second, .val (.long x8_5), .second, .val (.long x10_12), .second, .val (.long x12_20), .second, .val (.long x14_28), .second, .val (.ref ob1), .unset, .unset, .unset, .unset, .unset, .unset, .unset] [(.ref ob3), (.ref ob3)])
  refine own_go (fun _ => XS.lload X3.here hx rfl (hb hby at_47) rfl) ?_
  show own_G p e below Φ T3 (mkF m 49 #[.val (.long qa), .second, .val (.long qb), .second, .val (.long qc), .second, .val (.long qd), .second, .val (.long x8_5), .second, .val (.long x10_12), .second, .val (.long x12_20), .second, .val (.long x14_28), .second, .val (.ref ob1), .unset, .unset, .unset, .unset, .unset, .unset, .unset] [(.long x12_20), (.ref ob3), (.ref ob3)])
  refine own_go (fun _ => XS.lload X3.here hx rfl (hb hby at_49) rfl) ?_
  show own_G p e below Φ T3 (mkF m 51 #[.val (.long qa), .second, .val (.long qb), .second, .val (.long qc), .second, .val (.long qd), .second, .val (.long x8_5), .second, .val (.long x10_12), .second, .val (.long x12_20), .second, .val (.long x14_28), .second, .val (.ref ob1), .unset, .unset, .unset, .unset, .unset, .unset, .unset] [(.long x14_28), (.long x12_20), (.ref ob3), (.ref ob3)])
  obtain ⟨_, _, ⟨T4, zL4, zk4, zn4⟩, -, X4, ⟨Lc4, hQ4, l4, y4, z4⟩, st4⟩ := X3.specialBack hx (y := (⟨"com/example/fairhail/fairhail/core/Point", "<init>", "(JJ)V"⟩ : MethodName)) rfl hown (mvT hZ (wd_4 hw)) (mvT hZ (wd_5 hw)) (mvT hZ (wd_6 hw)) (by decide) (backOf (W := 1) (rm1 l Z a0 hw [] ob3 x12_20 x14_28 (.long (0 : Int64)) (.long (0 : Int64)) h3 n0 Zp3 A3 F_x_ob3 F_y_ob3 g_ob3 (own_ok hx12_20) (own_ok hx14_28)) hZ (wd_6 hw) (wd_3 hw) (by decide) (by decide)) (g := (mkF m 51 #[.val (.long qa), .second, .val (.long qb), .second, .val (.long qc), .second, .val (.long qd), .second, .val (.long x8_5), .second, .val (.long x10_12), .second, .val (.long x12_20), .second, .val (.long x14_28), .second, .val (.ref ob1), .unset, .unset, .unset, .unset, .unset, .unset, .unset] [(.long x14_28), (.long x12_20), (.ref ob3), (.ref ob3)])) rfl (by rw [hml]; rfl) (Steps.refl _) (a := ob3) (argsL := [(.long x12_20), (.long x14_28)]) (rest := [(.ref ob3)]) (lenOf pd_2 rfl) rfl (by show 2 * 0 + _ ≤ _; exact Nat.le_of_eq rfl) (hb hby at_51) (fun _ _ => ⟨rfl, e3, (by decide : 2 + 0 ≤ _), (by decide : 4 + 0 ≤ _)⟩)
  dsimp only [Pt.U, Pt.locs, Pt.cells, Pt.slots] at X4 l4 y4 z4 st4 hQ4
  subst l4 y4 z4
  obtain ⟨rfl, N4q, Kq4, p4_0, p4_1, p4_2⟩ := hQ4
  have N4 := Fr.app N2 N4q
  refine own_on st4 ?_
  have Zp4 : n0 ≤ T4.heap.size := Nat.le_trans Zp3 Kq4.1
  show own_G p e below Φ T4 (mkF m 54 #[.val (.long qa), .second, .val (.long qb), .second, .val (.long qc), .second, .val (.long qd), .second, .val (.long x8_5), .second, .val (.long x10_12), .second, .val (.long x12_20), .second, .val (.long x14_28), .second, .val (.ref ob1), .unset, .unset, .unset, .unset, .unset, .unset, .unset] [(.ref ob3)])
  refine own_go (fun _ => XS.astore X4.here hx rfl (hb hby at_54) rfl rfl (l' := #[.val (.long qa), .second, .val (.long qb), .second, .val (.long qc), .second, .val (.long qd), .second, .val (.long x8_5), .second, .val (.long x10_12), .second, .val (.long x12_20), .second, .val (.long x14_28), .second, .val (.ref ob1), .val (.ref ob3), .unset, .unset, .unset, .unset, .unset, .unset]) rfl) ?_
  show own_G p e below Φ T4 (mkF m 56 #[.val (.long qa), .second, .val (.long qb), .second, .val (.long qc), .second, .val (.long qd), .second, .val (.long x8_5), .second, .val (.long x10_12), .second, .val (.long x12_20), .second, .val (.long x14_28), .second, .val (.ref ob1), .val (.ref ob3), .unset, .unset, .unset, .unset, .unset, .unset] [])
  refine own_go (fun _ => XS.lload X4.here hx rfl (hb hby at_56) rfl) ?_
  show own_G p e below Φ T4 (mkF m 58 #[.val (.long qa), .second, .val (.long qb), .second, .val (.long qc), .second, .val (.long qd), .second, .val (.long x8_5), .second, .val (.long x10_12), .second, .val (.long x12_20), .second, .val (.long x14_28), .second, .val (.ref ob1), .val (.ref ob3), .unset, .unset, .unset, .unset, .unset, .unset] [(.long x8_5)])
  refine own_go (fun _ => XS.lload X4.here hx rfl (hb hby at_58) rfl) ?_
  show own_G p e below Φ T4 (mkF m 60 #[.val (.long qa), .second, .val (.long qb), .second, .val (.long qc), .second, .val (.long qd), .second, .val (.long x8_5), .second, .val (.long x10_12), .second, .val (.long x12_20), .second, .val (.long x14_28), .second, .val (.ref ob1), .val (.ref ob3), .unset, .unset, .unset, .unset, .unset, .unset] [(.long x8_5), (.long x8_5)])
  refine own_go (fun _ => XS.lmul X4.here hx rfl (hb hby at_60) rfl) ?_
  show own_G p e below Φ T4 (mkF m 61 #[.val (.long qa), .second, .val (.long qb), .second, .val (.long qc), .second, .val (.long qd), .second, .val (.long x8_5), .second, .val (.long x10_12), .second, .val (.long x12_20), .second, .val (.long x14_28), .second, .val (.ref ob1), .val (.ref ob3), .unset, .unset, .unset, .unset, .unset, .unset] [(.long (x8_5 * x8_5))])
  refine own_go (fun _ => XS.lload X4.here hx rfl (hb hby at_61) rfl) ?_
  show own_G p e below Φ T4 (mkF m 63 #[.val (.long qa), .second, .val (.long qb), .second, .val (.long qc), .second, .val (.long qd), .second, .val (.long x8_5), .second, .val (.long x10_12), .second, .val (.long x12_20), .second, .val (.long x14_28), .second, .val (.ref ob1), .val (.ref ob3), .unset, .unset, .unset, .unset, .unset, .unset] [(.long x12_20), (.long (x8_5 * x8_5))])
  refine own_go (fun _ => XS.lload X4.here hx rfl (hb hby at_63) rfl) ?_
  show own_G p e below Φ T4 (mkF m 65 #[.val (.long qa), .second, .val (.long qb), .second, .val (.long qc), .second, .val (.long qd), .second, .val (.long x8_5), .second, .val (.long x10_12), .second, .val (.long x12_20), .second, .val (.long x14_28), .second, .val (.ref ob1), .val (.ref ob3), .unset, .unset, .unset, .unset, .unset, .unset] [(.long x12_20), (.long x12_20), (.long (x8_5 * x8_5))])
  refine own_go (fun _ => XS.lmul X4.here hx rfl (hb hby at_65) rfl) ?_
  show own_G p e below Φ T4 (mkF m 66 #[.val (.long qa), .second, .val (.long qb), .second, .val (.long qc), .second, .val (.long qd), .second, .val (.long x8_5), .second, .val (.long x10_12), .second, .val (.long x12_20), .second, .val (.long x14_28), .second, .val (.ref ob1), .val (.ref ob3), .unset, .unset, .unset, .unset, .unset, .unset] [(.long (x12_20 * x12_20)), (.long (x8_5 * x8_5))])
  refine own_go (fun _ => XS.ladd X4.here hx rfl (hb hby at_66) rfl) ?_
  show own_G p e below Φ T4 (mkF m 67 #[.val (.long qa), .second, .val (.long qb), .second, .val (.long qc), .second, .val (.long qd), .second, .val (.long x8_5), .second, .val (.long x10_12), .second, .val (.long x12_20), .second, .val (.long x14_28), .second, .val (.ref ob1), .val (.ref ob3), .unset, .unset, .unset, .unset, .unset, .unset] [(.long ((x8_5 * x8_5) + (x12_20 * x12_20)))])
  refine own_go (fun _ => X4.ldc2Long hx hown (mvT hZ (wd_24 hw)) (g := (mkF m 67 #[.val (.long qa), .second, .val (.long qb), .second, .val (.long qc), .second, .val (.long qd), .second, .val (.long x8_5), .second, .val (.long x10_12), .second, .val (.long x12_20), .second, .val (.long x14_28), .second, .val (.ref ob1), .val (.ref ob3), .unset, .unset, .unset, .unset, .unset, .unset] [(.long ((x8_5 * x8_5) + (x12_20 * x12_20)))])) rfl (hb hby at_67) _) ?_
  show own_G p e below Φ T4 (mkF m 70 #[.val (.long qa), .second, .val (.long qb), .second, .val (.long qc), .second, .val (.long qd), .second, .val (.long x8_5), .second, .val (.long x10_12), .second, .val (.long x12_20), .second, .val (.long x14_28), .second, .val (.ref ob1), .val (.ref ob3), .unset, .unset, .unset, .unset, .unset, .unset] [(.long (2 : Int64)), (.long ((x8_5 * x8_5) + (x12_20 * x12_20)))])
  refine own_go (fun _ => XS.lload X4.here hx rfl (hb hby at_70) rfl) ?_
  show own_G p e below Φ T4 (mkF m 72 #[.val (.long qa), .second, .val (.long qb), .second, .val (.long qc), .second, .val (.long qd), .second, .val (.long x8_5), .second, .val (.long x10_12), .second, .val (.long x12_20), .second, .val (.long x14_28), .second, .val (.ref ob1), .val (.ref ob3), .unset, .unset, .unset, .unset, .unset, .unset] [(.long x8_5), (.long (2 : Int64)), (.long ((x8_5 * x8_5) + (x12_20 * x12_20)))])
  refine own_go (fun _ => XS.lmul X4.here hx rfl (hb hby at_72) rfl) ?_
  show own_G p e below Φ T4 (mkF m 73 #[.val (.long qa), .second, .val (.long qb), .second, .val (.long qc), .second, .val (.long qd), .second, .val (.long x8_5), .second, .val (.long x10_12), .second, .val (.long x12_20), .second, .val (.long x14_28), .second, .val (.ref ob1), .val (.ref ob3), .unset, .unset, .unset, .unset, .unset, .unset] [(.long ((2 : Int64) * x8_5)), (.long ((x8_5 * x8_5) + (x12_20 * x12_20)))])
  refine own_go (fun _ => XS.lload X4.here hx rfl (hb hby at_73) rfl) ?_
  show own_G p e below Φ T4 (mkF m 75 #[.val (.long qa), .second, .val (.long qb), .second, .val (.long qc), .second, .val (.long qd), .second, .val (.long x8_5), .second, .val (.long x10_12), .second, .val (.long x12_20), .second, .val (.long x14_28), .second, .val (.ref ob1), .val (.ref ob3), .unset, .unset, .unset, .unset, .unset, .unset] [(.long x12_20), (.long ((2 : Int64) * x8_5)), (.long ((x8_5 * x8_5) + (x12_20 * x12_20)))])
  refine own_go (fun _ => XS.lmul X4.here hx rfl (hb hby at_75) rfl) ?_
  show own_G p e below Φ T4 (mkF m 76 #[.val (.long qa), .second, .val (.long qb), .second, .val (.long qc), .second, .val (.long qd), .second, .val (.long x8_5), .second, .val (.long x10_12), .second, .val (.long x12_20), .second, .val (.long x14_28), .second, .val (.ref ob1), .val (.ref ob3), .unset, .unset, .unset, .unset, .unset, .unset] [(.long (((2 : Int64) * x8_5) * x12_20)), (.long ((x8_5 * x8_5) + (x12_20 * x12_20)))])
  refine own_go (fun _ => XS.lsub X4.here hx rfl (hb hby at_76) rfl) ?_
  show own_G p e below Φ T4 (mkF m 77 #[.val (.long qa), .second, .val (.long qb), .second, .val (.long qc), .second, .val (.long qd), .second, .val (.long x8_5), .second, .val (.long x10_12), .second, .val (.long x12_20), .second, .val (.long x14_28), .second, .val (.ref ob1), .val (.ref ob3), .unset, .unset, .unset, .unset, .unset, .unset] [(.long (((x8_5 * x8_5) + (x12_20 * x12_20)) - (((2 : Int64) * x8_5) * x12_20)))])
  refine own_go (fun _ => XS.lstore X4.here hx rfl (hb hby at_77) rfl (l' := #[.val (.long qa), .second, .val (.long qb), .second, .val (.long qc), .second, .val (.long qd), .second, .val (.long x8_5), .second, .val (.long x10_12), .second, .val (.long x12_20), .second, .val (.long x14_28), .second, .val (.ref ob1), .val (.ref ob3), .val (.long (((x8_5 * x8_5) + (x12_20 * x12_20)) - (((2 : Int64) * x8_5) * x12_20))), .second, .unset, .unset, .unset, .unset]) rfl) ?_
  show own_G p e below Φ T4 (mkF m 79 #[.val (.long qa), .second, .val (.long qb), .second, .val (.long qc), .second, .val (.long qd), .second, .val (.long x8_5), .second, .val (.long x10_12), .second, .val (.long x12_20), .second, .val (.long x14_28), .second, .val (.ref ob1), .val (.ref ob3), .val (.long (((x8_5 * x8_5) + (x12_20 * x12_20)) - (((2 : Int64) * x8_5) * x12_20))), .second, .unset, .unset, .unset, .unset] [])
  generalize hx18_77 : (((x8_5 * x8_5) + (x12_20 * x12_20)) - (((2 : Int64) * x8_5) * x12_20)) = x18_77
  show own_G p e below Φ T4 (mkF m 79 #[.val (.long qa), .second, .val (.long qb), .second, .val (.long qc), .second, .val (.long qd), .second, .val (.long x8_5), .second, .val (.long x10_12), .second, .val (.long x12_20), .second, .val (.long x14_28), .second, .val (.ref ob1), .val (.ref ob3), .val (.long x18_77), .second, .unset, .unset, .unset, .unset] [])
  refine own_go (fun _ => XS.lload X4.here hx rfl (hb hby at_79) rfl) ?_
  show own_G p e below Φ T4 (mkF m 81 #[.val (.long qa), .second, .val (.long qb), .second, .val (.long qc), .second, .val (.long qd), .second, .val (.long x8_5), .second, .val (.long x10_12), .second, .val (.long x12_20), .second, .val (.long x14_28), .second, .val (.ref ob1), .val (.ref ob3), .val (.long x18_77), .second, .unset, .unset, .unset, .unset] [(.long x10_12)])
  refine own_go (fun _ => XS.lload X4.here hx rfl (hb hby at_81) rfl) ?_
  show own_G p e below Φ T4 (mkF m 83 #[.val (.long qa), .second, .val (.long qb), .second, .val (.long qc), .second, .val (.long qd), .second, .val (.long x8_5), .second, .val (.long x10_12), .second, .val (.long x12_20), .second, .val (.long x14_28), .second, .val (.ref ob1), .val (.ref ob3), .val (.long x18_77), .second, .unset, .unset, .unset, .unset] [(.long x10_12), (.long x10_12)])
  refine own_go (fun _ => XS.lmul X4.here hx rfl (hb hby at_83) rfl) ?_
  show own_G p e below Φ T4 (mkF m 84 #[.val (.long qa), .second, .val (.long qb), .second, .val (.long qc), .second, .val (.long qd), .second, .val (.long x8_5), .second, .val (.long x10_12), .second, .val (.long x12_20), .second, .val (.long x14_28), .second, .val (.ref ob1), .val (.ref ob3), .val (.long x18_77), .second, .unset, .unset, .unset, .unset] [(.long (x10_12 * x10_12))])
  refine own_go (fun _ => XS.lload X4.here hx rfl (hb hby at_84) rfl) ?_
  show own_G p e below Φ T4 (mkF m 86 #[.val (.long qa), .second, .val (.long qb), .second, .val (.long qc), .second, .val (.long qd), .second, .val (.long x8_5), .second, .val (.long x10_12), .second, .val (.long x12_20), .second, .val (.long x14_28), .second, .val (.ref ob1), .val (.ref ob3), .val (.long x18_77), .second, .unset, .unset, .unset, .unset] [(.long x14_28), (.long (x10_12 * x10_12))])
  refine own_go (fun _ => XS.lload X4.here hx rfl (hb hby at_86) rfl) ?_
  show own_G p e below Φ T4 (mkF m 88 #[.val (.long qa), .second, .val (.long qb), .second, .val (.long qc), .second, .val (.long qd), .second, .val (.long x8_5), .second, .val (.long x10_12), .second, .val (.long x12_20), .second, .val (.long x14_28), .second, .val (.ref ob1), .val (.ref ob3), .val (.long x18_77), .second, .unset, .unset, .unset, .unset] [(.long x14_28), (.long x14_28), (.long (x10_12 * x10_12))])
  refine own_go (fun _ => XS.lmul X4.here hx rfl (hb hby at_88) rfl) ?_
  show own_G p e below Φ T4 (mkF m 89 #[.val (.long qa), .second, .val (.long qb), .second, .val (.long qc), .second, .val (.long qd), .second, .val (.long x8_5), .second, .val (.long x10_12), .second, .val (.long x12_20), .second, .val (.long x14_28), .second, .val (.ref ob1), .val (.ref ob3), .val (.long x18_77), .second, .unset, .unset, .unset, .unset] [(.long (x14_28 * x14_28)), (.long (x10_12 * x10_12))])
  refine own_go (fun _ => XS.ladd X4.here hx rfl (hb hby at_89) rfl) ?_
  show own_G p e below Φ T4 (mkF m 90 #[.val (.long qa), .second, .val (.long qb), .second, .val (.long qc), .second, .val (.long qd), .second, .val (.long x8_5), .second, .val (.long x10_12), .second, .val (.long x12_20), .second, .val (.long x14_28), .second, .val (.ref ob1), .val (.ref ob3), .val (.long x18_77), .second, .unset, .unset, .unset, .unset] [(.long ((x10_12 * x10_12) + (x14_28 * x14_28)))])
  refine own_go (fun _ => X4.ldc2Long hx hown (mvT hZ (wd_24 hw)) (g := (mkF m 90 #[.val (.long qa), .second, .val (.long qb), .second, .val (.long qc), .second, .val (.long qd), .second, .val (.long x8_5), .second, .val (.long x10_12), .second, .val (.long x12_20), .second, .val (.long x14_28), .second, .val (.ref ob1), .val (.ref ob3), .val (.long x18_77), .second, .unset, .unset, .unset, .unset] [(.long ((x10_12 * x10_12) + (x14_28 * x14_28)))])) rfl (hb hby at_90) _) ?_
  show own_G p e below Φ T4 (mkF m 93 #[.val (.long qa), .second, .val (.long qb), .second, .val (.long qc), .second, .val (.long qd), .second, .val (.long x8_5), .second, .val (.long x10_12), .second, .val (.long x12_20), .second, .val (.long x14_28), .second, .val (.ref ob1), .val (.ref ob3), .val (.long x18_77), .second, .unset, .unset, .unset, .unset] [(.long (2 : Int64)), (.long ((x10_12 * x10_12) + (x14_28 * x14_28)))])
  refine own_go (fun _ => XS.lload X4.here hx rfl (hb hby at_93) rfl) ?_
  show own_G p e below Φ T4 (mkF m 95 #[.val (.long qa), .second, .val (.long qb), .second, .val (.long qc), .second, .val (.long qd), .second, .val (.long x8_5), .second, .val (.long x10_12), .second, .val (.long x12_20), .second, .val (.long x14_28), .second, .val (.ref ob1), .val (.ref ob3), .val (.long x18_77), .second, .unset, .unset, .unset, .unset] [(.long x10_12), (.long (2 : Int64)), (.long ((x10_12 * x10_12) + (x14_28 * x14_28)))])
  refine own_go (fun _ => XS.lmul X4.here hx rfl (hb hby at_95) rfl) ?_
  show own_G p e below Φ T4 (mkF m 96 #[.val (.long qa), .second, .val (.long qb), .second, .val (.long qc), .second, .val (.long qd), .second, .val (.long x8_5), .second, .val (.long x10_12), .second, .val (.long x12_20), .second, .val (.long x14_28), .second, .val (.ref ob1), .val (.ref ob3), .val (.long x18_77), .second, .unset, .unset, .unset, .unset] [(.long ((2 : Int64) * x10_12)), (.long ((x10_12 * x10_12) + (x14_28 * x14_28)))])
  refine own_go (fun _ => XS.lload X4.here hx rfl (hb hby at_96) rfl) ?_
  show own_G p e below Φ T4 (mkF m 98 #[.val (.long qa), .second, .val (.long qb), .second, .val (.long qc), .second, .val (.long qd), .second, .val (.long x8_5), .second, .val (.long x10_12), .second, .val (.long x12_20), .second, .val (.long x14_28), .second, .val (.ref ob1), .val (.ref ob3), .val (.long x18_77), .second, .unset, .unset, .unset, .unset] [(.long x14_28), (.long ((2 : Int64) * x10_12)), (.long ((x10_12 * x10_12) + (x14_28 * x14_28)))])
  refine own_go (fun _ => XS.lmul X4.here hx rfl (hb hby at_98) rfl) ?_
  show own_G p e below Φ T4 (mkF m 99 #[.val (.long qa), .second, .val (.long qb), .second, .val (.long qc), .second, .val (.long qd), .second, .val (.long x8_5), .second, .val (.long x10_12), .second, .val (.long x12_20), .second, .val (.long x14_28), .second, .val (.ref ob1), .val (.ref ob3), .val (.long x18_77), .second, .unset, .unset, .unset, .unset] [(.long (((2 : Int64) * x10_12) * x14_28)), (.long ((x10_12 * x10_12) + (x14_28 * x14_28)))])
  refine own_go (fun _ => XS.lsub X4.here hx rfl (hb hby at_99) rfl) ?_
  show own_G p e below Φ T4 (mkF m 100 #[.val (.long qa), .second, .val (.long qb), .second, .val (.long qc), .second, .val (.long qd), .second, .val (.long x8_5), .second, .val (.long x10_12), .second, .val (.long x12_20), .second, .val (.long x14_28), .second, .val (.ref ob1), .val (.ref ob3), .val (.long x18_77), .second, .unset, .unset, .unset, .unset] [(.long (((x10_12 * x10_12) + (x14_28 * x14_28)) - (((2 : Int64) * x10_12) * x14_28)))])
  refine own_go (fun _ => XS.lstore X4.here hx rfl (hb hby at_100) rfl (l' := #[.val (.long qa), .second, .val (.long qb), .second, .val (.long qc), .second, .val (.long qd), .second, .val (.long x8_5), .second, .val (.long x10_12), .second, .val (.long x12_20), .second, .val (.long x14_28), .second, .val (.ref ob1), .val (.ref ob3), .val (.long x18_77), .second, .val (.long (((x10_12 * x10_12) + (x14_28 * x14_28)) - (((2 : Int64) * x10_12) * x14_28))), .second, .unset, .unset]) rfl) ?_
  show own_G p e below Φ T4 (mkF m 102 #[.val (.long qa), .second, .val (.long qb), .second, .val (.long qc), .second, .val (.long qd), .second, .val (.long x8_5), .second, .val (.long x10_12), .second, .val (.long x12_20), .second, .val (.long x14_28), .second, .val (.ref ob1), .val (.ref ob3), .val (.long x18_77), .second, .val (.long (((x10_12 * x10_12) + (x14_28 * x14_28)) - (((2 : Int64) * x10_12) * x14_28))), .second, .unset, .unset] [])
  generalize hx20_100 : (((x10_12 * x10_12) + (x14_28 * x14_28)) - (((2 : Int64) * x10_12) * x14_28)) = x20_100
  show own_G p e below Φ T4 (mkF m 102 #[.val (.long qa), .second, .val (.long qb), .second, .val (.long qc), .second, .val (.long qd), .second, .val (.long x8_5), .second, .val (.long x10_12), .second, .val (.long x12_20), .second, .val (.long x14_28), .second, .val (.ref ob1), .val (.ref ob3), .val (.long x18_77), .second, .val (.long x20_100), .second, .unset, .unset] [])
  refine own_go (fun _ => XS.lload X4.here hx rfl (hb hby at_102) rfl) ?_
  show own_G p e below Φ T4 (mkF m 104 #[.val (.long qa), .second, .val (.long qb), .second, .val (.long qc), .second, .val (.long qd), .second, .val (.long x8_5), .second, .val (.long x10_12), .second, .val (.long x12_20), .second, .val (.long x14_28), .second, .val (.ref ob1), .val (.ref ob3), .val (.long x18_77), .second, .val (.long x20_100), .second, .unset, .unset] [(.long x18_77)])
  refine own_go (fun _ => XS.lload X4.here hx rfl (hb hby at_104) rfl) ?_
  show own_G p e below Φ T4 (mkF m 106 #[.val (.long qa), .second, .val (.long qb), .second, .val (.long qc), .second, .val (.long qd), .second, .val (.long x8_5), .second, .val (.long x10_12), .second, .val (.long x12_20), .second, .val (.long x14_28), .second, .val (.ref ob1), .val (.ref ob3), .val (.long x18_77), .second, .val (.long x20_100), .second, .unset, .unset] [(.long x20_100), (.long x18_77)])
  refine own_go (fun _ => XS.ladd X4.here hx rfl (hb hby at_106) rfl) ?_
  show own_G p e below Φ T4 (mkF m 107 #[.val (.long qa), .second, .val (.long qb), .second, .val (.long qc), .second, .val (.long qd), .second, .val (.long x8_5), .second, .val (.long x10_12), .second, .val (.long x12_20), .second, .val (.long x14_28), .second, .val (.ref ob1), .val (.ref ob3), .val (.long x18_77), .second, .val (.long x20_100), .second, .unset, .unset] [(.long (x18_77 + x20_100))])
  refine own_go (fun _ => XS.lstore X4.here hx rfl (hb hby at_107) rfl (l' := #[.val (.long qa), .second, .val (.long qb), .second, .val (.long qc), .second, .val (.long qd), .second, .val (.long x8_5), .second, .val (.long x10_12), .second, .val (.long x12_20), .second, .val (.long x14_28), .second, .val (.ref ob1), .val (.ref ob3), .val (.long x18_77), .second, .val (.long x20_100), .second, .val (.long (x18_77 + x20_100)), .second]) rfl) ?_
  show own_G p e below Φ T4 (mkF m 109 #[.val (.long qa), .second, .val (.long qb), .second, .val (.long qc), .second, .val (.long qd), .second, .val (.long x8_5), .second, .val (.long x10_12), .second, .val (.long x12_20), .second, .val (.long x14_28), .second, .val (.ref ob1), .val (.ref ob3), .val (.long x18_77), .second, .val (.long x20_100), .second, .val (.long (x18_77 + x20_100)), .second] [])
  refine own_go (fun _ => XS.aload X4.here hx rfl (hb hby at_109) rfl rfl) ?_
  show own_G p e below Φ T4 (mkF m 111 #[.val (.long qa), .second, .val (.long qb), .second, .val (.long qc), .second, .val (.long qd), .second, .val (.long x8_5), .second, .val (.long x10_12), .second, .val (.long x12_20), .second, .val (.long x14_28), .second, .val (.ref ob1), .val (.ref ob3), .val (.long x18_77), .second, .val (.long x20_100), .second, .val (.long (x18_77 + x20_100)), .second] [(.ref ob1)])
  refine own_go (fun _ => XS.aload X4.here hx rfl (hb hby at_111) rfl rfl) ?_
  show own_G p e below Φ T4 (mkF m 113 #[.val (.long qa), .second, .val (.long qb), .second, .val (.long qc), .second, .val (.long qd), .second, .val (.long x8_5), .second, .val (.long x10_12), .second, .val (.long x12_20), .second, .val (.long x14_28), .second, .val (.ref ob1), .val (.ref ob3), .val (.long x18_77), .second, .val (.long x20_100), .second, .val (.long (x18_77 + x20_100)), .second] [(.ref ob3), (.ref ob1)])
  have f5 : Fld Z h3 ob1 "com/example/fairhail/fairhail/core/Point" "x" "J" (.long x8_5) := p2_1.ext E3
  have f6 : Fld Z T4.heap ob1 "com/example/fairhail/fairhail/core/Point" "x" "J" (.long x8_5) := f5.keep Kq4 (ninS ne_ob1_ob3 nin0)
  have f7 : Fld Z h3 ob1 "com/example/fairhail/fairhail/core/Point" "y" "J" (.long x10_12) := p2_2.ext E3
  have f8 : Fld Z T4.heap ob1 "com/example/fairhail/fairhail/core/Point" "y" "J" (.long x10_12) := f7.keep Kq4 (ninS ne_ob1_ob3 nin0)
  have f10 : Exa Z h3 ob1 "com/example/fairhail/fairhail/core/Point" := p2_0.ext E3
  have f11 : Exa Z T4.heap ob1 "com/example/fairhail/fairhail/core/Point" := f10.keep Kq4
  obtain ⟨cq9, kq9, q9a, q9b, q9c⟩ := isOf hZ rfl f11
  obtain ⟨_, _, ⟨T9, zL9, zk9, zn9⟩, -, X9, ⟨Lc9, hQ9, l9, y9, z9⟩, st9⟩ := X4.virtualBack hx (y := (⟨"com/example/fairhail/fairhail/core/Point", "squaredDistanceTo", "(Lcom/example/fairhail/fairhail/core/Point;)J"⟩ : MethodName)) (z := (⟨"com/example/fairhail/fairhail/core/Point", "squaredDistanceTo", "(Lcom/example/fairhail/fairhail/core/Point;)J"⟩ : MethodName)) hown (mvT hZ (wd_25 hw)) (mvT hZ (wd_26 hw)) (notFace_of_selects (args := #[]) (mvT hZ (wd_28 hw))) (mvT hZ (wd_28 hw)) (mvT hZ (wd_27 hw)) (by decide) (backOf (W := 0) (rm5 l Z a0 hw [] ob1 ob3 x8_5 x10_12 x12_20 x14_28 T4.heap n0 Zp4 f6 f8 p4_1 p4_2) hZ (wd_29 hw) (wd_3 hw) (by decide) (by decide)) q9a q9c (g := (mkF m 113 #[.val (.long qa), .second, .val (.long qb), .second, .val (.long qc), .second, .val (.long qd), .second, .val (.long x8_5), .second, .val (.long x10_12), .second, .val (.long x12_20), .second, .val (.long x14_28), .second, .val (.ref ob1), .val (.ref ob3), .val (.long x18_77), .second, .val (.long x20_100), .second, .val (.long (x18_77 + x20_100)), .second] [(.ref ob3), (.ref ob1)])) rfl (by rw [hml]; rfl) (Steps.refl _) (argsL := [(.ref ob3)]) (rest := []) (lenOf pd_3 rfl) rfl (by show 2 * 0 + _ ≤ _; exact Nat.le_of_eq rfl) (hb hby at_113) (fun _ _ => ⟨rfl, rfl, (by decide : 2 + 0 ≤ _), (by decide : 4 + 0 ≤ _)⟩)
  dsimp only [Pt.U, Pt.locs, Pt.cells, Pt.slots] at X9 l9 y9 z9 st9 hQ9
  subst l9 y9 z9
  obtain ⟨rfl, N9q, hs9⟩ := hQ9
  have N9 := Fr.app N4 N9q
  refine own_on st9 ?_
  show own_G p e below Φ T9 (mkF m 116 #[.val (.long qa), .second, .val (.long qb), .second, .val (.long qc), .second, .val (.long qd), .second, .val (.long x8_5), .second, .val (.long x10_12), .second, .val (.long x12_20), .second, .val (.long x14_28), .second, .val (.ref ob1), .val (.ref ob3), .val (.long x18_77), .second, .val (.long x20_100), .second, .val (.long (x18_77 + x20_100)), .second] [(.long (own_sq x8_5 x10_12 x12_20 x14_28))])
  refine own_go (fun _ => XS.lload X9.here hx rfl (hb hby at_116) rfl) ?_
  show own_G p e below Φ T9 (mkF m 118 #[.val (.long qa), .second, .val (.long qb), .second, .val (.long qc), .second, .val (.long qd), .second, .val (.long x8_5), .second, .val (.long x10_12), .second, .val (.long x12_20), .second, .val (.long x14_28), .second, .val (.ref ob1), .val (.ref ob3), .val (.long x18_77), .second, .val (.long x20_100), .second, .val (.long (x18_77 + x20_100)), .second] [(.long (x18_77 + x20_100)), (.long (own_sq x8_5 x10_12 x12_20 x14_28))])
  refine own_go (fun _ => XS.lcmp X9.here hx rfl (hb hby at_118) rfl) ?_
  show own_G p e below Φ T9 (mkF m 119 #[.val (.long qa), .second, .val (.long qb), .second, .val (.long qc), .second, .val (.long qd), .second, .val (.long x8_5), .second, .val (.long x10_12), .second, .val (.long x12_20), .second, .val (.long x14_28), .second, .val (.ref ob1), .val (.ref ob3), .val (.long x18_77), .second, .val (.long x20_100), .second, .val (.long (x18_77 + x20_100)), .second] [(.int (lcmpW (own_sq x8_5 x10_12 x12_20 x14_28) (x18_77 + x20_100)))])
  refine own_go (fun _ => XS.ifNo X9.here hx rfl (hb hby at_119) rfl (Jvm.Free.XT.ll_ne_f (by rw [← hx18_77, ← hx20_100]; exact own_ring _ _ _ _))) ?_
  show own_G p e below Φ T9 (mkF m 122 #[.val (.long qa), .second, .val (.long qb), .second, .val (.long qc), .second, .val (.long qd), .second, .val (.long x8_5), .second, .val (.long x10_12), .second, .val (.long x12_20), .second, .val (.long x14_28), .second, .val (.ref ob1), .val (.ref ob3), .val (.long x18_77), .second, .val (.long x20_100), .second, .val (.long (x18_77 + x20_100)), .second] [])
  refine own_go (fun _ => XS.aload X9.here hx rfl (hb hby at_122) rfl rfl) ?_
  show own_G p e below Φ T9 (mkF m 124 #[.val (.long qa), .second, .val (.long qb), .second, .val (.long qc), .second, .val (.long qd), .second, .val (.long x8_5), .second, .val (.long x10_12), .second, .val (.long x12_20), .second, .val (.long x14_28), .second, .val (.ref ob1), .val (.ref ob3), .val (.long x18_77), .second, .val (.long x20_100), .second, .val (.long (x18_77 + x20_100)), .second] [(.ref ob3)])
  refine own_go (fun _ => XS.aload X9.here hx rfl (hb hby at_124) rfl rfl) ?_
  show own_G p e below Φ T9 (mkF m 126 #[.val (.long qa), .second, .val (.long qb), .second, .val (.long qc), .second, .val (.long qd), .second, .val (.long x8_5), .second, .val (.long x10_12), .second, .val (.long x12_20), .second, .val (.long x14_28), .second, .val (.ref ob1), .val (.ref ob3), .val (.long x18_77), .second, .val (.long x20_100), .second, .val (.long (x18_77 + x20_100)), .second] [(.ref ob1), (.ref ob3)])
  obtain ⟨cq12, kq12, q12a, q12b, q12c⟩ := isOf hZ hs9 p4_0
  obtain ⟨_, _, ⟨T12, zL12, zk12, zn12⟩, -, X12, ⟨Lc12, hQ12, l12, y12, z12⟩, st12⟩ := X9.virtualBack hx (y := (⟨"com/example/fairhail/fairhail/core/Point", "squaredDistanceTo", "(Lcom/example/fairhail/fairhail/core/Point;)J"⟩ : MethodName)) (z := (⟨"com/example/fairhail/fairhail/core/Point", "squaredDistanceTo", "(Lcom/example/fairhail/fairhail/core/Point;)J"⟩ : MethodName)) hown (mvT hZ (wd_25 hw)) (mvT hZ (wd_26 hw)) (notFace_of_selects (args := #[]) (mvT hZ (wd_28 hw))) (mvT hZ (wd_28 hw)) (mvT hZ (wd_27 hw)) (by decide) (backOf (W := 0) (rm5 l Z a0 hw [] ob3 ob1 x12_20 x14_28 x8_5 x10_12 T4.heap n0 Zp4 p4_1 p4_2 f6 f8) hZ (wd_29 hw) (wd_3 hw) (by decide) (by decide)) q12a q12c (g := (mkF m 126 #[.val (.long qa), .second, .val (.long qb), .second, .val (.long qc), .second, .val (.long qd), .second, .val (.long x8_5), .second, .val (.long x10_12), .second, .val (.long x12_20), .second, .val (.long x14_28), .second, .val (.ref ob1), .val (.ref ob3), .val (.long x18_77), .second, .val (.long x20_100), .second, .val (.long (x18_77 + x20_100)), .second] [(.ref ob1), (.ref ob3)])) rfl (by rw [hml]; rfl) (Steps.refl _) (argsL := [(.ref ob1)]) (rest := []) (lenOf pd_3 rfl) rfl (by show 2 * 0 + _ ≤ _; exact Nat.le_of_eq rfl) (hb hby at_126) (fun _ _ => ⟨rfl, hs9, (by decide : 2 + 0 ≤ _), (by decide : 4 + 0 ≤ _)⟩)
  dsimp only [Pt.U, Pt.locs, Pt.cells, Pt.slots] at X12 l12 y12 z12 st12 hQ12
  subst l12 y12 z12
  obtain ⟨rfl, N12q, hs12⟩ := hQ12
  have N12 := Fr.app N9 N12q
  refine own_on st12 ?_
  show own_G p e below Φ T12 (mkF m 129 #[.val (.long qa), .second, .val (.long qb), .second, .val (.long qc), .second, .val (.long qd), .second, .val (.long x8_5), .second, .val (.long x10_12), .second, .val (.long x12_20), .second, .val (.long x14_28), .second, .val (.ref ob1), .val (.ref ob3), .val (.long x18_77), .second, .val (.long x20_100), .second, .val (.long (x18_77 + x20_100)), .second] [(.long (own_sq x12_20 x14_28 x8_5 x10_12))])
  refine own_go (fun _ => XS.lload X12.here hx rfl (hb hby at_129) rfl) ?_
  show own_G p e below Φ T12 (mkF m 131 #[.val (.long qa), .second, .val (.long qb), .second, .val (.long qc), .second, .val (.long qd), .second, .val (.long x8_5), .second, .val (.long x10_12), .second, .val (.long x12_20), .second, .val (.long x14_28), .second, .val (.ref ob1), .val (.ref ob3), .val (.long x18_77), .second, .val (.long x20_100), .second, .val (.long (x18_77 + x20_100)), .second] [(.long (x18_77 + x20_100)), (.long (own_sq x12_20 x14_28 x8_5 x10_12))])
  refine own_go (fun _ => XS.lcmp X12.here hx rfl (hb hby at_131) rfl) ?_
  show own_G p e below Φ T12 (mkF m 132 #[.val (.long qa), .second, .val (.long qb), .second, .val (.long qc), .second, .val (.long qd), .second, .val (.long x8_5), .second, .val (.long x10_12), .second, .val (.long x12_20), .second, .val (.long x14_28), .second, .val (.ref ob1), .val (.ref ob3), .val (.long x18_77), .second, .val (.long x20_100), .second, .val (.long (x18_77 + x20_100)), .second] [(.int (lcmpW (own_sq x12_20 x14_28 x8_5 x10_12) (x18_77 + x20_100)))])
  refine own_go (fun _ => XS.ifNo X12.here hx rfl (hb hby at_132) rfl (Jvm.Free.XT.ll_ne_f (by rw [← hx18_77, ← hx20_100]; exact own_ring' _ _ _ _))) ?_
  show own_G p e below Φ T12 (mkF m 135 #[.val (.long qa), .second, .val (.long qb), .second, .val (.long qc), .second, .val (.long qd), .second, .val (.long x8_5), .second, .val (.long x10_12), .second, .val (.long x12_20), .second, .val (.long x14_28), .second, .val (.ref ob1), .val (.ref ob3), .val (.long x18_77), .second, .val (.long x20_100), .second, .val (.long (x18_77 + x20_100)), .second] [])
  refine own_go (fun _ => XS.iconst X12.here hx rfl (hb hby at_135)) ?_
  show own_G p e below Φ T12 (mkF m 136 #[.val (.long qa), .second, .val (.long qb), .second, .val (.long qc), .second, .val (.long qd), .second, .val (.long x8_5), .second, .val (.long x10_12), .second, .val (.long x12_20), .second, .val (.long x14_28), .second, .val (.ref ob1), .val (.ref ob3), .val (.long x18_77), .second, .val (.long x20_100), .second, .val (.long (x18_77 + x20_100)), .second] [(.int (1 : Int32))])
  refine own_go (fun _ => XS.goto X12.here hx rfl (pc0 := 136) (pc' := 140) rfl (hb hby at_136) (by decide) (by decide)) ?_
  show own_G p e below Φ T12 (mkF m 140 #[.val (.long qa), .second, .val (.long qb), .second, .val (.long qc), .second, .val (.long qd), .second, .val (.long x8_5), .second, .val (.long x10_12), .second, .val (.long x12_20), .second, .val (.long x14_28), .second, .val (.ref ob1), .val (.ref ob3), .val (.long x18_77), .second, .val (.long x20_100), .second, .val (.long (x18_77 + x20_100)), .second] [(.int (1 : Int32))])
  rw [hΦ]
  refine own_ret X12 (v := some (.int (1 : Int32))) (fun h => by rw [Bd.returns] at h; cases h) (BodyLoose.notSynchronized Bd) (fun fs hr => retN X12 hx (t := .boolean) Bd.returns (by simp) (hb hby at_140) hr) ?_ (by decide) (by decide)
  rw [hs12]
  exact ⟨rfl, N12⟩
set_option maxRecDepth 65536 in
set_option maxHeartbeats 40000000 in
theorem comes_1 {Post : Tables → Env → Array Value → State → Outcome → State → Prop} (hpost : ∀ tb e args s v u, (limb_1_1.after args s (.returned v) u = true ∧ limb_1_2.after args s (.returned v) u = true ∧ True) → FrameEnd s (.returned v) u (Jvm.fieldLocs frame_1_writes args s ++ Jvm.arrayLocs frame_1_arrays args s ++ Jvm.staticLocs frame_1_statics s) 16 128 → Post tb e args s (.returned v) u) :
    ArmFor flags0 classFile x code maxLocals ret World_1 tables_1 room_1 Calls_1 rest_1 Pre_1 Post := by
  intro l hfl _ _ p e ha hc hk s m args below hf hA hF happ hP
  obtain ⟨hcalls, hrest, hpre⟩ := hP
  obtain ⟨-, -, -, hnamed, -, -, -, hat⟩ := (Spec.applies_iff hf).mp happ
  obtain ⟨hg, hn⟩ := and_e (Cond.before_iff.mp (show (Jvm.Cond.and given_1 narrow_1).before args s = true from hpre))
  obtain ⟨g1, g2⟩ := and_e hg
  obtain ⟨g3, g4⟩ := and_e g2
  obtain ⟨g5, g6⟩ := and_e g4
  obtain ⟨g7, g8⟩ := and_e g6
  obtain ⟨w0, w1, w2, w3, rfl⟩ : ∃ w0 w1 w2 w3 : Value, args = #[w0, w1, w2, w3] := by
    have hs : args.size = 4 := by simpa [Cond.value, given_1] using g1
    obtain ⟨L⟩ := args
    match L, hs with
    | [w0, w1, w2, w3], _ => exact ⟨w0, w1, w2, w3, rfl⟩
  have hw := fun d (hd : d ∈ tables_1) => atoms_spec (ws := Jvm.Cond.code x code maxLocals ret :: tables_1) hat d (List.mem_cons_of_mem _ hd)
  obtain ⟨i0, ei0⟩ := isL_v g3
  obtain rfl : w0 = (.long i0) := Option.some.inj ei0
  obtain ⟨i1, ei1⟩ := isL_v g5
  obtain rfl : w1 = (.long i1) := Option.some.inj ei1
  obtain ⟨i2, ei2⟩ := isL_v g7
  obtain rfl : w2 = (.long i2) := Option.some.inj ei2
  obtain ⟨i3, ei3⟩ := isL_v g8
  obtain rfl : w3 = (.long i3) := Option.some.inj ei3
  obtain ⟨n, o, h1, h2, h3, _, L, rfl, ⟨rfl, N⟩, hq⟩ := rm0 l s _ hw tables_1 i0 i1 i2 i3 s.heap s.heap.size (Nat.le_refl _)  p e ha hc hk s m _ below hf ((Spec.applies_iff_loose hf).mp happ).1 ⟨rfl, State.Warmed39.refl s, rfl⟩ trivial
  refine ⟨n, _, h1, h2, h3, hpost _ _ _ _ _ _ ⟨Cond.after_iff.mpr rfl, Cond.after_iff.mpr (eq_i res_at (Term.int_eval (1)) rfl), trivial⟩ ⟨hq.1, hq.2.1, (hq.2.2.sift fun y hy => Or.inr (N y hy)).mono (by decide) (by decide)⟩⟩
theorem main_1_1 : Claimed_1_1 := comes_1 fun _ _ _ _ _ _ h hF => ⟨h.1, hF⟩
theorem main_1_2 : Claimed_1_2 := comes_1 fun _ _ _ _ _ _ h hF => ⟨h.2.1, hF⟩
end Jvm.Pilot.@@N@@
namespace Jvm.Pilot.@@N@@
open Jvm Jvm.ClassFile Sem Op Lib Jvm.Free Jvm.Stand Jvm.Pilot.@@N@@.Jvm.D
/-! MADE BY PROGRAM (witnessworld.py) out of the Statement's table words and the real class files: 11 classes; the members and pool entries that the words name. The judged class is class 1, her method 1. -/
namespace start1
open Jvm.ClassFile
def u (s : String) : CpInfo := .utf8 (stringToUtf16 s)
/-- a pool by its gaps: so many unusable entries, then the entry; so many at the end -/
def gap : Nat → List CpInfo → List CpInfo
  | 0, r => r
  | n + 1, r => .unusable :: gap n r
def poolList (es : List (Nat × CpInfo)) (last : Nat) : List CpInfo := es.foldr (fun e r => gap e.1 (e.2 :: r)) (gap last [])
def pool (es : List (Nat × CpInfo)) (last : Nat) : Array CpInfo := ⟨poolList es last⟩
def fileOf (pool : Array CpInfo) (this : Nat) (attrs : Array Attribute := #[]) (ms : Array MethodInfo := #[]) (fl : Nat := 33) (sup : Nat := 0) (ifs : Array Nat := #[]) (fds : Array FieldInfo := #[]) : ClassFile where
  minorVersion := 0
  majorVersion := 65
  constantPool := pool
  accessFlags := fl
  thisClass := this
  superClass := sup
  interfaces := ifs
  fields := fds
  methods := ms
  attributes := attrs
def plain (name : String) (sup : Option ClassId) : Class where
  name := name
  kind := .ordinary
  loader := none
  accessFlags := 33
  super := sup
  interfaces := #[]
  cf := none
  fields := #[]
  methods := #[]
  instanceTypes := #[]
  staticTypes := #[]
  resolved := #[]
  callSites := []
  init := .initialized
  statics := none
  mirror := none

def pool0 : Array CpInfo := pool [(5, u "<init>"), (0, u "()V"), (1, .class_ 10), (1, u "java/lang/Object")] 113

def k0c0 : Code := { maxStack := 0, maxLocals := 1, code := object_method_1_code, exceptionTable := #[], attributes := #[] }
def k0m0 : Method := { name := "<init>", desc := "()V", sig := { parameters := [], returnType := none }, accessFlags := 1, code := some k0c0 }
/-- java/lang/Object -/
def k0 : Class := { plain "java/lang/Object" none with
  accessFlags := 33
  interfaces := #[]
  cf := some (fileOf pool0 8 #[] #[{ accessFlags := 1, nameIndex := 5, descriptorIndex := 6, attributes := #[] }] 33 0 #[] #[])
  fields := #[]
  methods := #[k0m0]
  instanceTypes := #[]
  staticTypes := #[]
  resolved := Array.replicate 124 none
  statics := none }

def pool1 : Array CpInfo := pool [(2, .class_ 4), (1, u "java/lang/Object"), (0, u "<init>"), (0, u "()V"), (0, .long 1000000001), (1, .class_ 10), (0, u "com/example/fairhail/fairhail/core/Point"), (0, .methodref 9 12), (0, .nameAndType 5 13), (0, u "(JJ)V"), (0, .long 2), (1, .methodref 9 17), (0, .nameAndType 18 19), (0, u "squaredDistanceTo"), (0, u "(Lcom/example/fairhail/fairhail/core/Point;)J"), (0, .class_ 21), (0, u "com/example/fairhail/fairhail/core/PointSquaredDistanceToPinLaw"), (2, u "law"), (0, u "(JJJJ)Z")] 3

def k1m0 : Method := { name := "<init>", desc := "()V", sig := { parameters := [], returnType := none }, accessFlags := 1, code := none }
def k1c1 : Code := { maxStack := 6, maxLocals := 24, code := code, exceptionTable := #[], attributes := #[] }
def k1m1 : Method := { name := "law", desc := "(JJJJ)Z", sig := { parameters := [.long, .long, .long, .long], returnType := some .boolean }, accessFlags := 9, code := some k1c1 }
/-- com/example/fairhail/fairhail/core/PointSquaredDistanceToPinLaw -/
def k1 : Class := { plain "com/example/fairhail/fairhail/core/PointSquaredDistanceToPinLaw" (some 0) with
  accessFlags := 49
  interfaces := #[]
  cf := some (fileOf pool1 20 #[] #[{ accessFlags := 1, nameIndex := 5, descriptorIndex := 6, attributes := #[] }, { accessFlags := 9, nameIndex := 24, descriptorIndex := 25, attributes := #[] }] 49 2 #[] #[])
  fields := #[]
  methods := #[k1m0, k1m1]
  instanceTypes := #[]
  staticTypes := #[]
  resolved := Array.replicate 29 none
  statics := none }

def pool2 : Array CpInfo := pool [(1, .methodref 2 3), (0, .class_ 4), (0, .nameAndType 5 6), (0, u "java/lang/Object"), (0, u "<init>"), (0, u "()V"), (0, .class_ 8), (0, u "java/lang/Record")] 13

def k2c0 : Code := { maxStack := 1, maxLocals := 1, code := jdk_30_method_1_code, exceptionTable := #[], attributes := #[] }
def k2m0 : Method := { name := "<init>", desc := "()V", sig := { parameters := [], returnType := none }, accessFlags := 4, code := some k2c0 }
/-- java/lang/Record -/
def k2 : Class := { plain "java/lang/Record" (some 0) with
  accessFlags := 1057
  interfaces := #[]
  cf := some (fileOf pool2 7 #[] #[{ accessFlags := 4, nameIndex := 5, descriptorIndex := 6, attributes := #[] }] 1057 2 #[] #[])
  fields := #[]
  methods := #[k2m0]
  instanceTypes := #[]
  staticTypes := #[]
  resolved := Array.replicate 22 none
  statics := none }

def pool3 : Array CpInfo := pool [(1, .class_ 2), (0, u "com/example/fairhail/fairhail/core/Point"), (0, .methodref 4 5), (0, .class_ 6), (0, .nameAndType 7 8), (0, u "java/lang/Record"), (0, u "<init>"), (0, u "()V"), (0, .methodref 10 11), (0, .class_ 12), (0, .nameAndType 13 14), (0, u "java/lang/Math"), (0, u "abs"), (0, u "(J)J"), (0, .long 1000000000), (10, .fieldref 1 27), (0, .nameAndType 28 29), (0, u "x"), (0, u "J"), (0, .fieldref 1 31), (0, .nameAndType 32 29), (0, u "y"), (21, u "LIMIT_M"), (1, u "UNREACHABLE_M"), (0, u "(JJ)V"), (5, u "squaredDistanceTo"), (0, u "(Lcom/example/fairhail/fairhail/core/Point;)J")] 35

def k3c0 : Code := { maxStack := 6, maxLocals := 5, code := prog_20_method_1_code, exceptionTable := #[], attributes := #[] }
def k3m0 : Method := { name := "<init>", desc := "(JJ)V", sig := { parameters := [.long, .long], returnType := none }, accessFlags := 1, code := some k3c0 }
def k3c1 : Code := { maxStack := 6, maxLocals := 6, code := prog_20_method_3_code, exceptionTable := #[], attributes := #[] }
def k3m1 : Method := { name := "squaredDistanceTo", desc := "(Lcom/example/fairhail/fairhail/core/Point;)J", sig := { parameters := [(.object "com/example/fairhail/fairhail/core/Point")], returnType := some .long }, accessFlags := 1, code := some k3c1 }
/-- com/example/fairhail/fairhail/core/Point -/
def k3 : Class := { plain "com/example/fairhail/fairhail/core/Point" (some 2) with
  accessFlags := 49
  interfaces := #[]
  cf := some (fileOf pool3 1 #[] #[{ accessFlags := 1, nameIndex := 7, descriptorIndex := 57, attributes := #[] }, { accessFlags := 1, nameIndex := 63, descriptorIndex := 64, attributes := #[] }] 49 4 #[] #[{ accessFlags := 18, nameIndex := 28, descriptorIndex := 29, attributes := #[] }, { accessFlags := 18, nameIndex := 32, descriptorIndex := 29, attributes := #[] }, { accessFlags := 25, nameIndex := 54, descriptorIndex := 29, attributes := #[] }, { accessFlags := 26, nameIndex := 56, descriptorIndex := 29, attributes := #[] }])
  fields := #[{ name := "x", type := .long, accessFlags := 18, slot := 0, constantValue := 0 }, { name := "y", type := .long, accessFlags := 18, slot := 1, constantValue := 0 }, { name := "LIMIT_M", type := .long, accessFlags := 25, slot := 0, constantValue := 0 }, { name := "UNREACHABLE_M", type := .long, accessFlags := 26, slot := 1, constantValue := 0 }]
  methods := #[k3m0, k3m1]
  instanceTypes := #[.long, .long]
  staticTypes := #[.long, .long]
  resolved := Array.replicate 100 none
  statics := none }

def pool4 : Array CpInfo := pool [(1, .class_ 2), (0, u "java/lang/Math"), (1, .class_ 6), (1, u "java/lang/Object"), (0, u "<init>"), (0, u "()V"), (89, .class_ 100), (1, u "java/lang/Math$RandomNumberGeneratorHolder"), (23, u "abs"), (0, u "(J)J"), (46, u "negativeZeroFloatBits"), (0, u "J"), (2, u "negativeZeroDoubleBits"), (68, u "$assertionsDisabled"), (0, u "Z"), (91, u "twoToTheDoubleScaleDown"), (0, u "D"), (4, u "twoToTheDoubleScaleUp"), (9, u "E"), (3, u "PI"), (2, u "TAU"), (2, u "DEGREES_TO_RADIANS"), (0, u "RADIANS_TO_DEGREES")] 94

def k4m0 : Method := { name := "<init>", desc := "()V", sig := { parameters := [], returnType := none }, accessFlags := 2, code := none }
def k4c1 : Code := { maxStack := 4, maxLocals := 2, code := jdk_29_method_61_code, exceptionTable := #[], attributes := #[] }
def k4m1 : Method := { name := "abs", desc := "(J)J", sig := { parameters := [.long], returnType := some .long }, accessFlags := 9, code := some k4c1 }
/-- java/lang/Math -/
def k4 : Class := { plain "java/lang/Math" (some 0) with
  accessFlags := 49
  interfaces := #[]
  cf := some (fileOf pool4 1 #[.nestMembers #[98]] #[{ accessFlags := 2, nameIndex := 7, descriptorIndex := 8, attributes := #[] }, { accessFlags := 9, nameIndex := 124, descriptorIndex := 125, attributes := #[] }] 49 4 #[] #[{ accessFlags := 25, nameIndex := 354, descriptorIndex := 339, attributes := #[] }, { accessFlags := 25, nameIndex := 358, descriptorIndex := 339, attributes := #[] }, { accessFlags := 25, nameIndex := 361, descriptorIndex := 339, attributes := #[] }, { accessFlags := 26, nameIndex := 364, descriptorIndex := 339, attributes := #[] }, { accessFlags := 26, nameIndex := 365, descriptorIndex := 339, attributes := #[] }, { accessFlags := 26, nameIndex := 172, descriptorIndex := 173, attributes := #[] }, { accessFlags := 26, nameIndex := 176, descriptorIndex := 173, attributes := #[] }, { accessFlags := 8, nameIndex := 344, descriptorIndex := 339, attributes := #[] }, { accessFlags := 8, nameIndex := 338, descriptorIndex := 339, attributes := #[] }, { accessFlags := 4120, nameIndex := 245, descriptorIndex := 246, attributes := #[] }])
  fields := #[{ name := "E", type := .double, accessFlags := 25, slot := 0, constantValue := 0 }, { name := "PI", type := .double, accessFlags := 25, slot := 1, constantValue := 0 }, { name := "TAU", type := .double, accessFlags := 25, slot := 2, constantValue := 0 }, { name := "DEGREES_TO_RADIANS", type := .double, accessFlags := 26, slot := 3, constantValue := 0 }, { name := "RADIANS_TO_DEGREES", type := .double, accessFlags := 26, slot := 4, constantValue := 0 }, { name := "negativeZeroFloatBits", type := .long, accessFlags := 26, slot := 5, constantValue := 0 }, { name := "negativeZeroDoubleBits", type := .long, accessFlags := 26, slot := 6, constantValue := 0 }, { name := "twoToTheDoubleScaleUp", type := .double, accessFlags := 8, slot := 7, constantValue := 0 }, { name := "twoToTheDoubleScaleDown", type := .double, accessFlags := 8, slot := 8, constantValue := 0 }, { name := "$assertionsDisabled", type := .boolean, accessFlags := 4120, slot := 9, constantValue := 0 }]
  methods := #[k4m0, k4m1]
  instanceTypes := #[]
  staticTypes := #[.double, .double, .double, .double, .double, .long, .long, .double, .double, .boolean]
  resolved := Array.replicate 460 none
  statics := none }

def pool5 : Array CpInfo := pool [(1, u "java/lang/Cloneable"), (0, .class_ 1), (0, u "java/lang/Object"), (0, .class_ 3)] 3

/-- java/lang/Cloneable -/
def k5 : Class := { plain "java/lang/Cloneable" (some 0) with
  accessFlags := 1537
  interfaces := #[]
  cf := some (fileOf pool5 2 #[] #[] 1537 4 #[] #[])
  fields := #[]
  methods := #[]
  instanceTypes := #[]
  staticTypes := #[]
  resolved := Array.replicate 8 none
  statics := none }

def pool6 : Array CpInfo := pool [(1, u "java/io/Serializable"), (0, .class_ 1), (0, u "java/lang/Object"), (0, .class_ 3)] 3

/-- java/io/Serializable -/
def k6 : Class := { plain "java/io/Serializable" (some 0) with
  accessFlags := 1537
  interfaces := #[]
  cf := some (fileOf pool6 2 #[] #[] 1537 4 #[] #[])
  fields := #[]
  methods := #[]
  instanceTypes := #[]
  staticTypes := #[]
  resolved := Array.replicate 8 none
  statics := none }

/-- the primitive byte -/
def k7 : Class := { plain "byte" none with kind := .primitive 'B', accessFlags := 0x411 }
/-- [B -/
def k8 : Class := { plain "[B" (some 0) with kind := .array 7 .byte, interfaces := #[5, 6], accessFlags := 1041 }

/-- the primitive int -/
def k9 : Class := { plain "int" none with kind := .primitive 'I', accessFlags := 0x411 }
/-- [I -/
def k10 : Class := { plain "[I" (some 0) with kind := .array 9 .int, interfaces := #[5, 6], accessFlags := 1041 }

def heap : Heap := #[]
def classes : Array Class := #[k0, k1, k2, k3, k4, k5, k6, k7, k8, k9, k10]
def interned : List (Array UInt16 × Addr) := []
def slotsUsed : Nat := 0
def theMethod : MethodId := ⟨1, 1⟩
def args0 : Array Value := #[.long 5, .long 5, .long 5, .long 5]
def aboutOver (below : List Frame) : State where
  vm := { classes := classes, interned := interned.toArray }
  heap := heap
  slotsUsed := slotsUsed
  threads := #[{ frames := .invoking theMethod args0 :: below }]
def below0 : List Frame := [.native { method := ⟨0, 0⟩, args := #[] }]
def about1 : State := aboutOver below0
def p0 : Program := .bare "" "" ""
def e0 : Env := launch0.env 0 0 0
theorem w_frames : about1.frames = Frame.invoking theMethod args0 :: below0 := rfl
set_option maxRecDepth 65536 in
theorem w_args : argsFit about1.vm theMethod args0 = true := by decide +kernel
set_option maxRecDepth 65536 in
theorem w_heap : heapFits about1 = true := by decide +kernel
set_option maxRecDepth 65536 in
theorem w_runnable : about1.curStatus? = some .runnable := by decide +kernel
set_option maxRecDepth 65536 in
theorem w_alone : about1.alone = true := by decide +kernel
set_option maxRecDepth 65536 in
theorem w_named : about1.methodNamed? x = some theMethod := by decide +kernel
set_option maxRecDepth 65536 in
theorem w_hears : about1.hears theMethod below0 = true := by decide +kernel
set_option maxRecDepth 65536 in
theorem w_ripe : about1.ripe theMethod args0 below0 = true := by decide +kernel
theorem w_running : about1.status = .running := rfl
set_option maxRecDepth 65536 in
theorem w_room : about1.hasRoom e0.platform room_1 = true :=
  launch0.hasRoom_least _ room_1 (by decide +kernel) (by decide +kernel) (by decide +kernel) (by decide +kernel) (by decide +kernel) (by decide +kernel)
theorem allAtoms_all (ts : List Jvm.Cond) (a : Array Jvm.Value) (st : Jvm.State) : (allAtoms ts).before a st = ts.all (fun c => c.before a st) := by
  induction ts with
  | nil => rfl
  | cons c t ih =>
    show (Jvm.Cond.and c (allAtoms t)).before a st = _
    rw [Jvm.Cond.before_and, ih, List.all_cons]
def words1 : List Jvm.Cond := Jvm.Cond.code x code maxLocals ret :: tables_1
/-- a 'code' word, met by the world's own term for the bytes: nothing is compared byte by byte -/
theorem code_word {y : MethodName} {bytes : ByteArray} {mx : Nat} {rt : Option FieldType} {a : Array Value} {s : State} {m : MethodId} {meth : Method} {c : Code} (h1 : s.methodNamed? y = some m) (h2 : s.vm.method? m = some meth) (h3 : meth.code = some c) (h4 : c.code = bytes)
    (h5 : (c.maxLocals == mx && c.exceptionTable.isEmpty && decide (c.maxStack ≤ mostOperands) && decide (meth.sig.returnType = rt) && !meth.locks && decide (parseMethodDescriptor y.desc = some meth.sig)) = true) : (Jvm.Cond.code y bytes mx rt).before a s = true := by
  simp only [Bool.and_eq_true, beq_iff_eq, Bool.not_eq_true', decide_eq_true_eq] at h5
  obtain ⟨⟨⟨⟨⟨g1, g2⟩, g3⟩, g4⟩, g5⟩, g6⟩ := h5
  simp [Cond.before, Cond.holds, Cond.value, h1, h2, h3, h4, g1, g2, g3, g4, g5, g6]
def isCode : Jvm.Cond → Bool
  | .code _ _ _ _ => true
  | _ => false
theorem all_split {L : List Jvm.Cond} {P : Jvm.Cond → Bool} (h1 : L.all (fun c => isCode c || P c) = true) (h2 : ∀ c ∈ L.filter isCode, P c = true) : L.all P = true := by
  refine List.all_eq_true.mpr fun c hc => ?_
  have h := List.all_eq_true.mp h1 c hc
  rcases Bool.eq_false_or_eq_true (isCode c) with hi | hi
  · exact h2 c (List.mem_filter.mpr ⟨hc, hi⟩)
  · simpa [hi] using h
set_option maxRecDepth 65536 in
theorem w_c0 : (Jvm.Cond.code x code maxLocals ret).before args0 about1 = true := code_word (m := ⟨1, 1⟩) (meth := k1m1) (c := k1c1) (by decide +kernel) rfl rfl rfl (by decide +kernel)
set_option maxRecDepth 65536 in
theorem w_c1 : (Jvm.Cond.code ({ cls := "com/example/fairhail/fairhail/core/Point", name := "<init>", desc := "(JJ)V" } : Jvm.MethodName) prog_20_method_1_code (5 : Nat) (Option.none : Option Jvm.ClassFile.FieldType)).before args0 about1 = true := code_word (m := ⟨3, 0⟩) (meth := k3m0) (c := k3c0) (by decide +kernel) rfl rfl rfl (by decide +kernel)
set_option maxRecDepth 65536 in
theorem w_c2 : (Jvm.Cond.code ({ cls := "java/lang/Record", name := "<init>", desc := "()V" } : Jvm.MethodName) jdk_30_method_1_code (1 : Nat) (Option.none : Option Jvm.ClassFile.FieldType)).before args0 about1 = true := code_word (m := ⟨2, 0⟩) (meth := k2m0) (c := k2c0) (by decide +kernel) rfl rfl rfl (by decide +kernel)
set_option maxRecDepth 65536 in
theorem w_c3 : (Jvm.Cond.code ({ cls := "java/lang/Object", name := "<init>", desc := "()V" } : Jvm.MethodName) object_method_1_code (1 : Nat) (Option.none : Option Jvm.ClassFile.FieldType)).before args0 about1 = true := code_word (m := ⟨0, 0⟩) (meth := k0m0) (c := k0c0) (by decide +kernel) rfl rfl rfl (by decide +kernel)
set_option maxRecDepth 65536 in
theorem w_c4 : (Jvm.Cond.code ({ cls := "java/lang/Math", name := "abs", desc := "(J)J" } : Jvm.MethodName) jdk_29_method_61_code (2 : Nat) (Option.some Jvm.ClassFile.FieldType.long)).before args0 about1 = true := code_word (m := ⟨4, 1⟩) (meth := k4m1) (c := k4c1) (by decide +kernel) rfl rfl rfl (by decide +kernel)
set_option maxRecDepth 65536 in
theorem w_c5 : (Jvm.Cond.code ({ cls := "com/example/fairhail/fairhail/core/Point", name := "squaredDistanceTo", desc := "(Lcom/example/fairhail/fairhail/core/Point;)J" } : Jvm.MethodName) prog_20_method_3_code (6 : Nat) (Option.some Jvm.ClassFile.FieldType.long)).before args0 about1 = true := code_word (m := ⟨3, 1⟩) (meth := k3m1) (c := k3c1) (by decide +kernel) rfl rfl rfl (by decide +kernel)
def codes1 : List Jvm.Cond := [Jvm.Cond.code x code maxLocals ret, Jvm.Cond.code ({ cls := "com/example/fairhail/fairhail/core/Point", name := "<init>", desc := "(JJ)V" } : Jvm.MethodName) prog_20_method_1_code (5 : Nat) (Option.none : Option Jvm.ClassFile.FieldType), Jvm.Cond.code ({ cls := "java/lang/Record", name := "<init>", desc := "()V" } : Jvm.MethodName) jdk_30_method_1_code (1 : Nat) (Option.none : Option Jvm.ClassFile.FieldType), Jvm.Cond.code ({ cls := "java/lang/Object", name := "<init>", desc := "()V" } : Jvm.MethodName) object_method_1_code (1 : Nat) (Option.none : Option Jvm.ClassFile.FieldType), Jvm.Cond.code ({ cls := "java/lang/Math", name := "abs", desc := "(J)J" } : Jvm.MethodName) jdk_29_method_61_code (2 : Nat) (Option.some Jvm.ClassFile.FieldType.long), Jvm.Cond.code ({ cls := "com/example/fairhail/fairhail/core/Point", name := "squaredDistanceTo", desc := "(Lcom/example/fairhail/fairhail/core/Point;)J" } : Jvm.MethodName) prog_20_method_3_code (6 : Nat) (Option.some Jvm.ClassFile.FieldType.long)]
set_option maxRecDepth 65536 in
theorem codes_eq : words1.filter isCode = codes1 := rfl
theorem w_codes : ∀ c ∈ words1.filter isCode, c.before args0 about1 = true := by
  rw [codes_eq]
  intro c hc
  simp only [codes1, List.mem_cons, List.not_mem_nil, or_false] at hc
  rcases hc with rfl | rfl | rfl | rfl | rfl | rfl
  · exact w_c0
  · exact w_c1
  · exact w_c2
  · exact w_c3
  · exact w_c4
  · exact w_c5
set_option maxRecDepth 65536 in
theorem w_t1 : (words1.take 24).all (fun c => isCode c || c.before args0 about1) = true := by decide +kernel
set_option maxRecDepth 65536 in
theorem w_t2 : (words1.drop 24).all (fun c => isCode c || c.before args0 about1) = true := by decide +kernel
theorem w_tables : (allAtoms (Jvm.Cond.code x code maxLocals ret :: tables_1)).before args0 about1 = true := by
  rw [allAtoms_all]
  show words1.all (fun c => c.before args0 about1) = true
  refine all_split ?_ w_codes
  rw [← List.take_append_drop 24 words1, List.all_append, w_t1, w_t2]
  rfl
set_option maxRecDepth 65536 in
theorem w_case : (Jvm.Cond.and given_1 narrow_1).before args0 about1 = true := by decide +kernel
theorem w_applies : (headSpec (Jvm.Cond.code x code maxLocals ret :: tables_1) room_1).applies x e0.platform about1 = true :=
  (Spec.applies_iff w_frames).mpr ⟨w_running, w_runnable, w_alone, w_named, w_hears, w_ripe, w_room, w_tables⟩
theorem atStart : AtStart classFile x code maxLocals ret World_1 tables_1 room_1 Calls_1 rest_1 Pre_1 launch0 p0 e0 about1 theMethod args0 below0 :=
  ⟨lists_1, trivial, launch0.admits_env _ _ _, launch0.least_env, fairChoices_fair.cas, fairChoices_fair.clock, w_frames, w_args, w_heap, w_applies, trivial, trivial, w_case⟩
end start1
theorem witness_1 : WitnessClaimed_1 := ⟨start1.p0, start1.e0, start1.about1, start1.theMethod, start1.args0, start1.below0, start1.atStart⟩
end Jvm.Pilot.@@N@@
