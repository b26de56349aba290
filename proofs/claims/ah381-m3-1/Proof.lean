import JvmDerived
import JvmDerived.Pilot.@@N@@Statement
import JvmDerived.Pilot.@@N@@Code
set_option linter.unusedVariables false
set_option linter.unusedSimpArgs false
namespace Jvm.RoadKit
open Sem ClassFile Op Lib Jvm.Stand Jvm.Free Jvm.LawKit
section Own
variable {p : Program} {l : Launch} {e : Env} {R : Room} {s : State} {m : MethodId} {args : Array Value} {below : List Frame} {meth : Method} {c : Code} {T T' : State} {locs : List Loc} {cells slots : Nat} {g g' : JFrame} {Φ : State → Prop}
/-- from this frame the run comes to a state with Φ -/
def own_G (p : Program) (e : Env) (below : List Frame) (Φ : State → Prop) (T : State) (g : JFrame) : Prop := ∃ t, Steps p.tables e below (T.setTop g) t ∧ Φ t
/-- what the end of a method with the answer Q is -/
def own_E (s : State) (below : List Frame) (Q : Option Value → Heap → List Loc → Prop) (k n : Nat) (t : State) : Prop := ∃ o, t.status = .running ∧ Ended t below o ∧ ∃ v L, o = .returned v ∧ Q v t.heap L ∧ FrameEnd s o t L k n
def own_Al (_ : Stand p l e R s m args below meth c T locs cells slots) (T' : State) : Prop := Stand p l e R s m args below meth c T' locs cells slots
theorem own_go (h : ∀ t, Steps p.tables e below (T'.setTop g') t → Steps p.tables e below (T.setTop g) t) (k : own_G p e below Φ T' g') : own_G p e below Φ T g := by
  obtain ⟨t, a, b⟩ := k
  exact ⟨t, h t a, b⟩
theorem own_on (h : Steps p.tables e below (T.setTop g) (T'.setTop g')) (k : own_G p e below Φ T' g') : own_G p e below Φ T g := by
  obtain ⟨t, a, b⟩ := k
  exact ⟨t, h.trans a, b⟩
theorem own_ret (X : Stand p l e R s m args below meth c T locs cells slots) {Q : Option Value → Heap → List Loc → Prop} {k n : Nat} {v : Option Value} (hv : meth.sig.returnType = none → v = none) (hlocks : meth.locks = false)
    (hst : ∀ fs, (∀ (f : JFrame) (acts : List Action), f.method = m → f.locked = none → f.entered = [] → (doReturn e (T.setTop f) acts v).1 = T.setFrames fs) → Steps p.tables e below (T.setTop g) (T.setFrames fs))
    (hq : Q v T.heap locs) (hc : cells ≤ k) (hn : slots ≤ n) : own_G p e below (own_E s below Q k n) T g := by
  obtain ⟨fs, hr, hrun, hended, hW, hsame⟩ := X.leave hv hlocks
  exact ⟨_, hst fs hr, _, hrun, hended, _, _, rfl, hq, ⟨_, rfl⟩, hW, hsame.mono hc hn⟩
def own_EW (s : State) (below : List Frame) (Q : Option Value → Heap → List Loc → Prop) (k n : Nat) (t : State) : Prop := ∃ o, t.status = .running ∧ Ended t below o ∧ ∃ v L, o = .returned v ∧ Q v t.heap L ∧ ReturnedEndW s o t L k n
theorem own_retW {vm₁ : Vm} (X : Stand p l e R (s.setVm vm₁) m args below meth c T locs cells slots) {q : Nat} (hS : s.Since vm₁ q) (hq' : q ≤ T.heap.size) {Q : Option Value → Heap → List Loc → Prop} {k n : Nat} {v : Option Value} (hv : meth.sig.returnType = none → v = none) (hlocks : meth.locks = false)
    (hst : ∀ fs, (∀ (f : JFrame) (acts : List Action), f.method = m → f.locked = none → f.entered = [] → (doReturn e (T.setTop f) acts v).1 = T.setFrames fs) → Steps p.tables e below (T.setTop g) (T.setFrames fs))
    (hq : Q v T.heap locs) (hc : cells ≤ k) (hn : slots ≤ n) : own_G p e below (own_EW s below Q k n) T g := by
  obtain ⟨fs, hr, hrun, hended, h1, h2, h3, h4⟩ := X.leaveW hS hq' hv hlocks
  exact ⟨_, hst fs hr, _, hrun, hended, _, _, rfl, hq, h1, h2, h3, h4.mono hc hn⟩
theorem own_lrem_eq (x y : Int64) : x - (x / y) * y = x % y := by
  apply Int64.toInt_inj.mp
  have r := rng64 (x % y)
  have hm : (x % y).toInt = x.toInt - y.toInt * x.toInt.tdiv y.toInt := by rw [Int64.toInt_mod, Int.tmod_def]
  have hs : (x - x / y * y).toInt = (x.toInt - y.toInt * x.toInt.tdiv y.toInt).bmod (2 ^ 64) := by
    rw [Int64.toInt_sub, Int64.toInt_mul, Int64.toInt_div, Int.bmod_mul_bmod, Int.sub_bmod_bmod, Int.mul_comm]
  rw [hs, ← hm]
  exact Int.bmod_eq_of_le (by omega) (by omega)
theorem own_lremM {target : State} (X : Stand p l e R s m args below meth c T locs cells slots) (hx : p.tables.exec = Jvm.exec) (hg : g.method = m) {x y : Int64} {rest : List Value} (hd : decode c.code g.pc = .ok (.lrem, 1)) (hs : g.stack = .long y :: .long x :: rest) (hy : y ≠ 0)
    (hr : Steps p.tables e below (T.setTop { g with pc := g.pc + 1, stack := .long (x % y) :: rest }) target) : Steps p.tables e below (T.setTop g) target :=
  XS.lrem X.here hx hg hd hs hy (by rw [own_lrem_eq]; exact hr)
theorem own_nar {v : Value} {t : FieldType} (h : v.isRef = true) : narrow t v = v := by
  rcases ref_cases h with rfl | ⟨a, rfl⟩ <;> cases t <;> rfl
end Own
end Jvm.RoadKit
namespace Jvm.Pilot.@@N@@
open Jvm Jvm.ClassFile Sem Op Lib Jvm.Free Jvm.Stand Jvm.LawKit Jvm.RoadKit Bundle Jvm.Pilot.@@N@@.Jvm.D

theorem d1_0 : decode prog_13_method_1_code 0 = .ok (.aload_n 0, 1) := by decide +kernel
theorem d1_1 : decode prog_13_method_1_code 1 = .ok (.invokespecial 1, 3) := by decide +kernel
theorem wd_6 {Z : State} {a0 : Array Value} (hw : ∀ d ∈ tables_1, d.before a0 Z = true) : ((Jvm.Cond.methodLink "corro/core/Level" (1 : Nat) ({ cls := "java/lang/Object", name := "<init>", desc := "()V" } : Jvm.MethodName)) : Jvm.Cond).before a0 Z = true := hw _ (List.mem_of_getElem? (i := 6) rfl)
theorem wd_7 {Z : State} {a0 : Array Value} (hw : ∀ d ∈ tables_1, d.before a0 Z = true) : ((Jvm.Cond.instanceMethod ({ cls := "java/lang/Object", name := "<init>", desc := "()V" } : Jvm.MethodName)) : Jvm.Cond).before a0 Z = true := hw _ (List.mem_of_getElem? (i := 7) rfl)
theorem wd_8 {Z : State} {a0 : Array Value} (hw : ∀ d ∈ tables_1, d.before a0 Z = true) : ((Jvm.Cond.code ({ cls := "java/lang/Object", name := "<init>", desc := "()V" } : Jvm.MethodName) object_method_1_code (1 : Nat) (Option.none : Option Jvm.ClassFile.FieldType)) : Jvm.Cond).before a0 Z = true := hw _ (List.mem_of_getElem? (i := 8) rfl)
theorem d1_4 : decode prog_13_method_1_code 4 = .ok (.return_, 1) := by decide +kernel
theorem pn_0 : plainName "corro/core/Level" = true := by first | (simp [plainName, overriddenIn]; done) | decide +kernel
theorem ef_rmL (m : MethodId) (a1 : Addr) : entryFrame m #[(.ref a1)] 1 = mkF m 0 #[.val (.ref a1)] [] := by first | (simp [entryFrame, mkF, argsToLocals, Value.category]; done) | rfl
def Q_rmL (Z : State) (a1 : Addr) (h0 : Heap) (n0 : Nat) (v : Option Value) (h : Heap) (L : List Loc) : Prop := v = none ∧ Fr n0 L ∧ h = h0
set_option maxRecDepth 65536 in
set_option maxHeartbeats 40000000 in
theorem rmL (l : Launch) (Z : State) (a0 : Array Value) (hw : ∀ d ∈ tables_1, d.before a0 Z = true) (ws : List Jvm.Cond) (a1 : Addr) (h0 : Heap) (n0 : Nat) (Z0 : n0 ≤ h0.size)  :
    MetFree l (⟨"corro/core/Level", "<init>", "()V"⟩ : MethodName) (head1 (Jvm.Cond.code (⟨"corro/core/Level", "<init>", "()V"⟩ : MethodName) prog_13_method_1_code 1 none :: ws) ({ frames := 1, cells := 0, slots := 0, locals := 12 } : Room)) (fun a U => a = #[(.ref a1)] ∧ Z.Warmed39 U.vm ∧ U.heap = h0) (fun _ _ _ _ _ => True) (fun _ U o U' => ∃ v L, o = .returned v ∧ Q_rmL Z a1 h0 n0 v U'.heap L ∧ FrameEnd U o U' L ({ frames := 1, cells := 0, slots := 0, locals := 12 } : Room).cells ({ frames := 1, cells := 0, slots := 0, locals := 12 } : Room).slots) := by
  refine MetFree.of_bodySF (plainFor_of_name pn_0) hisR ?_
  intro p e s m args below meth c s₁ Bd hml0 hP hK
  obtain ⟨rfl, hZ, hh⟩ := hP
  have hx := Bd.exec
  have hby := Bd.bytes
  have hml : c.maxLocals = 1 := hml0
  have hown : s.vm.findClass "corro/core/Level" = some m.cls := findClass_of_methodNamed Bd.named
  have hnm := (name_of_methodNamed Bd.named Bd.method).1
  have X0 : Stand p l e ({ frames := 1, cells := 0, slots := 0, locals := 12 } : Room) s m #[(.ref a1)] below meth c s₁ [] 0 0 := Stand.of_body Bd
  have e0 : s₁.heap = h0 := by rw [← hh, Bd.state]; rfl
  have N0 := Fr.nil n0
  suffices G0 : own_G p e below (own_E s below (Q_rmL Z a1 h0 n0) ({ frames := 1, cells := 0, slots := 0, locals := 12 } : Room).cells ({ frames := 1, cells := 0, slots := 0, locals := 12 } : Room).slots) s₁ (mkF m 0 #[.val (.ref a1)] []) by
    obtain ⟨zt, zst, zo, zq1, zq2, zq3⟩ := G0
    exact ⟨zt, zo, castTop (ef_rmL m a1) zst, zq1, zq2, zq3⟩
  obtain ⟨Φ, hΦ⟩ : ∃ Φ, Φ = own_E s below (Q_rmL Z a1 h0 n0) ({ frames := 1, cells := 0, slots := 0, locals := 12 } : Room).cells ({ frames := 1, cells := 0, slots := 0, locals := 12 } : Room).slots := ⟨_, rfl⟩
  rw [← hΦ]
  show own_G p e below Φ s₁ (mkF m 0 #[.val (.ref a1)] [])
  refine own_go (fun _ => XS.aloadN X0.here hx rfl (hb hby d1_0) rfl rfl) ?_
  show own_G p e below Φ s₁ (mkF m 1 #[.val (.ref a1)] [(.ref a1)])
  obtain ⟨T1, X1, e1, st1⟩ := initO X0 hx hZ hown (wd_6 hw) (wd_7 hw) (wd_8 hw) e0 (g := (mkF m 1 #[.val (.ref a1)] [(.ref a1)])) rfl (by rw [hml]; rfl) rfl (hb hby d1_1) (by decide) (W := 0) (by show 2 * 0 + _ ≤ _; exact Nat.le_of_eq rfl) (by decide)
  refine own_go st1 ?_
  show own_G p e below Φ T1 (mkF m 4 #[.val (.ref a1)] [])
  rw [hΦ]
  refine own_ret X1 (v := none) (fun _ => rfl) (BodyLoose.notSynchronized Bd) (fun fs hr => X1.returnOut hx Bd.returns (hb hby d1_4) hr) ?_ (by decide) (by decide)
  rw [e1]
  exact ⟨rfl, N0, rfl⟩
theorem d3_0 : decode prog_18_method_1_code 0 = .ok (.aload_n 0, 1) := by decide +kernel
theorem d3_1 : decode prog_18_method_1_code 1 = .ok (.invokespecial 1, 3) := by decide +kernel
theorem wd_15 {Z : State} {a0 : Array Value} (hw : ∀ d ∈ tables_1, d.before a0 Z = true) : ((Jvm.Cond.methodLink "corro/core/Order" (1 : Nat) ({ cls := "java/lang/Object", name := "<init>", desc := "()V" } : Jvm.MethodName)) : Jvm.Cond).before a0 Z = true := hw _ (List.mem_of_getElem? (i := 15) rfl)
theorem d3_4 : decode prog_18_method_1_code 4 = .ok (.aload_n 0, 1) := by decide +kernel
theorem d3_5 : decode prog_18_method_1_code 5 = .ok (.aload_n 1, 1) := by decide +kernel
theorem d3_6 : decode prog_18_method_1_code 6 = .ok (.putfield 7, 3) := by decide +kernel
theorem wd_16 {Z : State} {a0 : Array Value} (hw : ∀ d ∈ tables_1, d.before a0 Z = true) : ((Jvm.Cond.fieldLink "corro/core/Order" (7 : Nat) "corro/core/Order" "id" "Ljava/lang/String;") : Jvm.Cond).before a0 Z = true := hw _ (List.mem_of_getElem? (i := 16) rfl)
theorem wd_17 {Z : State} {a0 : Array Value} (hw : ∀ d ∈ tables_1, d.before a0 Z = true) : ((Jvm.Cond.laysFinal "corro/core/Order" "corro/core/Order" "id" "Ljava/lang/String;") : Jvm.Cond).before a0 Z = true := hw _ (List.mem_of_getElem? (i := 17) rfl)
theorem wd_10 {Z : State} {a0 : Array Value} (hw : ∀ d ∈ tables_1, d.before a0 Z = true) : ((Jvm.Cond.instantiable "corro/core/Order" (12 : Nat)) : Jvm.Cond).before a0 Z = true := hw _ (List.mem_of_getElem? (i := 10) rfl)
theorem d3_9 : decode prog_18_method_1_code 9 = .ok (.aload_n 0, 1) := by decide +kernel
theorem d3_10 : decode prog_18_method_1_code 10 = .ok (.aload_n 2, 1) := by decide +kernel
theorem d3_11 : decode prog_18_method_1_code 11 = .ok (.putfield 13, 3) := by decide +kernel
theorem wd_18 {Z : State} {a0 : Array Value} (hw : ∀ d ∈ tables_1, d.before a0 Z = true) : ((Jvm.Cond.fieldLink "corro/core/Order" (13 : Nat) "corro/core/Order" "side" "Lcorro/core/Side;") : Jvm.Cond).before a0 Z = true := hw _ (List.mem_of_getElem? (i := 18) rfl)
theorem wd_19 {Z : State} {a0 : Array Value} (hw : ∀ d ∈ tables_1, d.before a0 Z = true) : ((Jvm.Cond.laysFinal "corro/core/Order" "corro/core/Order" "side" "Lcorro/core/Side;") : Jvm.Cond).before a0 Z = true := hw _ (List.mem_of_getElem? (i := 19) rfl)
theorem sl_0 {Z : State} {a0 : Array Value} (hw : ∀ d ∈ tables_1, d.before a0 Z = true) : Jvm.RoadKit.slotOf Z "corro/core/Order" "side" "Lcorro/core/Side;" ≠ Jvm.RoadKit.slotOf Z "corro/core/Order" "id" "Ljava/lang/String;" := slot_ne (C := "corro/core/Order") (Or.inr (wd_19 hw)) (Or.inr (wd_17 hw)) (by decide) (t := (.object "corro/core/Side")) (t' := (.object "java/lang/String")) (by decide) (by decide)
theorem d3_14 : decode prog_18_method_1_code 14 = .ok (.aload_n 0, 1) := by decide +kernel
theorem d3_15 : decode prog_18_method_1_code 15 = .ok (.aload 5, 2) := by decide +kernel
theorem d3_17 : decode prog_18_method_1_code 17 = .ok (.putfield 17, 3) := by decide +kernel
theorem wd_20 {Z : State} {a0 : Array Value} (hw : ∀ d ∈ tables_1, d.before a0 Z = true) : ((Jvm.Cond.fieldLink "corro/core/Order" (17 : Nat) "corro/core/Order" "type" "Lcorro/core/OrderType;") : Jvm.Cond).before a0 Z = true := hw _ (List.mem_of_getElem? (i := 20) rfl)
theorem wd_21 {Z : State} {a0 : Array Value} (hw : ∀ d ∈ tables_1, d.before a0 Z = true) : ((Jvm.Cond.laysFinal "corro/core/Order" "corro/core/Order" "type" "Lcorro/core/OrderType;") : Jvm.Cond).before a0 Z = true := hw _ (List.mem_of_getElem? (i := 21) rfl)
theorem sl_1 {Z : State} {a0 : Array Value} (hw : ∀ d ∈ tables_1, d.before a0 Z = true) : Jvm.RoadKit.slotOf Z "corro/core/Order" "type" "Lcorro/core/OrderType;" ≠ Jvm.RoadKit.slotOf Z "corro/core/Order" "id" "Ljava/lang/String;" := slot_ne (C := "corro/core/Order") (Or.inr (wd_21 hw)) (Or.inr (wd_17 hw)) (by decide) (t := (.object "corro/core/OrderType")) (t' := (.object "java/lang/String")) (by decide) (by decide)
theorem sl_2 {Z : State} {a0 : Array Value} (hw : ∀ d ∈ tables_1, d.before a0 Z = true) : Jvm.RoadKit.slotOf Z "corro/core/Order" "type" "Lcorro/core/OrderType;" ≠ Jvm.RoadKit.slotOf Z "corro/core/Order" "side" "Lcorro/core/Side;" := slot_ne (C := "corro/core/Order") (Or.inr (wd_21 hw)) (Or.inr (wd_19 hw)) (by decide) (t := (.object "corro/core/OrderType")) (t' := (.object "corro/core/Side")) (by decide) (by decide)
theorem d3_20 : decode prog_18_method_1_code 20 = .ok (.aload_n 0, 1) := by decide +kernel
theorem d3_21 : decode prog_18_method_1_code 21 = .ok (.aload 8, 2) := by decide +kernel
theorem d3_23 : decode prog_18_method_1_code 23 = .ok (.putfield 21, 3) := by decide +kernel
theorem wd_22 {Z : State} {a0 : Array Value} (hw : ∀ d ∈ tables_1, d.before a0 Z = true) : ((Jvm.Cond.fieldLink "corro/core/Order" (21 : Nat) "corro/core/Order" "timeInForce" "Lcorro/core/TimeInForce;") : Jvm.Cond).before a0 Z = true := hw _ (List.mem_of_getElem? (i := 22) rfl)
theorem wd_23 {Z : State} {a0 : Array Value} (hw : ∀ d ∈ tables_1, d.before a0 Z = true) : ((Jvm.Cond.laysFinal "corro/core/Order" "corro/core/Order" "timeInForce" "Lcorro/core/TimeInForce;") : Jvm.Cond).before a0 Z = true := hw _ (List.mem_of_getElem? (i := 23) rfl)
theorem sl_3 {Z : State} {a0 : Array Value} (hw : ∀ d ∈ tables_1, d.before a0 Z = true) : Jvm.RoadKit.slotOf Z "corro/core/Order" "timeInForce" "Lcorro/core/TimeInForce;" ≠ Jvm.RoadKit.slotOf Z "corro/core/Order" "id" "Ljava/lang/String;" := slot_ne (C := "corro/core/Order") (Or.inr (wd_23 hw)) (Or.inr (wd_17 hw)) (by decide) (t := (.object "corro/core/TimeInForce")) (t' := (.object "java/lang/String")) (by decide) (by decide)
theorem sl_4 {Z : State} {a0 : Array Value} (hw : ∀ d ∈ tables_1, d.before a0 Z = true) : Jvm.RoadKit.slotOf Z "corro/core/Order" "timeInForce" "Lcorro/core/TimeInForce;" ≠ Jvm.RoadKit.slotOf Z "corro/core/Order" "side" "Lcorro/core/Side;" := slot_ne (C := "corro/core/Order") (Or.inr (wd_23 hw)) (Or.inr (wd_19 hw)) (by decide) (t := (.object "corro/core/TimeInForce")) (t' := (.object "corro/core/Side")) (by decide) (by decide)
theorem sl_5 {Z : State} {a0 : Array Value} (hw : ∀ d ∈ tables_1, d.before a0 Z = true) : Jvm.RoadKit.slotOf Z "corro/core/Order" "timeInForce" "Lcorro/core/TimeInForce;" ≠ Jvm.RoadKit.slotOf Z "corro/core/Order" "type" "Lcorro/core/OrderType;" := slot_ne (C := "corro/core/Order") (Or.inr (wd_23 hw)) (Or.inr (wd_21 hw)) (by decide) (t := (.object "corro/core/TimeInForce")) (t' := (.object "corro/core/OrderType")) (by decide) (by decide)
theorem d3_26 : decode prog_18_method_1_code 26 = .ok (.aload_n 0, 1) := by decide +kernel
theorem d3_27 : decode prog_18_method_1_code 27 = .ok (.lload_n 3, 1) := by decide +kernel
theorem d3_28 : decode prog_18_method_1_code 28 = .ok (.putfield 25, 3) := by decide +kernel
theorem wd_24 {Z : State} {a0 : Array Value} (hw : ∀ d ∈ tables_1, d.before a0 Z = true) : ((Jvm.Cond.fieldLink "corro/core/Order" (25 : Nat) "corro/core/Order" "quantity" "J") : Jvm.Cond).before a0 Z = true := hw _ (List.mem_of_getElem? (i := 24) rfl)
theorem wd_25 {Z : State} {a0 : Array Value} (hw : ∀ d ∈ tables_1, d.before a0 Z = true) : ((Jvm.Cond.lays "corro/core/Order" "corro/core/Order" "quantity" "J") : Jvm.Cond).before a0 Z = true := hw _ (List.mem_of_getElem? (i := 25) rfl)
theorem sl_6 {Z : State} {a0 : Array Value} (hw : ∀ d ∈ tables_1, d.before a0 Z = true) : Jvm.RoadKit.slotOf Z "corro/core/Order" "quantity" "J" ≠ Jvm.RoadKit.slotOf Z "corro/core/Order" "id" "Ljava/lang/String;" := slot_ne (C := "corro/core/Order") (Or.inl (wd_25 hw)) (Or.inr (wd_17 hw)) (by decide) (t := .long) (t' := (.object "java/lang/String")) (by decide) (by decide)
theorem sl_7 {Z : State} {a0 : Array Value} (hw : ∀ d ∈ tables_1, d.before a0 Z = true) : Jvm.RoadKit.slotOf Z "corro/core/Order" "quantity" "J" ≠ Jvm.RoadKit.slotOf Z "corro/core/Order" "side" "Lcorro/core/Side;" := slot_ne (C := "corro/core/Order") (Or.inl (wd_25 hw)) (Or.inr (wd_19 hw)) (by decide) (t := .long) (t' := (.object "corro/core/Side")) (by decide) (by decide)
theorem sl_8 {Z : State} {a0 : Array Value} (hw : ∀ d ∈ tables_1, d.before a0 Z = true) : Jvm.RoadKit.slotOf Z "corro/core/Order" "quantity" "J" ≠ Jvm.RoadKit.slotOf Z "corro/core/Order" "type" "Lcorro/core/OrderType;" := slot_ne (C := "corro/core/Order") (Or.inl (wd_25 hw)) (Or.inr (wd_21 hw)) (by decide) (t := .long) (t' := (.object "corro/core/OrderType")) (by decide) (by decide)
theorem sl_9 {Z : State} {a0 : Array Value} (hw : ∀ d ∈ tables_1, d.before a0 Z = true) : Jvm.RoadKit.slotOf Z "corro/core/Order" "quantity" "J" ≠ Jvm.RoadKit.slotOf Z "corro/core/Order" "timeInForce" "Lcorro/core/TimeInForce;" := slot_ne (C := "corro/core/Order") (Or.inl (wd_25 hw)) (Or.inr (wd_23 hw)) (by decide) (t := .long) (t' := (.object "corro/core/TimeInForce")) (by decide) (by decide)
theorem d3_31 : decode prog_18_method_1_code 31 = .ok (.aload_n 0, 1) := by decide +kernel
theorem d3_32 : decode prog_18_method_1_code 32 = .ok (.lload 6, 2) := by decide +kernel
theorem d3_34 : decode prog_18_method_1_code 34 = .ok (.putfield 29, 3) := by decide +kernel
theorem wd_26 {Z : State} {a0 : Array Value} (hw : ∀ d ∈ tables_1, d.before a0 Z = true) : ((Jvm.Cond.fieldLink "corro/core/Order" (29 : Nat) "corro/core/Order" "price" "J") : Jvm.Cond).before a0 Z = true := hw _ (List.mem_of_getElem? (i := 26) rfl)
theorem wd_27 {Z : State} {a0 : Array Value} (hw : ∀ d ∈ tables_1, d.before a0 Z = true) : ((Jvm.Cond.lays "corro/core/Order" "corro/core/Order" "price" "J") : Jvm.Cond).before a0 Z = true := hw _ (List.mem_of_getElem? (i := 27) rfl)
theorem sl_10 {Z : State} {a0 : Array Value} (hw : ∀ d ∈ tables_1, d.before a0 Z = true) : Jvm.RoadKit.slotOf Z "corro/core/Order" "price" "J" ≠ Jvm.RoadKit.slotOf Z "corro/core/Order" "id" "Ljava/lang/String;" := slot_ne (C := "corro/core/Order") (Or.inl (wd_27 hw)) (Or.inr (wd_17 hw)) (by decide) (t := .long) (t' := (.object "java/lang/String")) (by decide) (by decide)
theorem sl_11 {Z : State} {a0 : Array Value} (hw : ∀ d ∈ tables_1, d.before a0 Z = true) : Jvm.RoadKit.slotOf Z "corro/core/Order" "price" "J" ≠ Jvm.RoadKit.slotOf Z "corro/core/Order" "side" "Lcorro/core/Side;" := slot_ne (C := "corro/core/Order") (Or.inl (wd_27 hw)) (Or.inr (wd_19 hw)) (by decide) (t := .long) (t' := (.object "corro/core/Side")) (by decide) (by decide)
theorem sl_12 {Z : State} {a0 : Array Value} (hw : ∀ d ∈ tables_1, d.before a0 Z = true) : Jvm.RoadKit.slotOf Z "corro/core/Order" "price" "J" ≠ Jvm.RoadKit.slotOf Z "corro/core/Order" "type" "Lcorro/core/OrderType;" := slot_ne (C := "corro/core/Order") (Or.inl (wd_27 hw)) (Or.inr (wd_21 hw)) (by decide) (t := .long) (t' := (.object "corro/core/OrderType")) (by decide) (by decide)
theorem sl_13 {Z : State} {a0 : Array Value} (hw : ∀ d ∈ tables_1, d.before a0 Z = true) : Jvm.RoadKit.slotOf Z "corro/core/Order" "price" "J" ≠ Jvm.RoadKit.slotOf Z "corro/core/Order" "timeInForce" "Lcorro/core/TimeInForce;" := slot_ne (C := "corro/core/Order") (Or.inl (wd_27 hw)) (Or.inr (wd_23 hw)) (by decide) (t := .long) (t' := (.object "corro/core/TimeInForce")) (by decide) (by decide)
theorem sl_14 {Z : State} {a0 : Array Value} (hw : ∀ d ∈ tables_1, d.before a0 Z = true) : Jvm.RoadKit.slotOf Z "corro/core/Order" "price" "J" ≠ Jvm.RoadKit.slotOf Z "corro/core/Order" "quantity" "J" := slot_ne (C := "corro/core/Order") (Or.inl (wd_27 hw)) (Or.inl (wd_25 hw)) (by decide) (t := .long) (t' := .long) (by decide) (by decide)
theorem d3_37 : decode prog_18_method_1_code 37 = .ok (.return_, 1) := by decide +kernel
theorem wd_34 {Z : State} {a0 : Array Value} (hw : ∀ d ∈ tables_1, d.before a0 Z = true) : ((Jvm.Cond.lays "corro/core/Order" "corro/core/Order" "level" "Lcorro/core/Level;") : Jvm.Cond).before a0 Z = true := hw _ (List.mem_of_getElem? (i := 34) rfl)
theorem sl_15 {Z : State} {a0 : Array Value} (hw : ∀ d ∈ tables_1, d.before a0 Z = true) : Jvm.RoadKit.slotOf Z "corro/core/Order" "level" "Lcorro/core/Level;" ≠ Jvm.RoadKit.slotOf Z "corro/core/Order" "id" "Ljava/lang/String;" := slot_ne (C := "corro/core/Order") (Or.inl (wd_34 hw)) (Or.inr (wd_17 hw)) (by decide) (t := (.object "corro/core/Level")) (t' := (.object "java/lang/String")) (by decide) (by decide)
theorem sl_16 {Z : State} {a0 : Array Value} (hw : ∀ d ∈ tables_1, d.before a0 Z = true) : Jvm.RoadKit.slotOf Z "corro/core/Order" "level" "Lcorro/core/Level;" ≠ Jvm.RoadKit.slotOf Z "corro/core/Order" "side" "Lcorro/core/Side;" := slot_ne (C := "corro/core/Order") (Or.inl (wd_34 hw)) (Or.inr (wd_19 hw)) (by decide) (t := (.object "corro/core/Level")) (t' := (.object "corro/core/Side")) (by decide) (by decide)
theorem sl_17 {Z : State} {a0 : Array Value} (hw : ∀ d ∈ tables_1, d.before a0 Z = true) : Jvm.RoadKit.slotOf Z "corro/core/Order" "level" "Lcorro/core/Level;" ≠ Jvm.RoadKit.slotOf Z "corro/core/Order" "type" "Lcorro/core/OrderType;" := slot_ne (C := "corro/core/Order") (Or.inl (wd_34 hw)) (Or.inr (wd_21 hw)) (by decide) (t := (.object "corro/core/Level")) (t' := (.object "corro/core/OrderType")) (by decide) (by decide)
theorem sl_18 {Z : State} {a0 : Array Value} (hw : ∀ d ∈ tables_1, d.before a0 Z = true) : Jvm.RoadKit.slotOf Z "corro/core/Order" "level" "Lcorro/core/Level;" ≠ Jvm.RoadKit.slotOf Z "corro/core/Order" "timeInForce" "Lcorro/core/TimeInForce;" := slot_ne (C := "corro/core/Order") (Or.inl (wd_34 hw)) (Or.inr (wd_23 hw)) (by decide) (t := (.object "corro/core/Level")) (t' := (.object "corro/core/TimeInForce")) (by decide) (by decide)
theorem sl_19 {Z : State} {a0 : Array Value} (hw : ∀ d ∈ tables_1, d.before a0 Z = true) : Jvm.RoadKit.slotOf Z "corro/core/Order" "level" "Lcorro/core/Level;" ≠ Jvm.RoadKit.slotOf Z "corro/core/Order" "quantity" "J" := slot_ne (C := "corro/core/Order") (Or.inl (wd_34 hw)) (Or.inl (wd_25 hw)) (by decide) (t := (.object "corro/core/Level")) (t' := .long) (by decide) (by decide)
theorem sl_20 {Z : State} {a0 : Array Value} (hw : ∀ d ∈ tables_1, d.before a0 Z = true) : Jvm.RoadKit.slotOf Z "corro/core/Order" "level" "Lcorro/core/Level;" ≠ Jvm.RoadKit.slotOf Z "corro/core/Order" "price" "J" := slot_ne (C := "corro/core/Order") (Or.inl (wd_34 hw)) (Or.inl (wd_27 hw)) (by decide) (t := (.object "corro/core/Level")) (t' := .long) (by decide) (by decide)
theorem wd_36 {Z : State} {a0 : Array Value} (hw : ∀ d ∈ tables_1, d.before a0 Z = true) : ((Jvm.Cond.lays "corro/core/Order" "corro/core/Order" "previous" "Lcorro/core/Order;") : Jvm.Cond).before a0 Z = true := hw _ (List.mem_of_getElem? (i := 36) rfl)
theorem sl_21 {Z : State} {a0 : Array Value} (hw : ∀ d ∈ tables_1, d.before a0 Z = true) : Jvm.RoadKit.slotOf Z "corro/core/Order" "previous" "Lcorro/core/Order;" ≠ Jvm.RoadKit.slotOf Z "corro/core/Order" "id" "Ljava/lang/String;" := slot_ne (C := "corro/core/Order") (Or.inl (wd_36 hw)) (Or.inr (wd_17 hw)) (by decide) (t := (.object "corro/core/Order")) (t' := (.object "java/lang/String")) (by decide) (by decide)
theorem sl_22 {Z : State} {a0 : Array Value} (hw : ∀ d ∈ tables_1, d.before a0 Z = true) : Jvm.RoadKit.slotOf Z "corro/core/Order" "previous" "Lcorro/core/Order;" ≠ Jvm.RoadKit.slotOf Z "corro/core/Order" "side" "Lcorro/core/Side;" := slot_ne (C := "corro/core/Order") (Or.inl (wd_36 hw)) (Or.inr (wd_19 hw)) (by decide) (t := (.object "corro/core/Order")) (t' := (.object "corro/core/Side")) (by decide) (by decide)
theorem sl_23 {Z : State} {a0 : Array Value} (hw : ∀ d ∈ tables_1, d.before a0 Z = true) : Jvm.RoadKit.slotOf Z "corro/core/Order" "previous" "Lcorro/core/Order;" ≠ Jvm.RoadKit.slotOf Z "corro/core/Order" "type" "Lcorro/core/OrderType;" := slot_ne (C := "corro/core/Order") (Or.inl (wd_36 hw)) (Or.inr (wd_21 hw)) (by decide) (t := (.object "corro/core/Order")) (t' := (.object "corro/core/OrderType")) (by decide) (by decide)
theorem sl_24 {Z : State} {a0 : Array Value} (hw : ∀ d ∈ tables_1, d.before a0 Z = true) : Jvm.RoadKit.slotOf Z "corro/core/Order" "previous" "Lcorro/core/Order;" ≠ Jvm.RoadKit.slotOf Z "corro/core/Order" "timeInForce" "Lcorro/core/TimeInForce;" := slot_ne (C := "corro/core/Order") (Or.inl (wd_36 hw)) (Or.inr (wd_23 hw)) (by decide) (t := (.object "corro/core/Order")) (t' := (.object "corro/core/TimeInForce")) (by decide) (by decide)
theorem sl_25 {Z : State} {a0 : Array Value} (hw : ∀ d ∈ tables_1, d.before a0 Z = true) : Jvm.RoadKit.slotOf Z "corro/core/Order" "previous" "Lcorro/core/Order;" ≠ Jvm.RoadKit.slotOf Z "corro/core/Order" "quantity" "J" := slot_ne (C := "corro/core/Order") (Or.inl (wd_36 hw)) (Or.inl (wd_25 hw)) (by decide) (t := (.object "corro/core/Order")) (t' := .long) (by decide) (by decide)
theorem sl_26 {Z : State} {a0 : Array Value} (hw : ∀ d ∈ tables_1, d.before a0 Z = true) : Jvm.RoadKit.slotOf Z "corro/core/Order" "previous" "Lcorro/core/Order;" ≠ Jvm.RoadKit.slotOf Z "corro/core/Order" "price" "J" := slot_ne (C := "corro/core/Order") (Or.inl (wd_36 hw)) (Or.inl (wd_27 hw)) (by decide) (t := (.object "corro/core/Order")) (t' := .long) (by decide) (by decide)
theorem wd_38 {Z : State} {a0 : Array Value} (hw : ∀ d ∈ tables_1, d.before a0 Z = true) : ((Jvm.Cond.lays "corro/core/Order" "corro/core/Order" "next" "Lcorro/core/Order;") : Jvm.Cond).before a0 Z = true := hw _ (List.mem_of_getElem? (i := 38) rfl)
theorem sl_27 {Z : State} {a0 : Array Value} (hw : ∀ d ∈ tables_1, d.before a0 Z = true) : Jvm.RoadKit.slotOf Z "corro/core/Order" "next" "Lcorro/core/Order;" ≠ Jvm.RoadKit.slotOf Z "corro/core/Order" "id" "Ljava/lang/String;" := slot_ne (C := "corro/core/Order") (Or.inl (wd_38 hw)) (Or.inr (wd_17 hw)) (by decide) (t := (.object "corro/core/Order")) (t' := (.object "java/lang/String")) (by decide) (by decide)
theorem sl_28 {Z : State} {a0 : Array Value} (hw : ∀ d ∈ tables_1, d.before a0 Z = true) : Jvm.RoadKit.slotOf Z "corro/core/Order" "next" "Lcorro/core/Order;" ≠ Jvm.RoadKit.slotOf Z "corro/core/Order" "side" "Lcorro/core/Side;" := slot_ne (C := "corro/core/Order") (Or.inl (wd_38 hw)) (Or.inr (wd_19 hw)) (by decide) (t := (.object "corro/core/Order")) (t' := (.object "corro/core/Side")) (by decide) (by decide)
theorem sl_29 {Z : State} {a0 : Array Value} (hw : ∀ d ∈ tables_1, d.before a0 Z = true) : Jvm.RoadKit.slotOf Z "corro/core/Order" "next" "Lcorro/core/Order;" ≠ Jvm.RoadKit.slotOf Z "corro/core/Order" "type" "Lcorro/core/OrderType;" := slot_ne (C := "corro/core/Order") (Or.inl (wd_38 hw)) (Or.inr (wd_21 hw)) (by decide) (t := (.object "corro/core/Order")) (t' := (.object "corro/core/OrderType")) (by decide) (by decide)
theorem sl_30 {Z : State} {a0 : Array Value} (hw : ∀ d ∈ tables_1, d.before a0 Z = true) : Jvm.RoadKit.slotOf Z "corro/core/Order" "next" "Lcorro/core/Order;" ≠ Jvm.RoadKit.slotOf Z "corro/core/Order" "timeInForce" "Lcorro/core/TimeInForce;" := slot_ne (C := "corro/core/Order") (Or.inl (wd_38 hw)) (Or.inr (wd_23 hw)) (by decide) (t := (.object "corro/core/Order")) (t' := (.object "corro/core/TimeInForce")) (by decide) (by decide)
theorem sl_31 {Z : State} {a0 : Array Value} (hw : ∀ d ∈ tables_1, d.before a0 Z = true) : Jvm.RoadKit.slotOf Z "corro/core/Order" "next" "Lcorro/core/Order;" ≠ Jvm.RoadKit.slotOf Z "corro/core/Order" "quantity" "J" := slot_ne (C := "corro/core/Order") (Or.inl (wd_38 hw)) (Or.inl (wd_25 hw)) (by decide) (t := (.object "corro/core/Order")) (t' := .long) (by decide) (by decide)
theorem sl_32 {Z : State} {a0 : Array Value} (hw : ∀ d ∈ tables_1, d.before a0 Z = true) : Jvm.RoadKit.slotOf Z "corro/core/Order" "next" "Lcorro/core/Order;" ≠ Jvm.RoadKit.slotOf Z "corro/core/Order" "price" "J" := slot_ne (C := "corro/core/Order") (Or.inl (wd_38 hw)) (Or.inl (wd_27 hw)) (by decide) (t := (.object "corro/core/Order")) (t' := .long) (by decide) (by decide)
theorem sl_33 {Z : State} {a0 : Array Value} (hw : ∀ d ∈ tables_1, d.before a0 Z = true) : Jvm.RoadKit.slotOf Z "corro/core/Order" "quantity" "J" ≠ Jvm.RoadKit.slotOf Z "corro/core/Order" "price" "J" := slot_ne (C := "corro/core/Order") (Or.inl (wd_25 hw)) (Or.inl (wd_27 hw)) (by decide) (t := .long) (t' := .long) (by decide) (by decide)
theorem pn_1 : plainName "corro/core/Order" = true := by first | (simp [plainName, overriddenIn]; done) | decide +kernel
theorem ef_rmC (m : MethodId) (a1 : Addr) (q1 : Int64) (q2 : Int64) : entryFrame m #[(.ref a1), .null, .null, (.long q1), .null, (.long q2), .null] 9 = mkF m 0 #[.val (.ref a1), .val .null, .val .null, .val (.long q1), .second, .val .null, .val (.long q2), .second, .val .null] [] := by first | (simp [entryFrame, mkF, argsToLocals, Value.category]; done) | rfl
def Q_rmC (Z : State) (a1 : Addr) (q1 : Int64) (q2 : Int64) (u0 : Value) (u1 : Value) (u2 : Value) (u3 : Value) (u4 : Value) (u5 : Value) (h0 : Heap) (n0 : Nat) (v : Option Value) (h : Heap) (L : List Loc) : Prop := v = none ∧ Fr n0 L ∧ Keep h0 h [a1] ∧ Exa Z h a1 "corro/core/Order" ∧ Fld Z h a1 "corro/core/Order" "level" "Lcorro/core/Level;" .null ∧ Fld Z h a1 "corro/core/Order" "previous" "Lcorro/core/Order;" .null ∧ Fld Z h a1 "corro/core/Order" "next" "Lcorro/core/Order;" .null ∧ Fld Z h a1 "corro/core/Order" "quantity" "J" (.long q1) ∧ Fld Z h a1 "corro/core/Order" "price" "J" (.long q2)
set_option maxRecDepth 65536 in
set_option maxHeartbeats 40000000 in
theorem rmC (l : Launch) (Z : State) (a0 : Array Value) (hw : ∀ d ∈ tables_1, d.before a0 Z = true) (ws : List Jvm.Cond) (a1 : Addr) (q1 : Int64) (q2 : Int64) (u0 : Value) (u1 : Value) (u2 : Value) (u3 : Value) (u4 : Value) (u5 : Value) (h0 : Heap) (n0 : Nat) (Z0 : n0 ≤ h0.size) (E_a1 : Exa Z h0 a1 "corro/core/Order") (F_id_a1 : Fld Z h0 a1 "corro/core/Order" "id" "Ljava/lang/String;" u0) (F_side_a1 : Fld Z h0 a1 "corro/core/Order" "side" "Lcorro/core/Side;" u1) (F_type_a1 : Fld Z h0 a1 "corro/core/Order" "type" "Lcorro/core/OrderType;" u2) (F_timeInForce_a1 : Fld Z h0 a1 "corro/core/Order" "timeInForce" "Lcorro/core/TimeInForce;" u3) (F_quantity_a1 : Fld Z h0 a1 "corro/core/Order" "quantity" "J" u4) (F_price_a1 : Fld Z h0 a1 "corro/core/Order" "price" "J" u5) (F_level_a1 : Fld Z h0 a1 "corro/core/Order" "level" "Lcorro/core/Level;" .null) (F_previous_a1 : Fld Z h0 a1 "corro/core/Order" "previous" "Lcorro/core/Order;" .null) (F_next_a1 : Fld Z h0 a1 "corro/core/Order" "next" "Lcorro/core/Order;" .null) (g_a1 : n0 ≤ a1) :
    MetFree l (⟨"corro/core/Order", "<init>", "(Ljava/lang/String;Lcorro/core/Side;JLcorro/core/OrderType;JLcorro/core/TimeInForce;)V"⟩ : MethodName) (head1 (Jvm.Cond.code (⟨"corro/core/Order", "<init>", "(Ljava/lang/String;Lcorro/core/Side;JLcorro/core/OrderType;JLcorro/core/TimeInForce;)V"⟩ : MethodName) prog_18_method_1_code 9 none :: ws) ({ frames := 1, cells := 0, slots := 0, locals := 12 } : Room)) (fun a U => a = #[(.ref a1), .null, .null, (.long q1), .null, (.long q2), .null] ∧ Z.Warmed39 U.vm ∧ U.heap = h0) (fun _ _ _ _ _ => True) (fun _ U o U' => ∃ v L, o = .returned v ∧ Q_rmC Z a1 q1 q2 u0 u1 u2 u3 u4 u5 h0 n0 v U'.heap L ∧ FrameEnd U o U' L ({ frames := 1, cells := 0, slots := 0, locals := 12 } : Room).cells ({ frames := 1, cells := 0, slots := 0, locals := 12 } : Room).slots) := by
  refine MetFree.of_bodySF (plainFor_of_name pn_1) hisR ?_
  intro p e s m args below meth c s₁ Bd hml0 hP hK
  obtain ⟨rfl, hZ, hh⟩ := hP
  have hx := Bd.exec
  have hby := Bd.bytes
  have hml : c.maxLocals = 9 := hml0
  have hown : s.vm.findClass "corro/core/Order" = some m.cls := findClass_of_methodNamed Bd.named
  have hnm := (name_of_methodNamed Bd.named Bd.method).1
  have X0 : Stand p l e ({ frames := 1, cells := 0, slots := 0, locals := 12 } : Room) s m #[(.ref a1), .null, .null, (.long q1), .null, (.long q2), .null] below meth c s₁ [] 0 0 := Stand.of_body Bd
  have e0 : s₁.heap = h0 := by rw [← hh, Bd.state]; rfl
  have N0 := Fr.nil n0
  have K0 : Keep h0 h0 [a1] := Keep.refl _ _
  suffices G0 : own_G p e below (own_E s below (Q_rmC Z a1 q1 q2 u0 u1 u2 u3 u4 u5 h0 n0) ({ frames := 1, cells := 0, slots := 0, locals := 12 } : Room).cells ({ frames := 1, cells := 0, slots := 0, locals := 12 } : Room).slots) s₁ (mkF m 0 #[.val (.ref a1), .val .null, .val .null, .val (.long q1), .second, .val .null, .val (.long q2), .second, .val .null] []) by
    obtain ⟨zt, zst, zo, zq1, zq2, zq3⟩ := G0
    exact ⟨zt, zo, castTop (ef_rmC m a1 q1 q2) zst, zq1, zq2, zq3⟩
  obtain ⟨Φ, hΦ⟩ : ∃ Φ, Φ = own_E s below (Q_rmC Z a1 q1 q2 u0 u1 u2 u3 u4 u5 h0 n0) ({ frames := 1, cells := 0, slots := 0, locals := 12 } : Room).cells ({ frames := 1, cells := 0, slots := 0, locals := 12 } : Room).slots := ⟨_, rfl⟩
  rw [← hΦ]
  show own_G p e below Φ s₁ (mkF m 0 #[.val (.ref a1), .val .null, .val .null, .val (.long q1), .second, .val .null, .val (.long q2), .second, .val .null] [])
  refine own_go (fun _ => XS.aloadN X0.here hx rfl (hb hby d3_0) rfl rfl) ?_
  show own_G p e below Φ s₁ (mkF m 1 #[.val (.ref a1), .val .null, .val .null, .val (.long q1), .second, .val .null, .val (.long q2), .second, .val .null] [(.ref a1)])
  obtain ⟨T1, X1, e1, st1⟩ := initO X0 hx hZ hown (wd_15 hw) (wd_7 hw) (wd_8 hw) e0 (g := (mkF m 1 #[.val (.ref a1), .val .null, .val .null, .val (.long q1), .second, .val .null, .val (.long q2), .second, .val .null] [(.ref a1)])) rfl (by rw [hml]; rfl) rfl (hb hby d3_1) (by decide) (W := 0) (by show 2 * 0 + _ ≤ _; exact Nat.le_of_eq rfl) (by decide)
  refine own_go st1 ?_
  show own_G p e below Φ T1 (mkF m 4 #[.val (.ref a1), .val .null, .val .null, .val (.long q1), .second, .val .null, .val (.long q2), .second, .val .null] [])
  refine own_go (fun _ => XS.aloadN X1.here hx rfl (hb hby d3_4) rfl rfl) ?_
  show own_G p e below Φ T1 (mkF m 5 #[.val (.ref a1), .val .null, .val .null, .val (.long q1), .second, .val .null, .val (.long q2), .second, .val .null] [(.ref a1)])
  refine own_go (fun _ => XS.aloadN X1.here hx rfl (hb hby d3_5) rfl rfl) ?_
  show own_G p e below Φ T1 (mkF m 6 #[.val (.ref a1), .val .null, .val .null, .val (.long q1), .second, .val .null, .val (.long q2), .second, .val .null] [.null, (.ref a1)])
  obtain ⟨T2, h2, X2, e2, W2, st2⟩ := putF X1 hx hZ hown (host := "") (Or.inl (wd_16 hw)) Via.refl e1 F_id_a1 E_a1 (Or.inr ⟨(wd_17 hw), rfl, hnm⟩) (wd_10 hw) (ty := (.object "java/lang/String")) (by decide) rfl rfl (g := (mkF m 6 #[.val (.ref a1), .val .null, .val .null, .val (.long q1), .second, .val .null, .val (.long q2), .second, .val .null] [.null, (.ref a1)])) rfl rfl (hb hby d3_6)
  refine own_go st2 ?_
  have N2 := Fr.snoc X2 N0 g_a1
  have K2 := K0.wr W2 (Or.inl (List.mem_of_getElem? (i := 0) rfl))
  have Zp2 : n0 ≤ h2.size := Nat.le_trans Z0 (Keep.of_wr W2).1
  have f2w := F_id_a1.same W2
  show own_G p e below Φ T2 (mkF m 9 #[.val (.ref a1), .val .null, .val .null, .val (.long q1), .second, .val .null, .val (.long q2), .second, .val .null] [])
  refine own_go (fun _ => XS.aloadN X2.here hx rfl (hb hby d3_9) rfl rfl) ?_
  show own_G p e below Φ T2 (mkF m 10 #[.val (.ref a1), .val .null, .val .null, .val (.long q1), .second, .val .null, .val (.long q2), .second, .val .null] [(.ref a1)])
  refine own_go (fun _ => XS.aloadN X2.here hx rfl (hb hby d3_10) rfl rfl) ?_
  show own_G p e below Φ T2 (mkF m 11 #[.val (.ref a1), .val .null, .val .null, .val (.long q1), .second, .val .null, .val (.long q2), .second, .val .null] [.null, (.ref a1)])
  have f3 : Exa Z h2 a1 "corro/core/Order" := E_a1.wr W2
  have f4 : Fld Z h2 a1 "corro/core/Order" "side" "Lcorro/core/Side;" u1 := F_side_a1.other W2 (Or.inr (sl_0 hw))
  obtain ⟨T5, h5, X5, e5, W5, st5⟩ := putF X2 hx hZ hown (host := "") (Or.inl (wd_18 hw)) Via.refl e2 f4 f3 (Or.inr ⟨(wd_19 hw), rfl, hnm⟩) (wd_10 hw) (ty := (.object "corro/core/Side")) (by decide) rfl rfl (g := (mkF m 11 #[.val (.ref a1), .val .null, .val .null, .val (.long q1), .second, .val .null, .val (.long q2), .second, .val .null] [.null, (.ref a1)])) rfl rfl (hb hby d3_11)
  refine own_go st5 ?_
  have N5 := Fr.snoc X5 N2 g_a1
  have K5 := K2.wr W5 (Or.inl (List.mem_of_getElem? (i := 0) rfl))
  have Zp5 : n0 ≤ h5.size := Nat.le_trans Zp2 (Keep.of_wr W5).1
  have f5w := f4.same W5
  show own_G p e below Φ T5 (mkF m 14 #[.val (.ref a1), .val .null, .val .null, .val (.long q1), .second, .val .null, .val (.long q2), .second, .val .null] [])
  refine own_go (fun _ => XS.aloadN X5.here hx rfl (hb hby d3_14) rfl rfl) ?_
  show own_G p e below Φ T5 (mkF m 15 #[.val (.ref a1), .val .null, .val .null, .val (.long q1), .second, .val .null, .val (.long q2), .second, .val .null] [(.ref a1)])
  refine own_go (fun _ => XS.aload X5.here hx rfl (hb hby d3_15) rfl rfl) ?_
  show own_G p e below Φ T5 (mkF m 17 #[.val (.ref a1), .val .null, .val .null, .val (.long q1), .second, .val .null, .val (.long q2), .second, .val .null] [.null, (.ref a1)])
  have f6 : Exa Z h5 a1 "corro/core/Order" := f3.wr W5
  have f7 : Fld Z h2 a1 "corro/core/Order" "type" "Lcorro/core/OrderType;" u2 := F_type_a1.other W2 (Or.inr (sl_1 hw))
  have f8 : Fld Z h5 a1 "corro/core/Order" "type" "Lcorro/core/OrderType;" u2 := f7.other W5 (Or.inr (sl_2 hw))
  obtain ⟨T9, h9, X9, e9, W9, st9⟩ := putF X5 hx hZ hown (host := "") (Or.inl (wd_20 hw)) Via.refl e5 f8 f6 (Or.inr ⟨(wd_21 hw), rfl, hnm⟩) (wd_10 hw) (ty := (.object "corro/core/OrderType")) (by decide) rfl rfl (g := (mkF m 17 #[.val (.ref a1), .val .null, .val .null, .val (.long q1), .second, .val .null, .val (.long q2), .second, .val .null] [.null, (.ref a1)])) rfl rfl (hb hby d3_17)
  refine own_go st9 ?_
  have N9 := Fr.snoc X9 N5 g_a1
  have K9 := K5.wr W9 (Or.inl (List.mem_of_getElem? (i := 0) rfl))
  have Zp9 : n0 ≤ h9.size := Nat.le_trans Zp5 (Keep.of_wr W9).1
  have f9w := f8.same W9
  show own_G p e below Φ T9 (mkF m 20 #[.val (.ref a1), .val .null, .val .null, .val (.long q1), .second, .val .null, .val (.long q2), .second, .val .null] [])
  refine own_go (fun _ => XS.aloadN X9.here hx rfl (hb hby d3_20) rfl rfl) ?_
  show own_G p e below Φ T9 (mkF m 21 #[.val (.ref a1), .val .null, .val .null, .val (.long q1), .second, .val .null, .val (.long q2), .second, .val .null] [(.ref a1)])
  refine own_go (fun _ => XS.aload X9.here hx rfl (hb hby d3_21) rfl rfl) ?_
  show own_G p e below Φ T9 (mkF m 23 #[.val (.ref a1), .val .null, .val .null, .val (.long q1), .second, .val .null, .val (.long q2), .second, .val .null] [.null, (.ref a1)])
  have f10 : Exa Z h9 a1 "corro/core/Order" := f6.wr W9
  have f11 : Fld Z h2 a1 "corro/core/Order" "timeInForce" "Lcorro/core/TimeInForce;" u3 := F_timeInForce_a1.other W2 (Or.inr (sl_3 hw))
  have f12 : Fld Z h5 a1 "corro/core/Order" "timeInForce" "Lcorro/core/TimeInForce;" u3 := f11.other W5 (Or.inr (sl_4 hw))
  have f13 : Fld Z h9 a1 "corro/core/Order" "timeInForce" "Lcorro/core/TimeInForce;" u3 := f12.other W9 (Or.inr (sl_5 hw))
  obtain ⟨T14, h14, X14, e14, W14, st14⟩ := putF X9 hx hZ hown (host := "") (Or.inl (wd_22 hw)) Via.refl e9 f13 f10 (Or.inr ⟨(wd_23 hw), rfl, hnm⟩) (wd_10 hw) (ty := (.object "corro/core/TimeInForce")) (by decide) rfl rfl (g := (mkF m 23 #[.val (.ref a1), .val .null, .val .null, .val (.long q1), .second, .val .null, .val (.long q2), .second, .val .null] [.null, (.ref a1)])) rfl rfl (hb hby d3_23)
  refine own_go st14 ?_
  have N14 := Fr.snoc X14 N9 g_a1
  have K14 := K9.wr W14 (Or.inl (List.mem_of_getElem? (i := 0) rfl))
  have Zp14 : n0 ≤ h14.size := Nat.le_trans Zp9 (Keep.of_wr W14).1
  have f14w := f13.same W14
  show own_G p e below Φ T14 (mkF m 26 #[.val (.ref a1), .val .null, .val .null, .val (.long q1), .second, .val .null, .val (.long q2), .second, .val .null] [])
  refine own_go (fun _ => XS.aloadN X14.here hx rfl (hb hby d3_26) rfl rfl) ?_
  show own_G p e below Φ T14 (mkF m 27 #[.val (.ref a1), .val .null, .val .null, .val (.long q1), .second, .val .null, .val (.long q2), .second, .val .null] [(.ref a1)])
  refine own_go (fun _ => XS.lloadN X14.here hx rfl (hb hby d3_27) rfl) ?_
  show own_G p e below Φ T14 (mkF m 28 #[.val (.ref a1), .val .null, .val .null, .val (.long q1), .second, .val .null, .val (.long q2), .second, .val .null] [(.long q1), (.ref a1)])
  have f15 : Exa Z h14 a1 "corro/core/Order" := f10.wr W14
  have f16 : Fld Z h2 a1 "corro/core/Order" "quantity" "J" u4 := F_quantity_a1.other W2 (Or.inr (sl_6 hw))
  have f17 : Fld Z h5 a1 "corro/core/Order" "quantity" "J" u4 := f16.other W5 (Or.inr (sl_7 hw))
  have f18 : Fld Z h9 a1 "corro/core/Order" "quantity" "J" u4 := f17.other W9 (Or.inr (sl_8 hw))
  have f19 : Fld Z h14 a1 "corro/core/Order" "quantity" "J" u4 := f18.other W14 (Or.inr (sl_9 hw))
  obtain ⟨T20, h20, X20, e20, W20, st20⟩ := putF X14 hx hZ hown (host := "") (Or.inl (wd_24 hw)) Via.refl e14 f19 f15 (Or.inl (wd_25 hw)) (wd_10 hw) (ty := .long) (by decide) rfl rfl (g := (mkF m 28 #[.val (.ref a1), .val .null, .val .null, .val (.long q1), .second, .val .null, .val (.long q2), .second, .val .null] [(.long q1), (.ref a1)])) rfl rfl (hb hby d3_28)
  refine own_go st20 ?_
  have N20 := Fr.snoc X20 N14 g_a1
  have K20 := K14.wr W20 (Or.inl (List.mem_of_getElem? (i := 0) rfl))
  have Zp20 : n0 ≤ h20.size := Nat.le_trans Zp14 (Keep.of_wr W20).1
  have f20w := f19.same W20
  show own_G p e below Φ T20 (mkF m 31 #[.val (.ref a1), .val .null, .val .null, .val (.long q1), .second, .val .null, .val (.long q2), .second, .val .null] [])
  refine own_go (fun _ => XS.aloadN X20.here hx rfl (hb hby d3_31) rfl rfl) ?_
  show own_G p e below Φ T20 (mkF m 32 #[.val (.ref a1), .val .null, .val .null, .val (.long q1), .second, .val .null, .val (.long q2), .second, .val .null] [(.ref a1)])
  refine own_go (fun _ => XS.lload X20.here hx rfl (hb hby d3_32) rfl) ?_
  show own_G p e below Φ T20 (mkF m 34 #[.val (.ref a1), .val .null, .val .null, .val (.long q1), .second, .val .null, .val (.long q2), .second, .val .null] [(.long q2), (.ref a1)])
  have f21 : Exa Z h20 a1 "corro/core/Order" := f15.wr W20
  have f22 : Fld Z h2 a1 "corro/core/Order" "price" "J" u5 := F_price_a1.other W2 (Or.inr (sl_10 hw))
  have f23 : Fld Z h5 a1 "corro/core/Order" "price" "J" u5 := f22.other W5 (Or.inr (sl_11 hw))
  have f24 : Fld Z h9 a1 "corro/core/Order" "price" "J" u5 := f23.other W9 (Or.inr (sl_12 hw))
  have f25 : Fld Z h14 a1 "corro/core/Order" "price" "J" u5 := f24.other W14 (Or.inr (sl_13 hw))
  have f26 : Fld Z h20 a1 "corro/core/Order" "price" "J" u5 := f25.other W20 (Or.inr (sl_14 hw))
  obtain ⟨T27, h27, X27, e27, W27, st27⟩ := putF X20 hx hZ hown (host := "") (Or.inl (wd_26 hw)) Via.refl e20 f26 f21 (Or.inl (wd_27 hw)) (wd_10 hw) (ty := .long) (by decide) rfl rfl (g := (mkF m 34 #[.val (.ref a1), .val .null, .val .null, .val (.long q1), .second, .val .null, .val (.long q2), .second, .val .null] [(.long q2), (.ref a1)])) rfl rfl (hb hby d3_34)
  refine own_go st27 ?_
  have N27 := Fr.snoc X27 N20 g_a1
  have K27 := K20.wr W27 (Or.inl (List.mem_of_getElem? (i := 0) rfl))
  have Zp27 : n0 ≤ h27.size := Nat.le_trans Zp20 (Keep.of_wr W27).1
  have f27w := f26.same W27
  show own_G p e below Φ T27 (mkF m 37 #[.val (.ref a1), .val .null, .val .null, .val (.long q1), .second, .val .null, .val (.long q2), .second, .val .null] [])
  have f28 : Exa Z h27 a1 "corro/core/Order" := f21.wr W27
  have f29 : Fld Z h2 a1 "corro/core/Order" "level" "Lcorro/core/Level;" .null := F_level_a1.other W2 (Or.inr (sl_15 hw))
  have f30 : Fld Z h5 a1 "corro/core/Order" "level" "Lcorro/core/Level;" .null := f29.other W5 (Or.inr (sl_16 hw))
  have f31 : Fld Z h9 a1 "corro/core/Order" "level" "Lcorro/core/Level;" .null := f30.other W9 (Or.inr (sl_17 hw))
  have f32 : Fld Z h14 a1 "corro/core/Order" "level" "Lcorro/core/Level;" .null := f31.other W14 (Or.inr (sl_18 hw))
  have f33 : Fld Z h20 a1 "corro/core/Order" "level" "Lcorro/core/Level;" .null := f32.other W20 (Or.inr (sl_19 hw))
  have f34 : Fld Z h27 a1 "corro/core/Order" "level" "Lcorro/core/Level;" .null := f33.other W27 (Or.inr (sl_20 hw))
  have f35 : Fld Z h2 a1 "corro/core/Order" "previous" "Lcorro/core/Order;" .null := F_previous_a1.other W2 (Or.inr (sl_21 hw))
  have f36 : Fld Z h5 a1 "corro/core/Order" "previous" "Lcorro/core/Order;" .null := f35.other W5 (Or.inr (sl_22 hw))
  have f37 : Fld Z h9 a1 "corro/core/Order" "previous" "Lcorro/core/Order;" .null := f36.other W9 (Or.inr (sl_23 hw))
  have f38 : Fld Z h14 a1 "corro/core/Order" "previous" "Lcorro/core/Order;" .null := f37.other W14 (Or.inr (sl_24 hw))
  have f39 : Fld Z h20 a1 "corro/core/Order" "previous" "Lcorro/core/Order;" .null := f38.other W20 (Or.inr (sl_25 hw))
  have f40 : Fld Z h27 a1 "corro/core/Order" "previous" "Lcorro/core/Order;" .null := f39.other W27 (Or.inr (sl_26 hw))
  have f41 : Fld Z h2 a1 "corro/core/Order" "next" "Lcorro/core/Order;" .null := F_next_a1.other W2 (Or.inr (sl_27 hw))
  have f42 : Fld Z h5 a1 "corro/core/Order" "next" "Lcorro/core/Order;" .null := f41.other W5 (Or.inr (sl_28 hw))
  have f43 : Fld Z h9 a1 "corro/core/Order" "next" "Lcorro/core/Order;" .null := f42.other W9 (Or.inr (sl_29 hw))
  have f44 : Fld Z h14 a1 "corro/core/Order" "next" "Lcorro/core/Order;" .null := f43.other W14 (Or.inr (sl_30 hw))
  have f45 : Fld Z h20 a1 "corro/core/Order" "next" "Lcorro/core/Order;" .null := f44.other W20 (Or.inr (sl_31 hw))
  have f46 : Fld Z h27 a1 "corro/core/Order" "next" "Lcorro/core/Order;" .null := f45.other W27 (Or.inr (sl_32 hw))
  have f47 : Fld Z h27 a1 "corro/core/Order" "quantity" "J" (.long q1) := f20w.other W27 (Or.inr (sl_33 hw))
  rw [hΦ]
  refine own_ret X27 (v := none) (fun _ => rfl) (BodyLoose.notSynchronized Bd) (fun fs hr => X27.returnOut hx Bd.returns (hb hby d3_37) hr) ?_ (by decide) (by decide)
  rw [e27]
  exact ⟨rfl, N27, K27, f28, f34, f40, f46, f47, f27w⟩
theorem d4_0 : decode prog_18_method_19_code 0 = .ok (.aload_n 0, 1) := by decide +kernel
theorem d4_1 : decode prog_18_method_19_code 1 = .ok (.aload_n 1, 1) := by decide +kernel
theorem d4_2 : decode prog_18_method_19_code 2 = .ok (.putfield 48, 3) := by decide +kernel
theorem wd_33 {Z : State} {a0 : Array Value} (hw : ∀ d ∈ tables_1, d.before a0 Z = true) : ((Jvm.Cond.fieldLink "corro/core/Order" (48 : Nat) "corro/core/Order" "level" "Lcorro/core/Level;") : Jvm.Cond).before a0 Z = true := hw _ (List.mem_of_getElem? (i := 33) rfl)
theorem d4_5 : decode prog_18_method_19_code 5 = .ok (.aload_n 0, 1) := by decide +kernel
theorem d4_6 : decode prog_18_method_19_code 6 = .ok (.aload_n 2, 1) := by decide +kernel
theorem d4_7 : decode prog_18_method_19_code 7 = .ok (.putfield 56, 3) := by decide +kernel
theorem wd_35 {Z : State} {a0 : Array Value} (hw : ∀ d ∈ tables_1, d.before a0 Z = true) : ((Jvm.Cond.fieldLink "corro/core/Order" (56 : Nat) "corro/core/Order" "previous" "Lcorro/core/Order;") : Jvm.Cond).before a0 Z = true := hw _ (List.mem_of_getElem? (i := 35) rfl)
theorem sl_34 {Z : State} {a0 : Array Value} (hw : ∀ d ∈ tables_1, d.before a0 Z = true) : Jvm.RoadKit.slotOf Z "corro/core/Order" "previous" "Lcorro/core/Order;" ≠ Jvm.RoadKit.slotOf Z "corro/core/Order" "level" "Lcorro/core/Level;" := slot_ne (C := "corro/core/Order") (Or.inl (wd_36 hw)) (Or.inl (wd_34 hw)) (by decide) (t := (.object "corro/core/Order")) (t' := (.object "corro/core/Level")) (by decide) (by decide)
theorem d4_10 : decode prog_18_method_19_code 10 = .ok (.aload_n 0, 1) := by decide +kernel
theorem d4_11 : decode prog_18_method_19_code 11 = .ok (.aconst_null, 1) := by decide +kernel
theorem d4_12 : decode prog_18_method_19_code 12 = .ok (.putfield 52, 3) := by decide +kernel
theorem wd_37 {Z : State} {a0 : Array Value} (hw : ∀ d ∈ tables_1, d.before a0 Z = true) : ((Jvm.Cond.fieldLink "corro/core/Order" (52 : Nat) "corro/core/Order" "next" "Lcorro/core/Order;") : Jvm.Cond).before a0 Z = true := hw _ (List.mem_of_getElem? (i := 37) rfl)
theorem sl_35 {Z : State} {a0 : Array Value} (hw : ∀ d ∈ tables_1, d.before a0 Z = true) : Jvm.RoadKit.slotOf Z "corro/core/Order" "next" "Lcorro/core/Order;" ≠ Jvm.RoadKit.slotOf Z "corro/core/Order" "level" "Lcorro/core/Level;" := slot_ne (C := "corro/core/Order") (Or.inl (wd_38 hw)) (Or.inl (wd_34 hw)) (by decide) (t := (.object "corro/core/Order")) (t' := (.object "corro/core/Level")) (by decide) (by decide)
theorem sl_36 {Z : State} {a0 : Array Value} (hw : ∀ d ∈ tables_1, d.before a0 Z = true) : Jvm.RoadKit.slotOf Z "corro/core/Order" "next" "Lcorro/core/Order;" ≠ Jvm.RoadKit.slotOf Z "corro/core/Order" "previous" "Lcorro/core/Order;" := slot_ne (C := "corro/core/Order") (Or.inl (wd_38 hw)) (Or.inl (wd_36 hw)) (by decide) (t := (.object "corro/core/Order")) (t' := (.object "corro/core/Order")) (by decide) (by decide)
theorem d4_15 : decode prog_18_method_19_code 15 = .ok (.aload_n 2, 1) := by decide +kernel
theorem d4_16 : decode prog_18_method_19_code 16 = .ok (.ifnull 8, 3) := by decide +kernel
theorem d4_24 : decode prog_18_method_19_code 24 = .ok (.return_, 1) := by decide +kernel
theorem sl_37 {Z : State} {a0 : Array Value} (hw : ∀ d ∈ tables_1, d.before a0 Z = true) : Jvm.RoadKit.slotOf Z "corro/core/Order" "level" "Lcorro/core/Level;" ≠ Jvm.RoadKit.slotOf Z "corro/core/Order" "previous" "Lcorro/core/Order;" := slot_ne (C := "corro/core/Order") (Or.inl (wd_34 hw)) (Or.inl (wd_36 hw)) (by decide) (t := (.object "corro/core/Level")) (t' := (.object "corro/core/Order")) (by decide) (by decide)
theorem sl_38 {Z : State} {a0 : Array Value} (hw : ∀ d ∈ tables_1, d.before a0 Z = true) : Jvm.RoadKit.slotOf Z "corro/core/Order" "level" "Lcorro/core/Level;" ≠ Jvm.RoadKit.slotOf Z "corro/core/Order" "next" "Lcorro/core/Order;" := slot_ne (C := "corro/core/Order") (Or.inl (wd_34 hw)) (Or.inl (wd_38 hw)) (by decide) (t := (.object "corro/core/Level")) (t' := (.object "corro/core/Order")) (by decide) (by decide)
theorem sl_39 {Z : State} {a0 : Array Value} (hw : ∀ d ∈ tables_1, d.before a0 Z = true) : Jvm.RoadKit.slotOf Z "corro/core/Order" "previous" "Lcorro/core/Order;" ≠ Jvm.RoadKit.slotOf Z "corro/core/Order" "next" "Lcorro/core/Order;" := slot_ne (C := "corro/core/Order") (Or.inl (wd_36 hw)) (Or.inl (wd_38 hw)) (by decide) (t := (.object "corro/core/Order")) (t' := (.object "corro/core/Order")) (by decide) (by decide)
theorem sl_40 {Z : State} {a0 : Array Value} (hw : ∀ d ∈ tables_1, d.before a0 Z = true) : Jvm.RoadKit.slotOf Z "corro/core/Order" "quantity" "J" ≠ Jvm.RoadKit.slotOf Z "corro/core/Order" "level" "Lcorro/core/Level;" := slot_ne (C := "corro/core/Order") (Or.inl (wd_25 hw)) (Or.inl (wd_34 hw)) (by decide) (t := .long) (t' := (.object "corro/core/Level")) (by decide) (by decide)
theorem sl_41 {Z : State} {a0 : Array Value} (hw : ∀ d ∈ tables_1, d.before a0 Z = true) : Jvm.RoadKit.slotOf Z "corro/core/Order" "quantity" "J" ≠ Jvm.RoadKit.slotOf Z "corro/core/Order" "previous" "Lcorro/core/Order;" := slot_ne (C := "corro/core/Order") (Or.inl (wd_25 hw)) (Or.inl (wd_36 hw)) (by decide) (t := .long) (t' := (.object "corro/core/Order")) (by decide) (by decide)
theorem sl_42 {Z : State} {a0 : Array Value} (hw : ∀ d ∈ tables_1, d.before a0 Z = true) : Jvm.RoadKit.slotOf Z "corro/core/Order" "quantity" "J" ≠ Jvm.RoadKit.slotOf Z "corro/core/Order" "next" "Lcorro/core/Order;" := slot_ne (C := "corro/core/Order") (Or.inl (wd_25 hw)) (Or.inl (wd_38 hw)) (by decide) (t := .long) (t' := (.object "corro/core/Order")) (by decide) (by decide)
theorem sl_43 {Z : State} {a0 : Array Value} (hw : ∀ d ∈ tables_1, d.before a0 Z = true) : Jvm.RoadKit.slotOf Z "corro/core/Order" "price" "J" ≠ Jvm.RoadKit.slotOf Z "corro/core/Order" "level" "Lcorro/core/Level;" := slot_ne (C := "corro/core/Order") (Or.inl (wd_27 hw)) (Or.inl (wd_34 hw)) (by decide) (t := .long) (t' := (.object "corro/core/Level")) (by decide) (by decide)
theorem sl_44 {Z : State} {a0 : Array Value} (hw : ∀ d ∈ tables_1, d.before a0 Z = true) : Jvm.RoadKit.slotOf Z "corro/core/Order" "price" "J" ≠ Jvm.RoadKit.slotOf Z "corro/core/Order" "previous" "Lcorro/core/Order;" := slot_ne (C := "corro/core/Order") (Or.inl (wd_27 hw)) (Or.inl (wd_36 hw)) (by decide) (t := .long) (t' := (.object "corro/core/Order")) (by decide) (by decide)
theorem sl_45 {Z : State} {a0 : Array Value} (hw : ∀ d ∈ tables_1, d.before a0 Z = true) : Jvm.RoadKit.slotOf Z "corro/core/Order" "price" "J" ≠ Jvm.RoadKit.slotOf Z "corro/core/Order" "next" "Lcorro/core/Order;" := slot_ne (C := "corro/core/Order") (Or.inl (wd_27 hw)) (Or.inl (wd_38 hw)) (by decide) (t := .long) (t' := (.object "corro/core/Order")) (by decide) (by decide)
theorem ef_rmJN (m : MethodId) (a1 : Addr) (a2 : Addr) : entryFrame m #[(.ref a1), (.ref a2), .null] 3 = mkF m 0 #[.val (.ref a1), .val (.ref a2), .val .null] [] := by first | (simp [entryFrame, mkF, argsToLocals, Value.category]; done) | rfl
def Q_rmJN (Z : State) (a1 : Addr) (a2 : Addr) (l1 : Value) (v1 : Value) (x1 : Value) (q1 : Int64) (q2 : Int64) (h0 : Heap) (n0 : Nat) (v : Option Value) (h : Heap) (L : List Loc) : Prop := v = none ∧ Fr n0 L ∧ Keep h0 h [a1] ∧ Exa Z h a1 "corro/core/Order" ∧ Fld Z h a1 "corro/core/Order" "level" "Lcorro/core/Level;" (.ref a2) ∧ Fld Z h a1 "corro/core/Order" "previous" "Lcorro/core/Order;" .null ∧ Fld Z h a1 "corro/core/Order" "next" "Lcorro/core/Order;" .null ∧ Fld Z h a1 "corro/core/Order" "quantity" "J" (.long q1) ∧ Fld Z h a1 "corro/core/Order" "price" "J" (.long q2)
set_option maxRecDepth 65536 in
set_option maxHeartbeats 40000000 in
theorem rmJN (l : Launch) (Z : State) (a0 : Array Value) (hw : ∀ d ∈ tables_1, d.before a0 Z = true) (ws : List Jvm.Cond) (a1 : Addr) (a2 : Addr) (l1 : Value) (v1 : Value) (x1 : Value) (q1 : Int64) (q2 : Int64) (h0 : Heap) (n0 : Nat) (Z0 : n0 ≤ h0.size) (E_a1 : Exa Z h0 a1 "corro/core/Order") (F_level_a1 : Fld Z h0 a1 "corro/core/Order" "level" "Lcorro/core/Level;" l1) (F_previous_a1 : Fld Z h0 a1 "corro/core/Order" "previous" "Lcorro/core/Order;" v1) (F_next_a1 : Fld Z h0 a1 "corro/core/Order" "next" "Lcorro/core/Order;" x1) (F_quantity_a1 : Fld Z h0 a1 "corro/core/Order" "quantity" "J" (.long q1)) (F_price_a1 : Fld Z h0 a1 "corro/core/Order" "price" "J" (.long q2)) (g_a1 : n0 ≤ a1) :
    MetFree l (⟨"corro/core/Order", "join", "(Lcorro/core/Level;Lcorro/core/Order;)V"⟩ : MethodName) (head1 (Jvm.Cond.code (⟨"corro/core/Order", "join", "(Lcorro/core/Level;Lcorro/core/Order;)V"⟩ : MethodName) prog_18_method_19_code 3 none :: ws) ({ frames := 0, cells := 0, slots := 0, locals := 0 } : Room)) (fun a U => a = #[(.ref a1), (.ref a2), .null] ∧ Z.Warmed39 U.vm ∧ U.heap = h0) (fun _ _ _ _ _ => True) (fun _ U o U' => ∃ v L, o = .returned v ∧ Q_rmJN Z a1 a2 l1 v1 x1 q1 q2 h0 n0 v U'.heap L ∧ FrameEnd U o U' L ({ frames := 0, cells := 0, slots := 0, locals := 0 } : Room).cells ({ frames := 0, cells := 0, slots := 0, locals := 0 } : Room).slots) := by
  refine MetFree.of_bodySF (plainFor_of_name pn_1) hisR ?_
  intro p e s m args below meth c s₁ Bd hml0 hP hK
  obtain ⟨rfl, hZ, hh⟩ := hP
  have hx := Bd.exec
  have hby := Bd.bytes
  have hml : c.maxLocals = 3 := hml0
  have hown : s.vm.findClass "corro/core/Order" = some m.cls := findClass_of_methodNamed Bd.named
  have hnm := (name_of_methodNamed Bd.named Bd.method).1
  have X0 : Stand p l e ({ frames := 0, cells := 0, slots := 0, locals := 0 } : Room) s m #[(.ref a1), (.ref a2), .null] below meth c s₁ [] 0 0 := Stand.of_body Bd
  have e0 : s₁.heap = h0 := by rw [← hh, Bd.state]; rfl
  have N0 := Fr.nil n0
  have K0 : Keep h0 h0 [a1] := Keep.refl _ _
  suffices G0 : own_G p e below (own_E s below (Q_rmJN Z a1 a2 l1 v1 x1 q1 q2 h0 n0) ({ frames := 0, cells := 0, slots := 0, locals := 0 } : Room).cells ({ frames := 0, cells := 0, slots := 0, locals := 0 } : Room).slots) s₁ (mkF m 0 #[.val (.ref a1), .val (.ref a2), .val .null] []) by
    obtain ⟨zt, zst, zo, zq1, zq2, zq3⟩ := G0
    exact ⟨zt, zo, castTop (ef_rmJN m a1 a2) zst, zq1, zq2, zq3⟩
  obtain ⟨Φ, hΦ⟩ : ∃ Φ, Φ = own_E s below (Q_rmJN Z a1 a2 l1 v1 x1 q1 q2 h0 n0) ({ frames := 0, cells := 0, slots := 0, locals := 0 } : Room).cells ({ frames := 0, cells := 0, slots := 0, locals := 0 } : Room).slots := ⟨_, rfl⟩
  rw [← hΦ]
  show own_G p e below Φ s₁ (mkF m 0 #[.val (.ref a1), .val (.ref a2), .val .null] [])
  refine own_go (fun _ => XS.aloadN X0.here hx rfl (hb hby d4_0) rfl rfl) ?_
  show own_G p e below Φ s₁ (mkF m 1 #[.val (.ref a1), .val (.ref a2), .val .null] [(.ref a1)])
  refine own_go (fun _ => XS.aloadN X0.here hx rfl (hb hby d4_1) rfl rfl) ?_
  show own_G p e below Φ s₁ (mkF m 2 #[.val (.ref a1), .val (.ref a2), .val .null] [(.ref a2), (.ref a1)])
  obtain ⟨T1, h1, X1, e1, W1, st1⟩ := putF X0 hx hZ hown (host := "") (Or.inl (wd_33 hw)) Via.refl e0 F_level_a1 E_a1 (Or.inl (wd_34 hw)) (wd_10 hw) (ty := (.object "corro/core/Level")) (by decide) rfl rfl (g := (mkF m 2 #[.val (.ref a1), .val (.ref a2), .val .null] [(.ref a2), (.ref a1)])) rfl rfl (hb hby d4_2)
  refine own_go st1 ?_
  have N1 := Fr.snoc X1 N0 g_a1
  have K1 := K0.wr W1 (Or.inl (List.mem_of_getElem? (i := 0) rfl))
  have Zp1 : n0 ≤ h1.size := Nat.le_trans Z0 (Keep.of_wr W1).1
  have f1w := F_level_a1.same W1
  show own_G p e below Φ T1 (mkF m 5 #[.val (.ref a1), .val (.ref a2), .val .null] [])
  refine own_go (fun _ => XS.aloadN X1.here hx rfl (hb hby d4_5) rfl rfl) ?_
  show own_G p e below Φ T1 (mkF m 6 #[.val (.ref a1), .val (.ref a2), .val .null] [(.ref a1)])
  refine own_go (fun _ => XS.aloadN X1.here hx rfl (hb hby d4_6) rfl rfl) ?_
  show own_G p e below Φ T1 (mkF m 7 #[.val (.ref a1), .val (.ref a2), .val .null] [.null, (.ref a1)])
  have f2 : Exa Z h1 a1 "corro/core/Order" := E_a1.wr W1
  have f3 : Fld Z h1 a1 "corro/core/Order" "previous" "Lcorro/core/Order;" v1 := F_previous_a1.other W1 (Or.inr (sl_34 hw))
  obtain ⟨T4, h4, X4, e4, W4, st4⟩ := putF X1 hx hZ hown (host := "") (Or.inl (wd_35 hw)) Via.refl e1 f3 f2 (Or.inl (wd_36 hw)) (wd_10 hw) (ty := (.object "corro/core/Order")) (by decide) rfl rfl (g := (mkF m 7 #[.val (.ref a1), .val (.ref a2), .val .null] [.null, (.ref a1)])) rfl rfl (hb hby d4_7)
  refine own_go st4 ?_
  have N4 := Fr.snoc X4 N1 g_a1
  have K4 := K1.wr W4 (Or.inl (List.mem_of_getElem? (i := 0) rfl))
  have Zp4 : n0 ≤ h4.size := Nat.le_trans Zp1 (Keep.of_wr W4).1
  have f4w := f3.same W4
  show own_G p e below Φ T4 (mkF m 10 #[.val (.ref a1), .val (.ref a2), .val .null] [])
  refine own_go (fun _ => XS.aloadN X4.here hx rfl (hb hby d4_10) rfl rfl) ?_
  show own_G p e below Φ T4 (mkF m 11 #[.val (.ref a1), .val (.ref a2), .val .null] [(.ref a1)])
  refine own_go (fun _ => XS.aconstNull X4.here hx rfl (hb hby d4_11)) ?_
  show own_G p e below Φ T4 (mkF m 12 #[.val (.ref a1), .val (.ref a2), .val .null] [.null, (.ref a1)])
  have f5 : Exa Z h4 a1 "corro/core/Order" := f2.wr W4
  have f6 : Fld Z h1 a1 "corro/core/Order" "next" "Lcorro/core/Order;" x1 := F_next_a1.other W1 (Or.inr (sl_35 hw))
  have f7 : Fld Z h4 a1 "corro/core/Order" "next" "Lcorro/core/Order;" x1 := f6.other W4 (Or.inr (sl_36 hw))
  obtain ⟨T8, h8, X8, e8, W8, st8⟩ := putF X4 hx hZ hown (host := "") (Or.inl (wd_37 hw)) Via.refl e4 f7 f5 (Or.inl (wd_38 hw)) (wd_10 hw) (ty := (.object "corro/core/Order")) (by decide) rfl rfl (g := (mkF m 12 #[.val (.ref a1), .val (.ref a2), .val .null] [.null, (.ref a1)])) rfl rfl (hb hby d4_12)
  refine own_go st8 ?_
  have N8 := Fr.snoc X8 N4 g_a1
  have K8 := K4.wr W8 (Or.inl (List.mem_of_getElem? (i := 0) rfl))
  have Zp8 : n0 ≤ h8.size := Nat.le_trans Zp4 (Keep.of_wr W8).1
  have f8w := f7.same W8
  show own_G p e below Φ T8 (mkF m 15 #[.val (.ref a1), .val (.ref a2), .val .null] [])
  refine own_go (fun _ => XS.aloadN X8.here hx rfl (hb hby d4_15) rfl rfl) ?_
  show own_G p e below Φ T8 (mkF m 16 #[.val (.ref a1), .val (.ref a2), .val .null] [.null])
  refine own_go (fun _ => XS.ifnullYes X8.here hx rfl (pc0 := 16) (pc' := 24) rfl (hb hby d4_16) rfl (by decide) (by decide)) ?_
  show own_G p e below Φ T8 (mkF m 24 #[.val (.ref a1), .val (.ref a2), .val .null] [])
  have f9 : Exa Z h8 a1 "corro/core/Order" := f5.wr W8
  have f10 : Fld Z h4 a1 "corro/core/Order" "level" "Lcorro/core/Level;" (.ref a2) := f1w.other W4 (Or.inr (sl_37 hw))
  have f11 : Fld Z h8 a1 "corro/core/Order" "level" "Lcorro/core/Level;" (.ref a2) := f10.other W8 (Or.inr (sl_38 hw))
  have f12 : Fld Z h8 a1 "corro/core/Order" "previous" "Lcorro/core/Order;" .null := f4w.other W8 (Or.inr (sl_39 hw))
  have f13 : Fld Z h1 a1 "corro/core/Order" "quantity" "J" (.long q1) := F_quantity_a1.other W1 (Or.inr (sl_40 hw))
  have f14 : Fld Z h4 a1 "corro/core/Order" "quantity" "J" (.long q1) := f13.other W4 (Or.inr (sl_41 hw))
  have f15 : Fld Z h8 a1 "corro/core/Order" "quantity" "J" (.long q1) := f14.other W8 (Or.inr (sl_42 hw))
  have f16 : Fld Z h1 a1 "corro/core/Order" "price" "J" (.long q2) := F_price_a1.other W1 (Or.inr (sl_43 hw))
  have f17 : Fld Z h4 a1 "corro/core/Order" "price" "J" (.long q2) := f16.other W4 (Or.inr (sl_44 hw))
  have f18 : Fld Z h8 a1 "corro/core/Order" "price" "J" (.long q2) := f17.other W8 (Or.inr (sl_45 hw))
  rw [hΦ]
  refine own_ret X8 (v := none) (fun _ => rfl) (BodyLoose.notSynchronized Bd) (fun fs hr => X8.returnOut hx Bd.returns (hb hby d4_24) hr) ?_ (by decide) (by decide)
  rw [e8]
  exact ⟨rfl, N8, K8, f9, f11, f12, f8w, f15, f18⟩
theorem d4_19 : decode prog_18_method_19_code 19 = .ok (.aload_n 2, 1) := by decide +kernel
theorem d4_20 : decode prog_18_method_19_code 20 = .ok (.aload_n 0, 1) := by decide +kernel
theorem d4_21 : decode prog_18_method_19_code 21 = .ok (.putfield 52, 3) := by decide +kernel
theorem ef_rmJO (m : MethodId) (a1 : Addr) (a2 : Addr) (a3 : Addr) : entryFrame m #[(.ref a1), (.ref a2), (.ref a3)] 3 = mkF m 0 #[.val (.ref a1), .val (.ref a2), .val (.ref a3)] [] := by first | (simp [entryFrame, mkF, argsToLocals, Value.category]; done) | rfl
def Q_rmJO (Z : State) (a1 : Addr) (a2 : Addr) (a3 : Addr) (l1 : Value) (v1 : Value) (x1 : Value) (l3 : Value) (v3 : Value) (x3 : Value) (q1 : Int64) (q2 : Int64) (q3 : Int64) (q4 : Int64) (h0 : Heap) (n0 : Nat) (v : Option Value) (h : Heap) (L : List Loc) : Prop := v = none ∧ Fr n0 L ∧ Keep h0 h [a1, a3] ∧ Exa Z h a1 "corro/core/Order" ∧ Fld Z h a1 "corro/core/Order" "level" "Lcorro/core/Level;" (.ref a2) ∧ Fld Z h a1 "corro/core/Order" "previous" "Lcorro/core/Order;" (.ref a3) ∧ Fld Z h a1 "corro/core/Order" "next" "Lcorro/core/Order;" .null ∧ Fld Z h a3 "corro/core/Order" "level" "Lcorro/core/Level;" l3 ∧ Fld Z h a3 "corro/core/Order" "previous" "Lcorro/core/Order;" v3 ∧ Fld Z h a3 "corro/core/Order" "next" "Lcorro/core/Order;" (.ref a1) ∧ Fld Z h a1 "corro/core/Order" "quantity" "J" (.long q1) ∧ Fld Z h a1 "corro/core/Order" "price" "J" (.long q2) ∧ Fld Z h a3 "corro/core/Order" "quantity" "J" (.long q3) ∧ Fld Z h a3 "corro/core/Order" "price" "J" (.long q4)
set_option maxRecDepth 65536 in
set_option maxHeartbeats 40000000 in
theorem rmJO (l : Launch) (Z : State) (a0 : Array Value) (hw : ∀ d ∈ tables_1, d.before a0 Z = true) (ws : List Jvm.Cond) (a1 : Addr) (a2 : Addr) (a3 : Addr) (l1 : Value) (v1 : Value) (x1 : Value) (l3 : Value) (v3 : Value) (x3 : Value) (q1 : Int64) (q2 : Int64) (q3 : Int64) (q4 : Int64) (h0 : Heap) (n0 : Nat) (Z0 : n0 ≤ h0.size) (E_a1 : Exa Z h0 a1 "corro/core/Order") (E_a3 : Exa Z h0 a3 "corro/core/Order") (F_level_a1 : Fld Z h0 a1 "corro/core/Order" "level" "Lcorro/core/Level;" l1) (F_previous_a1 : Fld Z h0 a1 "corro/core/Order" "previous" "Lcorro/core/Order;" v1) (F_next_a1 : Fld Z h0 a1 "corro/core/Order" "next" "Lcorro/core/Order;" x1) (F_quantity_a1 : Fld Z h0 a1 "corro/core/Order" "quantity" "J" (.long q1)) (F_price_a1 : Fld Z h0 a1 "corro/core/Order" "price" "J" (.long q2)) (F_level_a3 : Fld Z h0 a3 "corro/core/Order" "level" "Lcorro/core/Level;" l3) (F_previous_a3 : Fld Z h0 a3 "corro/core/Order" "previous" "Lcorro/core/Order;" v3) (F_next_a3 : Fld Z h0 a3 "corro/core/Order" "next" "Lcorro/core/Order;" x3) (F_quantity_a3 : Fld Z h0 a3 "corro/core/Order" "quantity" "J" (.long q3)) (F_price_a3 : Fld Z h0 a3 "corro/core/Order" "price" "J" (.long q4)) (g_a1 : n0 ≤ a1) (g_a3 : n0 ≤ a3) (ne_a1_a3 : a1 ≠ a3) :
    MetFree l (⟨"corro/core/Order", "join", "(Lcorro/core/Level;Lcorro/core/Order;)V"⟩ : MethodName) (head1 (Jvm.Cond.code (⟨"corro/core/Order", "join", "(Lcorro/core/Level;Lcorro/core/Order;)V"⟩ : MethodName) prog_18_method_19_code 3 none :: ws) ({ frames := 0, cells := 0, slots := 0, locals := 0 } : Room)) (fun a U => a = #[(.ref a1), (.ref a2), (.ref a3)] ∧ Z.Warmed39 U.vm ∧ U.heap = h0) (fun _ _ _ _ _ => True) (fun _ U o U' => ∃ v L, o = .returned v ∧ Q_rmJO Z a1 a2 a3 l1 v1 x1 l3 v3 x3 q1 q2 q3 q4 h0 n0 v U'.heap L ∧ FrameEnd U o U' L ({ frames := 0, cells := 0, slots := 0, locals := 0 } : Room).cells ({ frames := 0, cells := 0, slots := 0, locals := 0 } : Room).slots) := by
  refine MetFree.of_bodySF (plainFor_of_name pn_1) hisR ?_
  intro p e s m args below meth c s₁ Bd hml0 hP hK
  obtain ⟨rfl, hZ, hh⟩ := hP
  have hx := Bd.exec
  have hby := Bd.bytes
  have hml : c.maxLocals = 3 := hml0
  have hown : s.vm.findClass "corro/core/Order" = some m.cls := findClass_of_methodNamed Bd.named
  have hnm := (name_of_methodNamed Bd.named Bd.method).1
  have X0 : Stand p l e ({ frames := 0, cells := 0, slots := 0, locals := 0 } : Room) s m #[(.ref a1), (.ref a2), (.ref a3)] below meth c s₁ [] 0 0 := Stand.of_body Bd
  have e0 : s₁.heap = h0 := by rw [← hh, Bd.state]; rfl
  have N0 := Fr.nil n0
  have K0 : Keep h0 h0 [a1, a3] := Keep.refl _ _
  suffices G0 : own_G p e below (own_E s below (Q_rmJO Z a1 a2 a3 l1 v1 x1 l3 v3 x3 q1 q2 q3 q4 h0 n0) ({ frames := 0, cells := 0, slots := 0, locals := 0 } : Room).cells ({ frames := 0, cells := 0, slots := 0, locals := 0 } : Room).slots) s₁ (mkF m 0 #[.val (.ref a1), .val (.ref a2), .val (.ref a3)] []) by
    obtain ⟨zt, zst, zo, zq1, zq2, zq3⟩ := G0
    exact ⟨zt, zo, castTop (ef_rmJO m a1 a2 a3) zst, zq1, zq2, zq3⟩
  obtain ⟨Φ, hΦ⟩ : ∃ Φ, Φ = own_E s below (Q_rmJO Z a1 a2 a3 l1 v1 x1 l3 v3 x3 q1 q2 q3 q4 h0 n0) ({ frames := 0, cells := 0, slots := 0, locals := 0 } : Room).cells ({ frames := 0, cells := 0, slots := 0, locals := 0 } : Room).slots := ⟨_, rfl⟩
  rw [← hΦ]
  show own_G p e below Φ s₁ (mkF m 0 #[.val (.ref a1), .val (.ref a2), .val (.ref a3)] [])
  refine own_go (fun _ => XS.aloadN X0.here hx rfl (hb hby d4_0) rfl rfl) ?_
  show own_G p e below Φ s₁ (mkF m 1 #[.val (.ref a1), .val (.ref a2), .val (.ref a3)] [(.ref a1)])
  refine own_go (fun _ => XS.aloadN X0.here hx rfl (hb hby d4_1) rfl rfl) ?_
  show own_G p e below Φ s₁ (mkF m 2 #[.val (.ref a1), .val (.ref a2), .val (.ref a3)] [(.ref a2), (.ref a1)])
  obtain ⟨T1, h1, X1, e1, W1, st1⟩ := putF X0 hx hZ hown (host := "") (Or.inl (wd_33 hw)) Via.refl e0 F_level_a1 E_a1 (Or.inl (wd_34 hw)) (wd_10 hw) (ty := (.object "corro/core/Level")) (by decide) rfl rfl (g := (mkF m 2 #[.val (.ref a1), .val (.ref a2), .val (.ref a3)] [(.ref a2), (.ref a1)])) rfl rfl (hb hby d4_2)
  refine own_go st1 ?_
  have N1 := Fr.snoc X1 N0 g_a1
  have K1 := K0.wr W1 (Or.inl (List.mem_of_getElem? (i := 0) rfl))
  have Zp1 : n0 ≤ h1.size := Nat.le_trans Z0 (Keep.of_wr W1).1
  have f1w := F_level_a1.same W1
  show own_G p e below Φ T1 (mkF m 5 #[.val (.ref a1), .val (.ref a2), .val (.ref a3)] [])
  refine own_go (fun _ => XS.aloadN X1.here hx rfl (hb hby d4_5) rfl rfl) ?_
  show own_G p e below Φ T1 (mkF m 6 #[.val (.ref a1), .val (.ref a2), .val (.ref a3)] [(.ref a1)])
  refine own_go (fun _ => XS.aloadN X1.here hx rfl (hb hby d4_6) rfl rfl) ?_
  show own_G p e below Φ T1 (mkF m 7 #[.val (.ref a1), .val (.ref a2), .val (.ref a3)] [(.ref a3), (.ref a1)])
  have f2 : Exa Z h1 a1 "corro/core/Order" := E_a1.wr W1
  have f3 : Fld Z h1 a1 "corro/core/Order" "previous" "Lcorro/core/Order;" v1 := F_previous_a1.other W1 (Or.inr (sl_34 hw))
  obtain ⟨T4, h4, X4, e4, W4, st4⟩ := putF X1 hx hZ hown (host := "") (Or.inl (wd_35 hw)) Via.refl e1 f3 f2 (Or.inl (wd_36 hw)) (wd_10 hw) (ty := (.object "corro/core/Order")) (by decide) rfl rfl (g := (mkF m 7 #[.val (.ref a1), .val (.ref a2), .val (.ref a3)] [(.ref a3), (.ref a1)])) rfl rfl (hb hby d4_7)
  refine own_go st4 ?_
  have N4 := Fr.snoc X4 N1 g_a1
  have K4 := K1.wr W4 (Or.inl (List.mem_of_getElem? (i := 0) rfl))
  have Zp4 : n0 ≤ h4.size := Nat.le_trans Zp1 (Keep.of_wr W4).1
  have f4w := f3.same W4
  show own_G p e below Φ T4 (mkF m 10 #[.val (.ref a1), .val (.ref a2), .val (.ref a3)] [])
  refine own_go (fun _ => XS.aloadN X4.here hx rfl (hb hby d4_10) rfl rfl) ?_
  show own_G p e below Φ T4 (mkF m 11 #[.val (.ref a1), .val (.ref a2), .val (.ref a3)] [(.ref a1)])
  refine own_go (fun _ => XS.aconstNull X4.here hx rfl (hb hby d4_11)) ?_
  show own_G p e below Φ T4 (mkF m 12 #[.val (.ref a1), .val (.ref a2), .val (.ref a3)] [.null, (.ref a1)])
  have f5 : Exa Z h4 a1 "corro/core/Order" := f2.wr W4
  have f6 : Fld Z h1 a1 "corro/core/Order" "next" "Lcorro/core/Order;" x1 := F_next_a1.other W1 (Or.inr (sl_35 hw))
  have f7 : Fld Z h4 a1 "corro/core/Order" "next" "Lcorro/core/Order;" x1 := f6.other W4 (Or.inr (sl_36 hw))
  obtain ⟨T8, h8, X8, e8, W8, st8⟩ := putF X4 hx hZ hown (host := "") (Or.inl (wd_37 hw)) Via.refl e4 f7 f5 (Or.inl (wd_38 hw)) (wd_10 hw) (ty := (.object "corro/core/Order")) (by decide) rfl rfl (g := (mkF m 12 #[.val (.ref a1), .val (.ref a2), .val (.ref a3)] [.null, (.ref a1)])) rfl rfl (hb hby d4_12)
  refine own_go st8 ?_
  have N8 := Fr.snoc X8 N4 g_a1
  have K8 := K4.wr W8 (Or.inl (List.mem_of_getElem? (i := 0) rfl))
  have Zp8 : n0 ≤ h8.size := Nat.le_trans Zp4 (Keep.of_wr W8).1
  have f8w := f7.same W8
  show own_G p e below Φ T8 (mkF m 15 #[.val (.ref a1), .val (.ref a2), .val (.ref a3)] [])
  refine own_go (fun _ => XS.aloadN X8.here hx rfl (hb hby d4_15) rfl rfl) ?_
  show own_G p e below Φ T8 (mkF m 16 #[.val (.ref a1), .val (.ref a2), .val (.ref a3)] [(.ref a3)])
  refine own_go (fun _ => XS.ifnullNo X8.here hx rfl (hb hby d4_16) rfl) ?_
  show own_G p e below Φ T8 (mkF m 19 #[.val (.ref a1), .val (.ref a2), .val (.ref a3)] [])
  refine own_go (fun _ => XS.aloadN X8.here hx rfl (hb hby d4_19) rfl rfl) ?_
  show own_G p e below Φ T8 (mkF m 20 #[.val (.ref a1), .val (.ref a2), .val (.ref a3)] [(.ref a3)])
  refine own_go (fun _ => XS.aloadN X8.here hx rfl (hb hby d4_20) rfl rfl) ?_
  show own_G p e below Φ T8 (mkF m 21 #[.val (.ref a1), .val (.ref a2), .val (.ref a3)] [(.ref a1), (.ref a3)])
  have f9 : Exa Z h1 a3 "corro/core/Order" := E_a3.wr W1
  have f10 : Exa Z h4 a3 "corro/core/Order" := f9.wr W4
  have f11 : Exa Z h8 a3 "corro/core/Order" := f10.wr W8
  have f12 : Fld Z h1 a3 "corro/core/Order" "next" "Lcorro/core/Order;" x3 := F_next_a3.other W1 (Or.inl (Ne.symm ne_a1_a3))
  have f13 : Fld Z h4 a3 "corro/core/Order" "next" "Lcorro/core/Order;" x3 := f12.other W4 (Or.inl (Ne.symm ne_a1_a3))
  have f14 : Fld Z h8 a3 "corro/core/Order" "next" "Lcorro/core/Order;" x3 := f13.other W8 (Or.inl (Ne.symm ne_a1_a3))
  obtain ⟨T15, h15, X15, e15, W15, st15⟩ := putF X8 hx hZ hown (host := "") (Or.inl (wd_37 hw)) Via.refl e8 f14 f11 (Or.inl (wd_38 hw)) (wd_10 hw) (ty := (.object "corro/core/Order")) (by decide) rfl rfl (g := (mkF m 21 #[.val (.ref a1), .val (.ref a2), .val (.ref a3)] [(.ref a1), (.ref a3)])) rfl rfl (hb hby d4_21)
  refine own_go st15 ?_
  have N15 := Fr.snoc X15 N8 g_a3
  have K15 := K8.wr W15 (Or.inl (List.mem_of_getElem? (i := 1) rfl))
  have Zp15 : n0 ≤ h15.size := Nat.le_trans Zp8 (Keep.of_wr W15).1
  have f15w := f14.same W15
  show own_G p e below Φ T15 (mkF m 24 #[.val (.ref a1), .val (.ref a2), .val (.ref a3)] [])
  have f16 : Exa Z h8 a1 "corro/core/Order" := f5.wr W8
  have f17 : Exa Z h15 a1 "corro/core/Order" := f16.wr W15
  have f18 : Fld Z h4 a1 "corro/core/Order" "level" "Lcorro/core/Level;" (.ref a2) := f1w.other W4 (Or.inr (sl_37 hw))
  have f19 : Fld Z h8 a1 "corro/core/Order" "level" "Lcorro/core/Level;" (.ref a2) := f18.other W8 (Or.inr (sl_38 hw))
  have f20 : Fld Z h15 a1 "corro/core/Order" "level" "Lcorro/core/Level;" (.ref a2) := f19.other W15 (Or.inl ne_a1_a3)
  have f21 : Fld Z h8 a1 "corro/core/Order" "previous" "Lcorro/core/Order;" (.ref a3) := f4w.other W8 (Or.inr (sl_39 hw))
  have f22 : Fld Z h15 a1 "corro/core/Order" "previous" "Lcorro/core/Order;" (.ref a3) := f21.other W15 (Or.inl ne_a1_a3)
  have f23 : Fld Z h15 a1 "corro/core/Order" "next" "Lcorro/core/Order;" .null := f8w.other W15 (Or.inl ne_a1_a3)
  have f24 : Fld Z h1 a3 "corro/core/Order" "level" "Lcorro/core/Level;" l3 := F_level_a3.other W1 (Or.inl (Ne.symm ne_a1_a3))
  have f25 : Fld Z h4 a3 "corro/core/Order" "level" "Lcorro/core/Level;" l3 := f24.other W4 (Or.inl (Ne.symm ne_a1_a3))
  have f26 : Fld Z h8 a3 "corro/core/Order" "level" "Lcorro/core/Level;" l3 := f25.other W8 (Or.inl (Ne.symm ne_a1_a3))
  have f27 : Fld Z h15 a3 "corro/core/Order" "level" "Lcorro/core/Level;" l3 := f26.other W15 (Or.inr (sl_38 hw))
  have f28 : Fld Z h1 a3 "corro/core/Order" "previous" "Lcorro/core/Order;" v3 := F_previous_a3.other W1 (Or.inl (Ne.symm ne_a1_a3))
  have f29 : Fld Z h4 a3 "corro/core/Order" "previous" "Lcorro/core/Order;" v3 := f28.other W4 (Or.inl (Ne.symm ne_a1_a3))
  have f30 : Fld Z h8 a3 "corro/core/Order" "previous" "Lcorro/core/Order;" v3 := f29.other W8 (Or.inl (Ne.symm ne_a1_a3))
  have f31 : Fld Z h15 a3 "corro/core/Order" "previous" "Lcorro/core/Order;" v3 := f30.other W15 (Or.inr (sl_39 hw))
  have f32 : Fld Z h1 a1 "corro/core/Order" "quantity" "J" (.long q1) := F_quantity_a1.other W1 (Or.inr (sl_40 hw))
  have f33 : Fld Z h4 a1 "corro/core/Order" "quantity" "J" (.long q1) := f32.other W4 (Or.inr (sl_41 hw))
  have f34 : Fld Z h8 a1 "corro/core/Order" "quantity" "J" (.long q1) := f33.other W8 (Or.inr (sl_42 hw))
  have f35 : Fld Z h15 a1 "corro/core/Order" "quantity" "J" (.long q1) := f34.other W15 (Or.inl ne_a1_a3)
  have f36 : Fld Z h1 a1 "corro/core/Order" "price" "J" (.long q2) := F_price_a1.other W1 (Or.inr (sl_43 hw))
  have f37 : Fld Z h4 a1 "corro/core/Order" "price" "J" (.long q2) := f36.other W4 (Or.inr (sl_44 hw))
  have f38 : Fld Z h8 a1 "corro/core/Order" "price" "J" (.long q2) := f37.other W8 (Or.inr (sl_45 hw))
  have f39 : Fld Z h15 a1 "corro/core/Order" "price" "J" (.long q2) := f38.other W15 (Or.inl ne_a1_a3)
  have f40 : Fld Z h1 a3 "corro/core/Order" "quantity" "J" (.long q3) := F_quantity_a3.other W1 (Or.inl (Ne.symm ne_a1_a3))
  have f41 : Fld Z h4 a3 "corro/core/Order" "quantity" "J" (.long q3) := f40.other W4 (Or.inl (Ne.symm ne_a1_a3))
  have f42 : Fld Z h8 a3 "corro/core/Order" "quantity" "J" (.long q3) := f41.other W8 (Or.inl (Ne.symm ne_a1_a3))
  have f43 : Fld Z h15 a3 "corro/core/Order" "quantity" "J" (.long q3) := f42.other W15 (Or.inr (sl_42 hw))
  have f44 : Fld Z h1 a3 "corro/core/Order" "price" "J" (.long q4) := F_price_a3.other W1 (Or.inl (Ne.symm ne_a1_a3))
  have f45 : Fld Z h4 a3 "corro/core/Order" "price" "J" (.long q4) := f44.other W4 (Or.inl (Ne.symm ne_a1_a3))
  have f46 : Fld Z h8 a3 "corro/core/Order" "price" "J" (.long q4) := f45.other W8 (Or.inl (Ne.symm ne_a1_a3))
  have f47 : Fld Z h15 a3 "corro/core/Order" "price" "J" (.long q4) := f46.other W15 (Or.inr (sl_45 hw))
  rw [hΦ]
  refine own_ret X15 (v := none) (fun _ => rfl) (BodyLoose.notSynchronized Bd) (fun fs hr => X15.returnOut hx Bd.returns (hb hby d4_24) hr) ?_ (by decide) (by decide)
  rw [e15]
  exact ⟨rfl, N15, K15, f17, f20, f22, f23, f27, f31, f15w, f35, f39, f43, f47⟩
theorem d5_0 : decode prog_18_method_16_code 0 = .ok (.aload_n 0, 1) := by decide +kernel
theorem d5_1 : decode prog_18_method_16_code 1 = .ok (.getfield 48, 3) := by decide +kernel
theorem d5_4 : decode prog_18_method_16_code 4 = .ok (.areturn, 1) := by decide +kernel
theorem ef_rmGlevel (m : MethodId) (a1 : Addr) : entryFrame m #[(.ref a1)] 1 = mkF m 0 #[.val (.ref a1)] [] := by first | (simp [entryFrame, mkF, argsToLocals, Value.category]; done) | rfl
def Q_rmGlevel (Z : State) (a1 : Addr) (w : Value) (h0 : Heap) (n0 : Nat) (v : Option Value) (h : Heap) (L : List Loc) : Prop := v = some w ∧ Fr n0 L ∧ h = h0
set_option maxRecDepth 65536 in
set_option maxHeartbeats 40000000 in
theorem rmGlevel (l : Launch) (Z : State) (a0 : Array Value) (hw : ∀ d ∈ tables_1, d.before a0 Z = true) (ws : List Jvm.Cond) (a1 : Addr) (w : Value) (h0 : Heap) (n0 : Nat) (Z0 : n0 ≤ h0.size) (F_level_a1 : Fld Z h0 a1 "corro/core/Order" "level" "Lcorro/core/Level;" w) (h_w : w.isRef = true) :
    MetFree l (⟨"corro/core/Order", "level", "()Lcorro/core/Level;"⟩ : MethodName) (head1 (Jvm.Cond.code (⟨"corro/core/Order", "level", "()Lcorro/core/Level;"⟩ : MethodName) prog_18_method_16_code 1 (some (.object "corro/core/Level")) :: ws) ({ frames := 0, cells := 0, slots := 0, locals := 0 } : Room)) (fun a U => a = #[(.ref a1)] ∧ Z.Warmed39 U.vm ∧ U.heap = h0) (fun _ _ _ _ _ => True) (fun _ U o U' => ∃ v L, o = .returned v ∧ Q_rmGlevel Z a1 w h0 n0 v U'.heap L ∧ FrameEnd U o U' L ({ frames := 0, cells := 0, slots := 0, locals := 0 } : Room).cells ({ frames := 0, cells := 0, slots := 0, locals := 0 } : Room).slots) := by
  refine MetFree.of_bodySF (plainFor_of_name pn_1) hisR ?_
  intro p e s m args below meth c s₁ Bd hml0 hP hK
  obtain ⟨rfl, hZ, hh⟩ := hP
  have hx := Bd.exec
  have hby := Bd.bytes
  have hml : c.maxLocals = 1 := hml0
  have hown : s.vm.findClass "corro/core/Order" = some m.cls := findClass_of_methodNamed Bd.named
  have hnm := (name_of_methodNamed Bd.named Bd.method).1
  have X0 : Stand p l e ({ frames := 0, cells := 0, slots := 0, locals := 0 } : Room) s m #[(.ref a1)] below meth c s₁ [] 0 0 := Stand.of_body Bd
  have e0 : s₁.heap = h0 := by rw [← hh, Bd.state]; rfl
  have N0 := Fr.nil n0
  suffices G0 : own_G p e below (own_E s below (Q_rmGlevel Z a1 w h0 n0) ({ frames := 0, cells := 0, slots := 0, locals := 0 } : Room).cells ({ frames := 0, cells := 0, slots := 0, locals := 0 } : Room).slots) s₁ (mkF m 0 #[.val (.ref a1)] []) by
    obtain ⟨zt, zst, zo, zq1, zq2, zq3⟩ := G0
    exact ⟨zt, zo, castTop (ef_rmGlevel m a1) zst, zq1, zq2, zq3⟩
  obtain ⟨Φ, hΦ⟩ : ∃ Φ, Φ = own_E s below (Q_rmGlevel Z a1 w h0 n0) ({ frames := 0, cells := 0, slots := 0, locals := 0 } : Room).cells ({ frames := 0, cells := 0, slots := 0, locals := 0 } : Room).slots := ⟨_, rfl⟩
  rw [← hΦ]
  show own_G p e below Φ s₁ (mkF m 0 #[.val (.ref a1)] [])
  refine own_go (fun _ => XS.aloadN X0.here hx rfl (hb hby d5_0) rfl rfl) ?_
  show own_G p e below Φ s₁ (mkF m 1 #[.val (.ref a1)] [(.ref a1)])
  obtain ⟨T1, X1, e1, st1⟩ := getF X0 hx hZ hown (host := "") (Or.inl (wd_33 hw)) Via.refl e0 F_level_a1 (g := (mkF m 1 #[.val (.ref a1)] [(.ref a1)])) rfl rfl (hb hby d5_1)
  refine own_go st1 ?_
  show own_G p e below Φ T1 (mkF m 4 #[.val (.ref a1)] [w])
  rw [hΦ]
  refine own_ret X1 (v := some w) (fun h => by rw [Bd.returns] at h; cases h) (BodyLoose.notSynchronized Bd) (fun fs hr => retOut X1 hx Bd.returns (own_nar h_w) (Or.inr (Or.inr (Or.inr (Or.inr ⟨rfl, rfl, h_w⟩)))) (hb hby d5_4) hr) ?_ (by decide) (by decide)
  rw [e1]
  exact ⟨rfl, N0, rfl⟩
theorem d6_0 : decode prog_18_method_18_code 0 = .ok (.aload_n 0, 1) := by decide +kernel
theorem d6_1 : decode prog_18_method_18_code 1 = .ok (.getfield 56, 3) := by decide +kernel
theorem d6_4 : decode prog_18_method_18_code 4 = .ok (.areturn, 1) := by decide +kernel
theorem ef_rmGprevious (m : MethodId) (a1 : Addr) : entryFrame m #[(.ref a1)] 1 = mkF m 0 #[.val (.ref a1)] [] := by first | (simp [entryFrame, mkF, argsToLocals, Value.category]; done) | rfl
def Q_rmGprevious (Z : State) (a1 : Addr) (w : Value) (h0 : Heap) (n0 : Nat) (v : Option Value) (h : Heap) (L : List Loc) : Prop := v = some w ∧ Fr n0 L ∧ h = h0
set_option maxRecDepth 65536 in
set_option maxHeartbeats 40000000 in
theorem rmGprevious (l : Launch) (Z : State) (a0 : Array Value) (hw : ∀ d ∈ tables_1, d.before a0 Z = true) (ws : List Jvm.Cond) (a1 : Addr) (w : Value) (h0 : Heap) (n0 : Nat) (Z0 : n0 ≤ h0.size) (F_previous_a1 : Fld Z h0 a1 "corro/core/Order" "previous" "Lcorro/core/Order;" w) (h_w : w.isRef = true) :
    MetFree l (⟨"corro/core/Order", "previous", "()Lcorro/core/Order;"⟩ : MethodName) (head1 (Jvm.Cond.code (⟨"corro/core/Order", "previous", "()Lcorro/core/Order;"⟩ : MethodName) prog_18_method_18_code 1 (some (.object "corro/core/Order")) :: ws) ({ frames := 0, cells := 0, slots := 0, locals := 0 } : Room)) (fun a U => a = #[(.ref a1)] ∧ Z.Warmed39 U.vm ∧ U.heap = h0) (fun _ _ _ _ _ => True) (fun _ U o U' => ∃ v L, o = .returned v ∧ Q_rmGprevious Z a1 w h0 n0 v U'.heap L ∧ FrameEnd U o U' L ({ frames := 0, cells := 0, slots := 0, locals := 0 } : Room).cells ({ frames := 0, cells := 0, slots := 0, locals := 0 } : Room).slots) := by
  refine MetFree.of_bodySF (plainFor_of_name pn_1) hisR ?_
  intro p e s m args below meth c s₁ Bd hml0 hP hK
  obtain ⟨rfl, hZ, hh⟩ := hP
  have hx := Bd.exec
  have hby := Bd.bytes
  have hml : c.maxLocals = 1 := hml0
  have hown : s.vm.findClass "corro/core/Order" = some m.cls := findClass_of_methodNamed Bd.named
  have hnm := (name_of_methodNamed Bd.named Bd.method).1
  have X0 : Stand p l e ({ frames := 0, cells := 0, slots := 0, locals := 0 } : Room) s m #[(.ref a1)] below meth c s₁ [] 0 0 := Stand.of_body Bd
  have e0 : s₁.heap = h0 := by rw [← hh, Bd.state]; rfl
  have N0 := Fr.nil n0
  suffices G0 : own_G p e below (own_E s below (Q_rmGprevious Z a1 w h0 n0) ({ frames := 0, cells := 0, slots := 0, locals := 0 } : Room).cells ({ frames := 0, cells := 0, slots := 0, locals := 0 } : Room).slots) s₁ (mkF m 0 #[.val (.ref a1)] []) by
    obtain ⟨zt, zst, zo, zq1, zq2, zq3⟩ := G0
    exact ⟨zt, zo, castTop (ef_rmGprevious m a1) zst, zq1, zq2, zq3⟩
  obtain ⟨Φ, hΦ⟩ : ∃ Φ, Φ = own_E s below (Q_rmGprevious Z a1 w h0 n0) ({ frames := 0, cells := 0, slots := 0, locals := 0 } : Room).cells ({ frames := 0, cells := 0, slots := 0, locals := 0 } : Room).slots := ⟨_, rfl⟩
  rw [← hΦ]
  show own_G p e below Φ s₁ (mkF m 0 #[.val (.ref a1)] [])
  refine own_go (fun _ => XS.aloadN X0.here hx rfl (hb hby d6_0) rfl rfl) ?_
  show own_G p e below Φ s₁ (mkF m 1 #[.val (.ref a1)] [(.ref a1)])
  obtain ⟨T1, X1, e1, st1⟩ := getF X0 hx hZ hown (host := "") (Or.inl (wd_35 hw)) Via.refl e0 F_previous_a1 (g := (mkF m 1 #[.val (.ref a1)] [(.ref a1)])) rfl rfl (hb hby d6_1)
  refine own_go st1 ?_
  show own_G p e below Φ T1 (mkF m 4 #[.val (.ref a1)] [w])
  rw [hΦ]
  refine own_ret X1 (v := some w) (fun h => by rw [Bd.returns] at h; cases h) (BodyLoose.notSynchronized Bd) (fun fs hr => retOut X1 hx Bd.returns (own_nar h_w) (Or.inr (Or.inr (Or.inr (Or.inr ⟨rfl, rfl, h_w⟩)))) (hb hby d6_4) hr) ?_ (by decide) (by decide)
  rw [e1]
  exact ⟨rfl, N0, rfl⟩
theorem d7_0 : decode prog_18_method_17_code 0 = .ok (.aload_n 0, 1) := by decide +kernel
theorem d7_1 : decode prog_18_method_17_code 1 = .ok (.getfield 52, 3) := by decide +kernel
theorem d7_4 : decode prog_18_method_17_code 4 = .ok (.areturn, 1) := by decide +kernel
theorem ef_rmGnext (m : MethodId) (a1 : Addr) : entryFrame m #[(.ref a1)] 1 = mkF m 0 #[.val (.ref a1)] [] := by first | (simp [entryFrame, mkF, argsToLocals, Value.category]; done) | rfl
def Q_rmGnext (Z : State) (a1 : Addr) (w : Value) (h0 : Heap) (n0 : Nat) (v : Option Value) (h : Heap) (L : List Loc) : Prop := v = some w ∧ Fr n0 L ∧ h = h0
set_option maxRecDepth 65536 in
set_option maxHeartbeats 40000000 in
theorem rmGnext (l : Launch) (Z : State) (a0 : Array Value) (hw : ∀ d ∈ tables_1, d.before a0 Z = true) (ws : List Jvm.Cond) (a1 : Addr) (w : Value) (h0 : Heap) (n0 : Nat) (Z0 : n0 ≤ h0.size) (F_next_a1 : Fld Z h0 a1 "corro/core/Order" "next" "Lcorro/core/Order;" w) (h_w : w.isRef = true) :
    MetFree l (⟨"corro/core/Order", "next", "()Lcorro/core/Order;"⟩ : MethodName) (head1 (Jvm.Cond.code (⟨"corro/core/Order", "next", "()Lcorro/core/Order;"⟩ : MethodName) prog_18_method_17_code 1 (some (.object "corro/core/Order")) :: ws) ({ frames := 0, cells := 0, slots := 0, locals := 0 } : Room)) (fun a U => a = #[(.ref a1)] ∧ Z.Warmed39 U.vm ∧ U.heap = h0) (fun _ _ _ _ _ => True) (fun _ U o U' => ∃ v L, o = .returned v ∧ Q_rmGnext Z a1 w h0 n0 v U'.heap L ∧ FrameEnd U o U' L ({ frames := 0, cells := 0, slots := 0, locals := 0 } : Room).cells ({ frames := 0, cells := 0, slots := 0, locals := 0 } : Room).slots) := by
  refine MetFree.of_bodySF (plainFor_of_name pn_1) hisR ?_
  intro p e s m args below meth c s₁ Bd hml0 hP hK
  obtain ⟨rfl, hZ, hh⟩ := hP
  have hx := Bd.exec
  have hby := Bd.bytes
  have hml : c.maxLocals = 1 := hml0
  have hown : s.vm.findClass "corro/core/Order" = some m.cls := findClass_of_methodNamed Bd.named
  have hnm := (name_of_methodNamed Bd.named Bd.method).1
  have X0 : Stand p l e ({ frames := 0, cells := 0, slots := 0, locals := 0 } : Room) s m #[(.ref a1)] below meth c s₁ [] 0 0 := Stand.of_body Bd
  have e0 : s₁.heap = h0 := by rw [← hh, Bd.state]; rfl
  have N0 := Fr.nil n0
  suffices G0 : own_G p e below (own_E s below (Q_rmGnext Z a1 w h0 n0) ({ frames := 0, cells := 0, slots := 0, locals := 0 } : Room).cells ({ frames := 0, cells := 0, slots := 0, locals := 0 } : Room).slots) s₁ (mkF m 0 #[.val (.ref a1)] []) by
    obtain ⟨zt, zst, zo, zq1, zq2, zq3⟩ := G0
    exact ⟨zt, zo, castTop (ef_rmGnext m a1) zst, zq1, zq2, zq3⟩
  obtain ⟨Φ, hΦ⟩ : ∃ Φ, Φ = own_E s below (Q_rmGnext Z a1 w h0 n0) ({ frames := 0, cells := 0, slots := 0, locals := 0 } : Room).cells ({ frames := 0, cells := 0, slots := 0, locals := 0 } : Room).slots := ⟨_, rfl⟩
  rw [← hΦ]
  show own_G p e below Φ s₁ (mkF m 0 #[.val (.ref a1)] [])
  refine own_go (fun _ => XS.aloadN X0.here hx rfl (hb hby d7_0) rfl rfl) ?_
  show own_G p e below Φ s₁ (mkF m 1 #[.val (.ref a1)] [(.ref a1)])
  obtain ⟨T1, X1, e1, st1⟩ := getF X0 hx hZ hown (host := "") (Or.inl (wd_37 hw)) Via.refl e0 F_next_a1 (g := (mkF m 1 #[.val (.ref a1)] [(.ref a1)])) rfl rfl (hb hby d7_1)
  refine own_go st1 ?_
  show own_G p e below Φ T1 (mkF m 4 #[.val (.ref a1)] [w])
  rw [hΦ]
  refine own_ret X1 (v := some w) (fun h => by rw [Bd.returns] at h; cases h) (BodyLoose.notSynchronized Bd) (fun fs hr => retOut X1 hx Bd.returns (own_nar h_w) (Or.inr (Or.inr (Or.inr (Or.inr ⟨rfl, rfl, h_w⟩)))) (hb hby d7_4) hr) ?_ (by decide) (by decide)
  rw [e1]
  exact ⟨rfl, N0, rfl⟩
theorem d8_0 : decode prog_18_method_8_code 0 = .ok (.aload_n 0, 1) := by decide +kernel
theorem d8_1 : decode prog_18_method_8_code 1 = .ok (.getfield 25, 3) := by decide +kernel
theorem d8_4 : decode prog_18_method_8_code 4 = .ok (.lreturn, 1) := by decide +kernel
theorem ef_rmGquantity (m : MethodId) (a1 : Addr) : entryFrame m #[(.ref a1)] 1 = mkF m 0 #[.val (.ref a1)] [] := by first | (simp [entryFrame, mkF, argsToLocals, Value.category]; done) | rfl
def Q_rmGquantity (Z : State) (a1 : Addr) (w : Int64) (h0 : Heap) (n0 : Nat) (v : Option Value) (h : Heap) (L : List Loc) : Prop := v = some (.long w) ∧ Fr n0 L ∧ h = h0
set_option maxRecDepth 65536 in
set_option maxHeartbeats 40000000 in
theorem rmGquantity (l : Launch) (Z : State) (a0 : Array Value) (hw : ∀ d ∈ tables_1, d.before a0 Z = true) (ws : List Jvm.Cond) (a1 : Addr) (w : Int64) (h0 : Heap) (n0 : Nat) (Z0 : n0 ≤ h0.size) (F_quantity_a1 : Fld Z h0 a1 "corro/core/Order" "quantity" "J" (.long w)) :
    MetFree l (⟨"corro/core/Order", "quantity", "()J"⟩ : MethodName) (head1 (Jvm.Cond.code (⟨"corro/core/Order", "quantity", "()J"⟩ : MethodName) prog_18_method_8_code 1 (some .long) :: ws) ({ frames := 0, cells := 0, slots := 0, locals := 0 } : Room)) (fun a U => a = #[(.ref a1)] ∧ Z.Warmed39 U.vm ∧ U.heap = h0) (fun _ _ _ _ _ => True) (fun _ U o U' => ∃ v L, o = .returned v ∧ Q_rmGquantity Z a1 w h0 n0 v U'.heap L ∧ FrameEnd U o U' L ({ frames := 0, cells := 0, slots := 0, locals := 0 } : Room).cells ({ frames := 0, cells := 0, slots := 0, locals := 0 } : Room).slots) := by
  refine MetFree.of_bodySF (plainFor_of_name pn_1) hisR ?_
  intro p e s m args below meth c s₁ Bd hml0 hP hK
  obtain ⟨rfl, hZ, hh⟩ := hP
  have hx := Bd.exec
  have hby := Bd.bytes
  have hml : c.maxLocals = 1 := hml0
  have hown : s.vm.findClass "corro/core/Order" = some m.cls := findClass_of_methodNamed Bd.named
  have hnm := (name_of_methodNamed Bd.named Bd.method).1
  have X0 : Stand p l e ({ frames := 0, cells := 0, slots := 0, locals := 0 } : Room) s m #[(.ref a1)] below meth c s₁ [] 0 0 := Stand.of_body Bd
  have e0 : s₁.heap = h0 := by rw [← hh, Bd.state]; rfl
  have N0 := Fr.nil n0
  suffices G0 : own_G p e below (own_E s below (Q_rmGquantity Z a1 w h0 n0) ({ frames := 0, cells := 0, slots := 0, locals := 0 } : Room).cells ({ frames := 0, cells := 0, slots := 0, locals := 0 } : Room).slots) s₁ (mkF m 0 #[.val (.ref a1)] []) by
    obtain ⟨zt, zst, zo, zq1, zq2, zq3⟩ := G0
    exact ⟨zt, zo, castTop (ef_rmGquantity m a1) zst, zq1, zq2, zq3⟩
  obtain ⟨Φ, hΦ⟩ : ∃ Φ, Φ = own_E s below (Q_rmGquantity Z a1 w h0 n0) ({ frames := 0, cells := 0, slots := 0, locals := 0 } : Room).cells ({ frames := 0, cells := 0, slots := 0, locals := 0 } : Room).slots := ⟨_, rfl⟩
  rw [← hΦ]
  show own_G p e below Φ s₁ (mkF m 0 #[.val (.ref a1)] [])
  refine own_go (fun _ => XS.aloadN X0.here hx rfl (hb hby d8_0) rfl rfl) ?_
  show own_G p e below Φ s₁ (mkF m 1 #[.val (.ref a1)] [(.ref a1)])
  obtain ⟨T1, X1, e1, st1⟩ := getF X0 hx hZ hown (host := "") (Or.inl (wd_24 hw)) Via.refl e0 F_quantity_a1 (g := (mkF m 1 #[.val (.ref a1)] [(.ref a1)])) rfl rfl (hb hby d8_1)
  refine own_go st1 ?_
  show own_G p e below Φ T1 (mkF m 4 #[.val (.ref a1)] [(.long w)])
  rw [hΦ]
  refine own_ret X1 (v := some (.long w)) (fun h => by rw [Bd.returns] at h; cases h) (BodyLoose.notSynchronized Bd) (fun fs hr => retOut X1 hx Bd.returns rfl (Or.inr (Or.inl ⟨rfl, rfl, _, rfl⟩)) (hb hby d8_4) hr) ?_ (by decide) (by decide)
  rw [e1]
  exact ⟨rfl, N0, rfl⟩
theorem d9_0 : decode prog_18_method_6_code 0 = .ok (.aload_n 0, 1) := by decide +kernel
theorem d9_1 : decode prog_18_method_6_code 1 = .ok (.getfield 29, 3) := by decide +kernel
theorem d9_4 : decode prog_18_method_6_code 4 = .ok (.lreturn, 1) := by decide +kernel
theorem ef_rmGprice (m : MethodId) (a1 : Addr) : entryFrame m #[(.ref a1)] 1 = mkF m 0 #[.val (.ref a1)] [] := by first | (simp [entryFrame, mkF, argsToLocals, Value.category]; done) | rfl
def Q_rmGprice (Z : State) (a1 : Addr) (w : Int64) (h0 : Heap) (n0 : Nat) (v : Option Value) (h : Heap) (L : List Loc) : Prop := v = some (.long w) ∧ Fr n0 L ∧ h = h0
set_option maxRecDepth 65536 in
set_option maxHeartbeats 40000000 in
theorem rmGprice (l : Launch) (Z : State) (a0 : Array Value) (hw : ∀ d ∈ tables_1, d.before a0 Z = true) (ws : List Jvm.Cond) (a1 : Addr) (w : Int64) (h0 : Heap) (n0 : Nat) (Z0 : n0 ≤ h0.size) (F_price_a1 : Fld Z h0 a1 "corro/core/Order" "price" "J" (.long w)) :
    MetFree l (⟨"corro/core/Order", "price", "()J"⟩ : MethodName) (head1 (Jvm.Cond.code (⟨"corro/core/Order", "price", "()J"⟩ : MethodName) prog_18_method_6_code 1 (some .long) :: ws) ({ frames := 0, cells := 0, slots := 0, locals := 0 } : Room)) (fun a U => a = #[(.ref a1)] ∧ Z.Warmed39 U.vm ∧ U.heap = h0) (fun _ _ _ _ _ => True) (fun _ U o U' => ∃ v L, o = .returned v ∧ Q_rmGprice Z a1 w h0 n0 v U'.heap L ∧ FrameEnd U o U' L ({ frames := 0, cells := 0, slots := 0, locals := 0 } : Room).cells ({ frames := 0, cells := 0, slots := 0, locals := 0 } : Room).slots) := by
  refine MetFree.of_bodySF (plainFor_of_name pn_1) hisR ?_
  intro p e s m args below meth c s₁ Bd hml0 hP hK
  obtain ⟨rfl, hZ, hh⟩ := hP
  have hx := Bd.exec
  have hby := Bd.bytes
  have hml : c.maxLocals = 1 := hml0
  have hown : s.vm.findClass "corro/core/Order" = some m.cls := findClass_of_methodNamed Bd.named
  have hnm := (name_of_methodNamed Bd.named Bd.method).1
  have X0 : Stand p l e ({ frames := 0, cells := 0, slots := 0, locals := 0 } : Room) s m #[(.ref a1)] below meth c s₁ [] 0 0 := Stand.of_body Bd
  have e0 : s₁.heap = h0 := by rw [← hh, Bd.state]; rfl
  have N0 := Fr.nil n0
  suffices G0 : own_G p e below (own_E s below (Q_rmGprice Z a1 w h0 n0) ({ frames := 0, cells := 0, slots := 0, locals := 0 } : Room).cells ({ frames := 0, cells := 0, slots := 0, locals := 0 } : Room).slots) s₁ (mkF m 0 #[.val (.ref a1)] []) by
    obtain ⟨zt, zst, zo, zq1, zq2, zq3⟩ := G0
    exact ⟨zt, zo, castTop (ef_rmGprice m a1) zst, zq1, zq2, zq3⟩
  obtain ⟨Φ, hΦ⟩ : ∃ Φ, Φ = own_E s below (Q_rmGprice Z a1 w h0 n0) ({ frames := 0, cells := 0, slots := 0, locals := 0 } : Room).cells ({ frames := 0, cells := 0, slots := 0, locals := 0 } : Room).slots := ⟨_, rfl⟩
  rw [← hΦ]
  show own_G p e below Φ s₁ (mkF m 0 #[.val (.ref a1)] [])
  refine own_go (fun _ => XS.aloadN X0.here hx rfl (hb hby d9_0) rfl rfl) ?_
  show own_G p e below Φ s₁ (mkF m 1 #[.val (.ref a1)] [(.ref a1)])
  obtain ⟨T1, X1, e1, st1⟩ := getF X0 hx hZ hown (host := "") (Or.inl (wd_26 hw)) Via.refl e0 F_price_a1 (g := (mkF m 1 #[.val (.ref a1)] [(.ref a1)])) rfl rfl (hb hby d9_1)
  refine own_go st1 ?_
  show own_G p e below Φ T1 (mkF m 4 #[.val (.ref a1)] [(.long w)])
  rw [hΦ]
  refine own_ret X1 (v := some (.long w)) (fun h => by rw [Bd.returns] at h; cases h) (BodyLoose.notSynchronized Bd) (fun fs hr => retOut X1 hx Bd.returns rfl (Or.inr (Or.inl ⟨rfl, rfl, _, rfl⟩)) (hb hby d9_4) hr) ?_ (by decide) (by decide)
  rw [e1]
  exact ⟨rfl, N0, rfl⟩
theorem wd_0 {Z : State} {a0 : Array Value} (hw : ∀ d ∈ tables_1, d.before a0 Z = true) : ((Jvm.Cond.classLink "corro/core/OrderJoinPinLaw" (7 : Nat) "corro/core/Level") : Jvm.Cond).before a0 Z = true := hw _ (List.mem_of_getElem? (i := 0) rfl)
theorem wd_1 {Z : State} {a0 : Array Value} (hw : ∀ d ∈ tables_1, d.before a0 Z = true) : ((Jvm.Cond.instantiable "corro/core/Level" (2 : Nat)) : Jvm.Cond).before a0 Z = true := hw _ (List.mem_of_getElem? (i := 1) rfl)
theorem wd_2 {Z : State} {a0 : Array Value} (hw : ∀ d ∈ tables_1, d.before a0 Z = true) : ((Jvm.Cond.initialized "corro/core/Level") : Jvm.Cond).before a0 Z = true := hw _ (List.mem_of_getElem? (i := 2) rfl)
theorem wd_3 {Z : State} {a0 : Array Value} (hw : ∀ d ∈ tables_1, d.before a0 Z = true) : ((Jvm.Cond.methodLink "corro/core/OrderJoinPinLaw" (9 : Nat) ({ cls := "corro/core/Level", name := "<init>", desc := "()V" } : Jvm.MethodName)) : Jvm.Cond).before a0 Z = true := hw _ (List.mem_of_getElem? (i := 3) rfl)
theorem wd_5 {Z : State} {a0 : Array Value} (hw : ∀ d ∈ tables_1, d.before a0 Z = true) : ((Jvm.Cond.code ({ cls := "corro/core/Level", name := "<init>", desc := "()V" } : Jvm.MethodName) prog_13_method_1_code (1 : Nat) (Option.none : Option Jvm.ClassFile.FieldType)) : Jvm.Cond).before a0 Z = true := hw _ (List.mem_of_getElem? (i := 5) rfl)
theorem pd_0 : parseMethodDescriptor "()V" = some ⟨[], none⟩ := by decide +kernel
theorem wd_4 {Z : State} {a0 : Array Value} (hw : ∀ d ∈ tables_1, d.before a0 Z = true) : ((Jvm.Cond.instanceMethod ({ cls := "corro/core/Level", name := "<init>", desc := "()V" } : Jvm.MethodName)) : Jvm.Cond).before a0 Z = true := hw _ (List.mem_of_getElem? (i := 4) rfl)
theorem wd_9 {Z : State} {a0 : Array Value} (hw : ∀ d ∈ tables_1, d.before a0 Z = true) : ((Jvm.Cond.classLink "corro/core/OrderJoinPinLaw" (10 : Nat) "corro/core/Order") : Jvm.Cond).before a0 Z = true := hw _ (List.mem_of_getElem? (i := 9) rfl)
theorem wd_11 {Z : State} {a0 : Array Value} (hw : ∀ d ∈ tables_1, d.before a0 Z = true) : ((Jvm.Cond.initialized "corro/core/Order") : Jvm.Cond).before a0 Z = true := hw _ (List.mem_of_getElem? (i := 11) rfl)
theorem wd_12 {Z : State} {a0 : Array Value} (hw : ∀ d ∈ tables_1, d.before a0 Z = true) : ((Jvm.Cond.methodLink "corro/core/OrderJoinPinLaw" (12 : Nat) ({ cls := "corro/core/Order", name := "<init>", desc := "(Ljava/lang/String;Lcorro/core/Side;JLcorro/core/OrderType;JLcorro/core/TimeInForce;)V" } : Jvm.MethodName)) : Jvm.Cond).before a0 Z = true := hw _ (List.mem_of_getElem? (i := 12) rfl)
theorem wd_14 {Z : State} {a0 : Array Value} (hw : ∀ d ∈ tables_1, d.before a0 Z = true) : ((Jvm.Cond.code ({ cls := "corro/core/Order", name := "<init>", desc := "(Ljava/lang/String;Lcorro/core/Side;JLcorro/core/OrderType;JLcorro/core/TimeInForce;)V" } : Jvm.MethodName) prog_18_method_1_code (9 : Nat) (Option.none : Option Jvm.ClassFile.FieldType)) : Jvm.Cond).before a0 Z = true := hw _ (List.mem_of_getElem? (i := 14) rfl)
theorem pd_1 : parseMethodDescriptor "(Ljava/lang/String;Lcorro/core/Side;JLcorro/core/OrderType;JLcorro/core/TimeInForce;)V" = some ⟨[(.object "java/lang/String"), (.object "corro/core/Side"), .long, (.object "corro/core/OrderType"), .long, (.object "corro/core/TimeInForce")], none⟩ := by decide +kernel
theorem wd_13 {Z : State} {a0 : Array Value} (hw : ∀ d ∈ tables_1, d.before a0 Z = true) : ((Jvm.Cond.instanceMethod ({ cls := "corro/core/Order", name := "<init>", desc := "(Ljava/lang/String;Lcorro/core/Side;JLcorro/core/OrderType;JLcorro/core/TimeInForce;)V" } : Jvm.MethodName)) : Jvm.Cond).before a0 Z = true := hw _ (List.mem_of_getElem? (i := 13) rfl)
theorem wd_28 {Z : State} {a0 : Array Value} (hw : ∀ d ∈ tables_1, d.before a0 Z = true) : ((Jvm.Cond.methodLink "corro/core/OrderJoinPinLaw" (15 : Nat) ({ cls := "corro/core/Order", name := "join", desc := "(Lcorro/core/Level;Lcorro/core/Order;)V" } : Jvm.MethodName)) : Jvm.Cond).before a0 Z = true := hw _ (List.mem_of_getElem? (i := 28) rfl)
theorem wd_32 {Z : State} {a0 : Array Value} (hw : ∀ d ∈ tables_1, d.before a0 Z = true) : ((Jvm.Cond.code ({ cls := "corro/core/Order", name := "join", desc := "(Lcorro/core/Level;Lcorro/core/Order;)V" } : Jvm.MethodName) prog_18_method_19_code (3 : Nat) (Option.none : Option Jvm.ClassFile.FieldType)) : Jvm.Cond).before a0 Z = true := hw _ (List.mem_of_getElem? (i := 32) rfl)
theorem pd_2 : parseMethodDescriptor "(Lcorro/core/Level;Lcorro/core/Order;)V" = some ⟨[(.object "corro/core/Level"), (.object "corro/core/Order")], none⟩ := by decide +kernel
theorem wd_31 {Z : State} {a0 : Array Value} (hw : ∀ d ∈ tables_1, d.before a0 Z = true) : ((Jvm.Cond.selects "corro/core/Order" ({ cls := "corro/core/Order", name := "join", desc := "(Lcorro/core/Level;Lcorro/core/Order;)V" } : Jvm.MethodName) ({ cls := "corro/core/Order", name := "join", desc := "(Lcorro/core/Level;Lcorro/core/Order;)V" } : Jvm.MethodName)) : Jvm.Cond).before a0 Z = true := hw _ (List.mem_of_getElem? (i := 31) rfl)
theorem wd_29 {Z : State} {a0 : Array Value} (hw : ∀ d ∈ tables_1, d.before a0 Z = true) : ((Jvm.Cond.declares ({ cls := "corro/core/Order", name := "join", desc := "(Lcorro/core/Level;Lcorro/core/Order;)V" } : Jvm.MethodName)) : Jvm.Cond).before a0 Z = true := hw _ (List.mem_of_getElem? (i := 29) rfl)
theorem wd_30 {Z : State} {a0 : Array Value} (hw : ∀ d ∈ tables_1, d.before a0 Z = true) : ((Jvm.Cond.instanceMethod ({ cls := "corro/core/Order", name := "join", desc := "(Lcorro/core/Level;Lcorro/core/Order;)V" } : Jvm.MethodName)) : Jvm.Cond).before a0 Z = true := hw _ (List.mem_of_getElem? (i := 30) rfl)
theorem wd_39 {Z : State} {a0 : Array Value} (hw : ∀ d ∈ tables_1, d.before a0 Z = true) : ((Jvm.Cond.methodLink "corro/core/OrderJoinPinLaw" (19 : Nat) ({ cls := "corro/core/Order", name := "level", desc := "()Lcorro/core/Level;" } : Jvm.MethodName)) : Jvm.Cond).before a0 Z = true := hw _ (List.mem_of_getElem? (i := 39) rfl)
theorem wd_43 {Z : State} {a0 : Array Value} (hw : ∀ d ∈ tables_1, d.before a0 Z = true) : ((Jvm.Cond.code ({ cls := "corro/core/Order", name := "level", desc := "()Lcorro/core/Level;" } : Jvm.MethodName) prog_18_method_16_code (1 : Nat) (Option.some (Jvm.ClassFile.FieldType.object "corro/core/Level"))) : Jvm.Cond).before a0 Z = true := hw _ (List.mem_of_getElem? (i := 43) rfl)
theorem pd_3 : parseMethodDescriptor "()Lcorro/core/Level;" = some ⟨[], some (.object "corro/core/Level")⟩ := by decide +kernel
theorem wd_42 {Z : State} {a0 : Array Value} (hw : ∀ d ∈ tables_1, d.before a0 Z = true) : ((Jvm.Cond.selects "corro/core/Order" ({ cls := "corro/core/Order", name := "level", desc := "()Lcorro/core/Level;" } : Jvm.MethodName) ({ cls := "corro/core/Order", name := "level", desc := "()Lcorro/core/Level;" } : Jvm.MethodName)) : Jvm.Cond).before a0 Z = true := hw _ (List.mem_of_getElem? (i := 42) rfl)
theorem wd_40 {Z : State} {a0 : Array Value} (hw : ∀ d ∈ tables_1, d.before a0 Z = true) : ((Jvm.Cond.declares ({ cls := "corro/core/Order", name := "level", desc := "()Lcorro/core/Level;" } : Jvm.MethodName)) : Jvm.Cond).before a0 Z = true := hw _ (List.mem_of_getElem? (i := 40) rfl)
theorem wd_41 {Z : State} {a0 : Array Value} (hw : ∀ d ∈ tables_1, d.before a0 Z = true) : ((Jvm.Cond.instanceMethod ({ cls := "corro/core/Order", name := "level", desc := "()Lcorro/core/Level;" } : Jvm.MethodName)) : Jvm.Cond).before a0 Z = true := hw _ (List.mem_of_getElem? (i := 41) rfl)
theorem wd_44 {Z : State} {a0 : Array Value} (hw : ∀ d ∈ tables_1, d.before a0 Z = true) : ((Jvm.Cond.methodLink "corro/core/OrderJoinPinLaw" (23 : Nat) ({ cls := "corro/core/Order", name := "previous", desc := "()Lcorro/core/Order;" } : Jvm.MethodName)) : Jvm.Cond).before a0 Z = true := hw _ (List.mem_of_getElem? (i := 44) rfl)
theorem wd_48 {Z : State} {a0 : Array Value} (hw : ∀ d ∈ tables_1, d.before a0 Z = true) : ((Jvm.Cond.code ({ cls := "corro/core/Order", name := "previous", desc := "()Lcorro/core/Order;" } : Jvm.MethodName) prog_18_method_18_code (1 : Nat) (Option.some (Jvm.ClassFile.FieldType.object "corro/core/Order"))) : Jvm.Cond).before a0 Z = true := hw _ (List.mem_of_getElem? (i := 48) rfl)
theorem pd_4 : parseMethodDescriptor "()Lcorro/core/Order;" = some ⟨[], some (.object "corro/core/Order")⟩ := by decide +kernel
theorem wd_47 {Z : State} {a0 : Array Value} (hw : ∀ d ∈ tables_1, d.before a0 Z = true) : ((Jvm.Cond.selects "corro/core/Order" ({ cls := "corro/core/Order", name := "previous", desc := "()Lcorro/core/Order;" } : Jvm.MethodName) ({ cls := "corro/core/Order", name := "previous", desc := "()Lcorro/core/Order;" } : Jvm.MethodName)) : Jvm.Cond).before a0 Z = true := hw _ (List.mem_of_getElem? (i := 47) rfl)
theorem wd_45 {Z : State} {a0 : Array Value} (hw : ∀ d ∈ tables_1, d.before a0 Z = true) : ((Jvm.Cond.declares ({ cls := "corro/core/Order", name := "previous", desc := "()Lcorro/core/Order;" } : Jvm.MethodName)) : Jvm.Cond).before a0 Z = true := hw _ (List.mem_of_getElem? (i := 45) rfl)
theorem wd_46 {Z : State} {a0 : Array Value} (hw : ∀ d ∈ tables_1, d.before a0 Z = true) : ((Jvm.Cond.instanceMethod ({ cls := "corro/core/Order", name := "previous", desc := "()Lcorro/core/Order;" } : Jvm.MethodName)) : Jvm.Cond).before a0 Z = true := hw _ (List.mem_of_getElem? (i := 46) rfl)
theorem wd_49 {Z : State} {a0 : Array Value} (hw : ∀ d ∈ tables_1, d.before a0 Z = true) : ((Jvm.Cond.methodLink "corro/core/OrderJoinPinLaw" (27 : Nat) ({ cls := "corro/core/Order", name := "next", desc := "()Lcorro/core/Order;" } : Jvm.MethodName)) : Jvm.Cond).before a0 Z = true := hw _ (List.mem_of_getElem? (i := 49) rfl)
theorem wd_53 {Z : State} {a0 : Array Value} (hw : ∀ d ∈ tables_1, d.before a0 Z = true) : ((Jvm.Cond.code ({ cls := "corro/core/Order", name := "next", desc := "()Lcorro/core/Order;" } : Jvm.MethodName) prog_18_method_17_code (1 : Nat) (Option.some (Jvm.ClassFile.FieldType.object "corro/core/Order"))) : Jvm.Cond).before a0 Z = true := hw _ (List.mem_of_getElem? (i := 53) rfl)
theorem wd_52 {Z : State} {a0 : Array Value} (hw : ∀ d ∈ tables_1, d.before a0 Z = true) : ((Jvm.Cond.selects "corro/core/Order" ({ cls := "corro/core/Order", name := "next", desc := "()Lcorro/core/Order;" } : Jvm.MethodName) ({ cls := "corro/core/Order", name := "next", desc := "()Lcorro/core/Order;" } : Jvm.MethodName)) : Jvm.Cond).before a0 Z = true := hw _ (List.mem_of_getElem? (i := 52) rfl)
theorem wd_50 {Z : State} {a0 : Array Value} (hw : ∀ d ∈ tables_1, d.before a0 Z = true) : ((Jvm.Cond.declares ({ cls := "corro/core/Order", name := "next", desc := "()Lcorro/core/Order;" } : Jvm.MethodName)) : Jvm.Cond).before a0 Z = true := hw _ (List.mem_of_getElem? (i := 50) rfl)
theorem wd_51 {Z : State} {a0 : Array Value} (hw : ∀ d ∈ tables_1, d.before a0 Z = true) : ((Jvm.Cond.instanceMethod ({ cls := "corro/core/Order", name := "next", desc := "()Lcorro/core/Order;" } : Jvm.MethodName)) : Jvm.Cond).before a0 Z = true := hw _ (List.mem_of_getElem? (i := 51) rfl)
theorem wd_54 {Z : State} {a0 : Array Value} (hw : ∀ d ∈ tables_1, d.before a0 Z = true) : ((Jvm.Cond.methodLink "corro/core/OrderJoinPinLaw" (30 : Nat) ({ cls := "corro/core/Order", name := "quantity", desc := "()J" } : Jvm.MethodName)) : Jvm.Cond).before a0 Z = true := hw _ (List.mem_of_getElem? (i := 54) rfl)
theorem wd_58 {Z : State} {a0 : Array Value} (hw : ∀ d ∈ tables_1, d.before a0 Z = true) : ((Jvm.Cond.code ({ cls := "corro/core/Order", name := "quantity", desc := "()J" } : Jvm.MethodName) prog_18_method_8_code (1 : Nat) (Option.some Jvm.ClassFile.FieldType.long)) : Jvm.Cond).before a0 Z = true := hw _ (List.mem_of_getElem? (i := 58) rfl)
theorem pd_5 : parseMethodDescriptor "()J" = some ⟨[], some .long⟩ := by decide +kernel
theorem wd_57 {Z : State} {a0 : Array Value} (hw : ∀ d ∈ tables_1, d.before a0 Z = true) : ((Jvm.Cond.selects "corro/core/Order" ({ cls := "corro/core/Order", name := "quantity", desc := "()J" } : Jvm.MethodName) ({ cls := "corro/core/Order", name := "quantity", desc := "()J" } : Jvm.MethodName)) : Jvm.Cond).before a0 Z = true := hw _ (List.mem_of_getElem? (i := 57) rfl)
theorem wd_55 {Z : State} {a0 : Array Value} (hw : ∀ d ∈ tables_1, d.before a0 Z = true) : ((Jvm.Cond.declares ({ cls := "corro/core/Order", name := "quantity", desc := "()J" } : Jvm.MethodName)) : Jvm.Cond).before a0 Z = true := hw _ (List.mem_of_getElem? (i := 55) rfl)
theorem wd_56 {Z : State} {a0 : Array Value} (hw : ∀ d ∈ tables_1, d.before a0 Z = true) : ((Jvm.Cond.instanceMethod ({ cls := "corro/core/Order", name := "quantity", desc := "()J" } : Jvm.MethodName)) : Jvm.Cond).before a0 Z = true := hw _ (List.mem_of_getElem? (i := 56) rfl)
theorem wd_59 {Z : State} {a0 : Array Value} (hw : ∀ d ∈ tables_1, d.before a0 Z = true) : ((Jvm.Cond.methodLink "corro/core/OrderJoinPinLaw" (34 : Nat) ({ cls := "corro/core/Order", name := "price", desc := "()J" } : Jvm.MethodName)) : Jvm.Cond).before a0 Z = true := hw _ (List.mem_of_getElem? (i := 59) rfl)
theorem wd_63 {Z : State} {a0 : Array Value} (hw : ∀ d ∈ tables_1, d.before a0 Z = true) : ((Jvm.Cond.code ({ cls := "corro/core/Order", name := "price", desc := "()J" } : Jvm.MethodName) prog_18_method_6_code (1 : Nat) (Option.some Jvm.ClassFile.FieldType.long)) : Jvm.Cond).before a0 Z = true := hw _ (List.mem_of_getElem? (i := 63) rfl)
theorem wd_62 {Z : State} {a0 : Array Value} (hw : ∀ d ∈ tables_1, d.before a0 Z = true) : ((Jvm.Cond.selects "corro/core/Order" ({ cls := "corro/core/Order", name := "price", desc := "()J" } : Jvm.MethodName) ({ cls := "corro/core/Order", name := "price", desc := "()J" } : Jvm.MethodName)) : Jvm.Cond).before a0 Z = true := hw _ (List.mem_of_getElem? (i := 62) rfl)
theorem wd_60 {Z : State} {a0 : Array Value} (hw : ∀ d ∈ tables_1, d.before a0 Z = true) : ((Jvm.Cond.declares ({ cls := "corro/core/Order", name := "price", desc := "()J" } : Jvm.MethodName)) : Jvm.Cond).before a0 Z = true := hw _ (List.mem_of_getElem? (i := 60) rfl)
theorem wd_61 {Z : State} {a0 : Array Value} (hw : ∀ d ∈ tables_1, d.before a0 Z = true) : ((Jvm.Cond.instanceMethod ({ cls := "corro/core/Order", name := "price", desc := "()J" } : Jvm.MethodName)) : Jvm.Cond).before a0 Z = true := hw _ (List.mem_of_getElem? (i := 61) rfl)
theorem pn_2 : plainName "corro/core/OrderJoinPinLaw" = true := by first | (simp [plainName, overriddenIn]; done) | decide +kernel
theorem ef_rm0 (m : MethodId) (p0 : Int32) (q1 : Int64) (q2 : Int64) : entryFrame m #[(.int p0), (.long q1), (.long q2)] maxLocals = mkF m 0 #[.val (.int p0), .val (.long q1), .second, .val (.long q2), .second, .unset, .unset, .unset, .unset, .unset, .unset, .unset, .unset, .unset, .unset, .unset, .unset] [] := by first | (simp [entryFrame, mkF, argsToLocals, Value.category, maxLocals]; done) | rfl
def Q_rm0 (Z : State) (p0 : Int32) (q1 : Int64) (q2 : Int64) (h0 : Heap) (n0 : Nat) (v : Option Value) (h : Heap) (L : List Loc) : Prop := v = some (.int (1 : Int32)) ∧ Fr n0 L
set_option maxRecDepth 65536 in
set_option maxHeartbeats 40000000 in
theorem rm0 (l : Launch) (Z : State) (a0 : Array Value) (hw : ∀ d ∈ tables_1, d.before a0 Z = true) (ws : List Jvm.Cond) (p0 : Int32) (q1 : Int64) (q2 : Int64) (h0 : Heap) (n0 : Nat) (Z0 : n0 ≤ h0.size)  :
    MetFree l x (head1 (Jvm.Cond.code x code maxLocals ret :: ws) room_1) (fun a U => a = #[(.int p0), (.long q1), (.long q2)] ∧ Z.Warmed39 U.vm ∧ U.heap = h0) (fun _ _ _ _ _ => True) (fun _ U o U' => ∃ v L, o = .returned v ∧ Q_rm0 Z p0 q1 q2 h0 n0 v U'.heap L ∧ FrameEnd U o U' L room_1.cells room_1.slots) := by
  refine MetFree.of_bodySF (plainFor_of_name pn_2) hisR ?_
  intro p e s m args below meth c s₁ Bd hml0 hP hK
  obtain ⟨rfl, hZ, hh⟩ := hP
  have hx := Bd.exec
  have hby := Bd.bytes
  have hml : c.maxLocals = 17 := hml0
  have hown : s.vm.findClass "corro/core/OrderJoinPinLaw" = some m.cls := findClass_of_methodNamed Bd.named
  have hnm := (name_of_methodNamed Bd.named Bd.method).1
  have X0 : Stand p l e room_1 s m #[(.int p0), (.long q1), (.long q2)] below meth c s₁ [] 0 0 := Stand.of_body Bd
  have e0 : s₁.heap = h0 := by rw [← hh, Bd.state]; rfl
  have N0 := Fr.nil n0
  suffices G0 : own_G p e below (own_E s below (Q_rm0 Z p0 q1 q2 h0 n0) room_1.cells room_1.slots) s₁ (mkF m 0 #[.val (.int p0), .val (.long q1), .second, .val (.long q2), .second, .unset, .unset, .unset, .unset, .unset, .unset, .unset, .unset, .unset, .unset, .unset, .unset] []) by
    obtain ⟨zt, zst, zo, zq1, zq2, zq3⟩ := G0
    exact ⟨zt, zo, castTop (ef_rm0 m p0 q1 q2) zst, zq1, zq2, zq3⟩
  obtain ⟨Φ, hΦ⟩ : ∃ Φ, Φ = own_E s below (Q_rm0 Z p0 q1 q2 h0 n0) room_1.cells room_1.slots := ⟨_, rfl⟩
  rw [← hΦ]
  show own_G p e below Φ s₁ (mkF m 0 #[.val (.int p0), .val (.long q1), .second, .val (.long q2), .second, .unset, .unset, .unset, .unset, .unset, .unset, .unset, .unset, .unset, .unset, .unset, .unset] [])
  refine own_go (fun _ => XS.iloadN X0.here hx rfl (hb hby at_0) rfl) ?_
  show own_G p e below Φ s₁ (mkF m 1 #[.val (.int p0), .val (.long q1), .second, .val (.long q2), .second, .unset, .unset, .unset, .unset, .unset, .unset, .unset, .unset, .unset, .unset, .unset, .unset] [(.int p0)])
  refine own_go (fun _ => XS.iconst X0.here hx rfl (hb hby at_1)) ?_
  show own_G p e below Φ s₁ (mkF m 2 #[.val (.int p0), .val (.long q1), .second, .val (.long q2), .second, .unset, .unset, .unset, .unset, .unset, .unset, .unset, .unset, .unset, .unset, .unset, .unset] [(.int (1 : Int32)), (.int p0)])
  refine own_go (fun _ => XS.iand X0.here hx rfl (hb hby at_2) rfl) ?_
  show own_G p e below Φ s₁ (mkF m 3 #[.val (.int p0), .val (.long q1), .second, .val (.long q2), .second, .unset, .unset, .unset, .unset, .unset, .unset, .unset, .unset, .unset, .unset, .unset, .unset] [(.int (p0 &&& (1 : Int32)))])
  have hJ11_1 : ∀ (T' : State), own_Al X0 T' → T'.heap = h0 → ∀ (z5 : Int32), (z5 = 0 ∨ z5 = 1) → own_G p e below Φ T' (mkF m 11 #[.val (.int p0), .val (.long q1), .second, .val (.long q2), .second, .unset, .unset, .unset, .unset, .unset, .unset, .unset, .unset, .unset, .unset, .unset, .unset] [(.int z5)]) := by
    intro T1 X1' e1 z5 h_z5
    have X1 : Stand _ _ _ _ _ _ _ _ _ _ T1 _ _ _ := X1'
    show own_G p e below Φ T1 (mkF m 11 #[.val (.int p0), .val (.long q1), .second, .val (.long q2), .second, .unset, .unset, .unset, .unset, .unset, .unset, .unset, .unset, .unset, .unset, .unset, .unset] [(.int z5)])
    refine own_go (fun _ => XS.istore X1.here hx rfl (hb hby at_11) rfl (l' := #[.val (.int p0), .val (.long q1), .second, .val (.long q2), .second, .val (.int z5), .unset, .unset, .unset, .unset, .unset, .unset, .unset, .unset, .unset, .unset, .unset]) rfl) ?_
    show own_G p e below Φ T1 (mkF m 13 #[.val (.int p0), .val (.long q1), .second, .val (.long q2), .second, .val (.int z5), .unset, .unset, .unset, .unset, .unset, .unset, .unset, .unset, .unset, .unset, .unset] [])
    refine own_go (fun _ => XS.iloadN X1.here hx rfl (hb hby at_13) rfl) ?_
    show own_G p e below Φ T1 (mkF m 14 #[.val (.int p0), .val (.long q1), .second, .val (.long q2), .second, .val (.int z5), .unset, .unset, .unset, .unset, .unset, .unset, .unset, .unset, .unset, .unset, .unset] [(.int p0)])
    refine own_go (fun _ => XS.iconst X1.here hx rfl (hb hby at_14)) ?_
    show own_G p e below Φ T1 (mkF m 15 #[.val (.int p0), .val (.long q1), .second, .val (.long q2), .second, .val (.int z5), .unset, .unset, .unset, .unset, .unset, .unset, .unset, .unset, .unset, .unset, .unset] [(.int (2 : Int32)), (.int p0)])
    refine own_go (fun _ => XS.iand X1.here hx rfl (hb hby at_15) rfl) ?_
    show own_G p e below Φ T1 (mkF m 16 #[.val (.int p0), .val (.long q1), .second, .val (.long q2), .second, .val (.int z5), .unset, .unset, .unset, .unset, .unset, .unset, .unset, .unset, .unset, .unset, .unset] [(.int (p0 &&& (2 : Int32)))])
    have hJ24_2 : ∀ (T' : State), own_Al X1 T' → T'.heap = h0 → ∀ (z6 : Int32), (z6 = 0 ∨ z6 = 1) → own_G p e below Φ T' (mkF m 24 #[.val (.int p0), .val (.long q1), .second, .val (.long q2), .second, .val (.int z5), .unset, .unset, .unset, .unset, .unset, .unset, .unset, .unset, .unset, .unset, .unset] [(.int z6)]) := by
      intro T2 X2' e2 z6 h_z6
      have X2 : Stand _ _ _ _ _ _ _ _ _ _ T2 _ _ _ := X2'
      show own_G p e below Φ T2 (mkF m 24 #[.val (.int p0), .val (.long q1), .second, .val (.long q2), .second, .val (.int z5), .unset, .unset, .unset, .unset, .unset, .unset, .unset, .unset, .unset, .unset, .unset] [(.int z6)])
      refine own_go (fun _ => XS.istore X2.here hx rfl (hb hby at_24) rfl (l' := #[.val (.int p0), .val (.long q1), .second, .val (.long q2), .second, .val (.int z5), .val (.int z6), .unset, .unset, .unset, .unset, .unset, .unset, .unset, .unset, .unset, .unset]) rfl) ?_
      show own_G p e below Φ T2 (mkF m 26 #[.val (.int p0), .val (.long q1), .second, .val (.long q2), .second, .val (.int z5), .val (.int z6), .unset, .unset, .unset, .unset, .unset, .unset, .unset, .unset, .unset, .unset] [])
      refine own_go (fun _ => XS.iloadN X2.here hx rfl (hb hby at_26) rfl) ?_
      show own_G p e below Φ T2 (mkF m 27 #[.val (.int p0), .val (.long q1), .second, .val (.long q2), .second, .val (.int z5), .val (.int z6), .unset, .unset, .unset, .unset, .unset, .unset, .unset, .unset, .unset, .unset] [(.int p0)])
      refine own_go (fun _ => XS.iconst X2.here hx rfl (hb hby at_27)) ?_
      show own_G p e below Φ T2 (mkF m 28 #[.val (.int p0), .val (.long q1), .second, .val (.long q2), .second, .val (.int z5), .val (.int z6), .unset, .unset, .unset, .unset, .unset, .unset, .unset, .unset, .unset, .unset] [(.int (4 : Int32)), (.int p0)])
      refine own_go (fun _ => XS.iand X2.here hx rfl (hb hby at_28) rfl) ?_
      show own_G p e below Φ T2 (mkF m 29 #[.val (.int p0), .val (.long q1), .second, .val (.long q2), .second, .val (.int z5), .val (.int z6), .unset, .unset, .unset, .unset, .unset, .unset, .unset, .unset, .unset, .unset] [(.int (p0 &&& (4 : Int32)))])
      have hJ37_3 : ∀ (T' : State), own_Al X2 T' → T'.heap = h0 → ∀ (z7 : Int32), (z7 = 0 ∨ z7 = 1) → own_G p e below Φ T' (mkF m 37 #[.val (.int p0), .val (.long q1), .second, .val (.long q2), .second, .val (.int z5), .val (.int z6), .unset, .unset, .unset, .unset, .unset, .unset, .unset, .unset, .unset, .unset] [(.int z7)]) := by
        intro T3 X3' e3 z7 h_z7
        have X3 : Stand _ _ _ _ _ _ _ _ _ _ T3 _ _ _ := X3'
        show own_G p e below Φ T3 (mkF m 37 #[.val (.int p0), .val (.long q1), .second, .val (.long q2), .second, .val (.int z5), .val (.int z6), .unset, .unset, .unset, .unset, .unset, .unset, .unset, .unset, .unset, .unset] [(.int z7)])
        refine own_go (fun _ => XS.istore X3.here hx rfl (hb hby at_37) rfl (l' := #[.val (.int p0), .val (.long q1), .second, .val (.long q2), .second, .val (.int z5), .val (.int z6), .val (.int z7), .unset, .unset, .unset, .unset, .unset, .unset, .unset, .unset, .unset]) rfl) ?_
        show own_G p e below Φ T3 (mkF m 39 #[.val (.int p0), .val (.long q1), .second, .val (.long q2), .second, .val (.int z5), .val (.int z6), .val (.int z7), .unset, .unset, .unset, .unset, .unset, .unset, .unset, .unset, .unset] [])
        refine own_go (fun _ => XS.iloadN X3.here hx rfl (hb hby at_39) rfl) ?_
        show own_G p e below Φ T3 (mkF m 40 #[.val (.int p0), .val (.long q1), .second, .val (.long q2), .second, .val (.int z5), .val (.int z6), .val (.int z7), .unset, .unset, .unset, .unset, .unset, .unset, .unset, .unset, .unset] [(.int p0)])
        refine own_go (fun _ => XS.bipush X3.here hx rfl (hb hby at_40)) ?_
        show own_G p e below Φ T3 (mkF m 42 #[.val (.int p0), .val (.long q1), .second, .val (.long q2), .second, .val (.int z5), .val (.int z6), .val (.int z7), .unset, .unset, .unset, .unset, .unset, .unset, .unset, .unset, .unset] [(.int (8 : Int32)), (.int p0)])
        refine own_go (fun _ => XS.iand X3.here hx rfl (hb hby at_42) rfl) ?_
        show own_G p e below Φ T3 (mkF m 43 #[.val (.int p0), .val (.long q1), .second, .val (.long q2), .second, .val (.int z5), .val (.int z6), .val (.int z7), .unset, .unset, .unset, .unset, .unset, .unset, .unset, .unset, .unset] [(.int (p0 &&& (8 : Int32)))])
        have hJ51_4 : ∀ (T' : State), own_Al X3 T' → T'.heap = h0 → ∀ (z8 : Int32), (z8 = 0 ∨ z8 = 1) → own_G p e below Φ T' (mkF m 51 #[.val (.int p0), .val (.long q1), .second, .val (.long q2), .second, .val (.int z5), .val (.int z6), .val (.int z7), .unset, .unset, .unset, .unset, .unset, .unset, .unset, .unset, .unset] [(.int z8)]) := by
          intro T4 X4' e4 z8 h_z8
          have X4 : Stand _ _ _ _ _ _ _ _ _ _ T4 _ _ _ := X4'
          show own_G p e below Φ T4 (mkF m 51 #[.val (.int p0), .val (.long q1), .second, .val (.long q2), .second, .val (.int z5), .val (.int z6), .val (.int z7), .unset, .unset, .unset, .unset, .unset, .unset, .unset, .unset, .unset] [(.int z8)])
          refine own_go (fun _ => XS.istore X4.here hx rfl (hb hby at_51) rfl (l' := #[.val (.int p0), .val (.long q1), .second, .val (.long q2), .second, .val (.int z5), .val (.int z6), .val (.int z7), .val (.int z8), .unset, .unset, .unset, .unset, .unset, .unset, .unset, .unset]) rfl) ?_
          show own_G p e below Φ T4 (mkF m 53 #[.val (.int p0), .val (.long q1), .second, .val (.long q2), .second, .val (.int z5), .val (.int z6), .val (.int z7), .val (.int z8), .unset, .unset, .unset, .unset, .unset, .unset, .unset, .unset] [])
          obtain ⟨T5, h5, X5, e5, E5, A5, D5, -, st5⟩ := newO X4 hx hZ hown (wd_0 hw) (wd_1 hw) (wd_2 hw) e4 (g := (mkF m 53 #[.val (.int p0), .val (.long q1), .second, .val (.long q2), .second, .val (.int z5), .val (.int z6), .val (.int z7), .val (.int z8), .unset, .unset, .unset, .unset, .unset, .unset, .unset, .unset] [])) rfl (hb hby at_53) (by decide) (by decide)
          obtain ⟨ob5, g5⟩ : ∃ z, z = h0.size := ⟨_, rfl⟩
          rw [← g5] at A5 D5 st5
          have g_ob5 : n0 ≤ ob5 := Nat.le_trans Z0 (Nat.le_of_eq g5.symm)
          have Zp5 : n0 ≤ h5.size := Nat.le_trans Z0 E5.1
          refine own_go st5 ?_
          show own_G p e below Φ T5 (mkF m 56 #[.val (.int p0), .val (.long q1), .second, .val (.long q2), .second, .val (.int z5), .val (.int z6), .val (.int z7), .val (.int z8), .unset, .unset, .unset, .unset, .unset, .unset, .unset, .unset] [(.ref ob5)])
          refine own_go (fun _ => XS.dup X5.here hx rfl (hb hby at_56) rfl rfl) ?_
          show own_G p e below Φ T5 (mkF m 57 #[.val (.int p0), .val (.long q1), .second, .val (.long q2), .second, .val (.int z5), .val (.int z6), .val (.int z7), .val (.int z8), .unset, .unset, .unset, .unset, .unset, .unset, .unset, .unset] [(.ref ob5), (.ref ob5)])
          obtain ⟨_, _, ⟨T6, zL6, zk6, zn6⟩, -, X6, ⟨Lc6, hQ6, l6, y6, z6⟩, st6⟩ := X5.specialBack hx (y := (⟨"corro/core/Level", "<init>", "()V"⟩ : MethodName)) rfl hown (mvT hZ (wd_3 hw)) (mvT hZ (wd_4 hw)) (mvT hZ (wd_5 hw)) (by decide) (backOf (W := 1) (rmL l Z a0 hw [] ob5 h5 n0 Zp5 ) hZ (wd_5 hw) (wd_2 hw) (by decide) (by decide)) (g := (mkF m 57 #[.val (.int p0), .val (.long q1), .second, .val (.long q2), .second, .val (.int z5), .val (.int z6), .val (.int z7), .val (.int z8), .unset, .unset, .unset, .unset, .unset, .unset, .unset, .unset] [(.ref ob5), (.ref ob5)])) rfl (by rw [hml]; rfl) (Steps.refl _) (a := ob5) (argsL := []) (rest := [(.ref ob5)]) (lenOf pd_0 rfl) rfl (by show 2 * 0 + _ ≤ _; exact Nat.le_of_eq rfl) (hb hby at_57) (fun _ _ => ⟨rfl, e5, (by decide : 1 + 0 ≤ _), (by decide : 2 + 0 ≤ _)⟩)
          dsimp only [Pt.U, Pt.locs, Pt.cells, Pt.slots] at X6 l6 y6 z6 st6 hQ6
          subst l6 y6 z6
          obtain ⟨rfl, N6q, hs6⟩ := hQ6
          have N6 := Fr.app N0 N6q
          refine own_on st6 ?_
          show own_G p e below Φ T6 (mkF m 60 #[.val (.int p0), .val (.long q1), .second, .val (.long q2), .second, .val (.int z5), .val (.int z6), .val (.int z7), .val (.int z8), .unset, .unset, .unset, .unset, .unset, .unset, .unset, .unset] [(.ref ob5)])
          refine own_go (fun _ => XS.astore X6.here hx rfl (hb hby at_60) rfl rfl (l' := #[.val (.int p0), .val (.long q1), .second, .val (.long q2), .second, .val (.int z5), .val (.int z6), .val (.int z7), .val (.int z8), .val (.ref ob5), .unset, .unset, .unset, .unset, .unset, .unset, .unset]) rfl) ?_
          show own_G p e below Φ T6 (mkF m 62 #[.val (.int p0), .val (.long q1), .second, .val (.long q2), .second, .val (.int z5), .val (.int z6), .val (.int z7), .val (.int z8), .val (.ref ob5), .unset, .unset, .unset, .unset, .unset, .unset, .unset] [])
          obtain ⟨T7, h7, X7, e7, E7, A7, D7, -, st7⟩ := newO X6 hx hZ hown (wd_0 hw) (wd_1 hw) (wd_2 hw) hs6 (g := (mkF m 62 #[.val (.int p0), .val (.long q1), .second, .val (.long q2), .second, .val (.int z5), .val (.int z6), .val (.int z7), .val (.int z8), .val (.ref ob5), .unset, .unset, .unset, .unset, .unset, .unset, .unset] [])) rfl (hb hby at_62) (by decide) (by decide)
          obtain ⟨ob7, g7⟩ : ∃ z, z = h5.size := ⟨_, rfl⟩
          rw [← g7] at A7 D7 st7
          have ne_ob5_ob7 : ob5 ≠ ob7 := Nat.ne_of_lt (Nat.lt_of_lt_of_le A5.lt (Nat.le_of_eq g7.symm))
          have g_ob7 : n0 ≤ ob7 := Nat.le_trans Zp5 (Nat.le_of_eq g7.symm)
          have Zp7 : n0 ≤ h7.size := Nat.le_trans Zp5 E7.1
          refine own_go st7 ?_
          show own_G p e below Φ T7 (mkF m 65 #[.val (.int p0), .val (.long q1), .second, .val (.long q2), .second, .val (.int z5), .val (.int z6), .val (.int z7), .val (.int z8), .val (.ref ob5), .unset, .unset, .unset, .unset, .unset, .unset, .unset] [(.ref ob7)])
          refine own_go (fun _ => XS.dup X7.here hx rfl (hb hby at_65) rfl rfl) ?_
          show own_G p e below Φ T7 (mkF m 66 #[.val (.int p0), .val (.long q1), .second, .val (.long q2), .second, .val (.int z5), .val (.int z6), .val (.int z7), .val (.int z8), .val (.ref ob5), .unset, .unset, .unset, .unset, .unset, .unset, .unset] [(.ref ob7), (.ref ob7)])
          obtain ⟨_, _, ⟨T8, zL8, zk8, zn8⟩, -, X8, ⟨Lc8, hQ8, l8, y8, z8⟩, st8⟩ := X7.specialBack hx (y := (⟨"corro/core/Level", "<init>", "()V"⟩ : MethodName)) rfl hown (mvT hZ (wd_3 hw)) (mvT hZ (wd_4 hw)) (mvT hZ (wd_5 hw)) (by decide) (backOf (W := 1) (rmL l Z a0 hw [] ob7 h7 n0 Zp7 ) hZ (wd_5 hw) (wd_2 hw) (by decide) (by decide)) (g := (mkF m 66 #[.val (.int p0), .val (.long q1), .second, .val (.long q2), .second, .val (.int z5), .val (.int z6), .val (.int z7), .val (.int z8), .val (.ref ob5), .unset, .unset, .unset, .unset, .unset, .unset, .unset] [(.ref ob7), (.ref ob7)])) rfl (by rw [hml]; rfl) (Steps.refl _) (a := ob7) (argsL := []) (rest := [(.ref ob7)]) (lenOf pd_0 rfl) rfl (by show 2 * 0 + _ ≤ _; exact Nat.le_of_eq rfl) (hb hby at_66) (fun _ _ => ⟨rfl, e7, (by decide : 2 + 0 ≤ _), (by decide : 4 + 0 ≤ _)⟩)
          dsimp only [Pt.U, Pt.locs, Pt.cells, Pt.slots] at X8 l8 y8 z8 st8 hQ8
          subst l8 y8 z8
          obtain ⟨rfl, N8q, hs8⟩ := hQ8
          have N8 := Fr.app N6 N8q
          refine own_on st8 ?_
          show own_G p e below Φ T8 (mkF m 69 #[.val (.int p0), .val (.long q1), .second, .val (.long q2), .second, .val (.int z5), .val (.int z6), .val (.int z7), .val (.int z8), .val (.ref ob5), .unset, .unset, .unset, .unset, .unset, .unset, .unset] [(.ref ob7)])
          refine own_go (fun _ => XS.astore X8.here hx rfl (hb hby at_69) rfl rfl (l' := #[.val (.int p0), .val (.long q1), .second, .val (.long q2), .second, .val (.int z5), .val (.int z6), .val (.int z7), .val (.int z8), .val (.ref ob5), .val (.ref ob7), .unset, .unset, .unset, .unset, .unset, .unset]) rfl) ?_
          show own_G p e below Φ T8 (mkF m 71 #[.val (.int p0), .val (.long q1), .second, .val (.long q2), .second, .val (.int z5), .val (.int z6), .val (.int z7), .val (.int z8), .val (.ref ob5), .val (.ref ob7), .unset, .unset, .unset, .unset, .unset, .unset] [])
          obtain ⟨T9, h9, X9, e9, E9, A9, D9, -, st9⟩ := newO X8 hx hZ hown (wd_9 hw) (wd_10 hw) (wd_11 hw) hs8 (g := (mkF m 71 #[.val (.int p0), .val (.long q1), .second, .val (.long q2), .second, .val (.int z5), .val (.int z6), .val (.int z7), .val (.int z8), .val (.ref ob5), .val (.ref ob7), .unset, .unset, .unset, .unset, .unset, .unset] [])) rfl (hb hby at_71) (by decide) (by decide)
          obtain ⟨ob9, g9⟩ : ∃ z, z = h7.size := ⟨_, rfl⟩
          rw [← g9] at A9 D9 st9
          have f10 : Exa Z h7 ob5 "corro/core/Level" := A5.ext E7
          have ne_ob5_ob9 : ob5 ≠ ob9 := Nat.ne_of_lt (Nat.lt_of_lt_of_le f10.lt (Nat.le_of_eq g9.symm))
          have ne_ob7_ob9 : ob7 ≠ ob9 := Nat.ne_of_lt (Nat.lt_of_lt_of_le A7.lt (Nat.le_of_eq g9.symm))
          have g_ob9 : n0 ≤ ob9 := Nat.le_trans Zp7 (Nat.le_of_eq g9.symm)
          have Zp9 : n0 ≤ h9.size := Nat.le_trans Zp7 E9.1
          refine own_go st9 ?_
          have F_id_ob9 : Fld Z h9 ob9 "corro/core/Order" "id" "Ljava/lang/String;" .null := D9 (Or.inr (wd_17 hw)) (ty := (.object "java/lang/String")) (by decide)
          have F_side_ob9 : Fld Z h9 ob9 "corro/core/Order" "side" "Lcorro/core/Side;" .null := D9 (Or.inr (wd_19 hw)) (ty := (.object "corro/core/Side")) (by decide)
          have F_type_ob9 : Fld Z h9 ob9 "corro/core/Order" "type" "Lcorro/core/OrderType;" .null := D9 (Or.inr (wd_21 hw)) (ty := (.object "corro/core/OrderType")) (by decide)
          have F_timeInForce_ob9 : Fld Z h9 ob9 "corro/core/Order" "timeInForce" "Lcorro/core/TimeInForce;" .null := D9 (Or.inr (wd_23 hw)) (ty := (.object "corro/core/TimeInForce")) (by decide)
          have F_quantity_ob9 : Fld Z h9 ob9 "corro/core/Order" "quantity" "J" (.long (0 : Int64)) := D9 (Or.inl (wd_25 hw)) (ty := .long) (by decide)
          have F_price_ob9 : Fld Z h9 ob9 "corro/core/Order" "price" "J" (.long (0 : Int64)) := D9 (Or.inl (wd_27 hw)) (ty := .long) (by decide)
          have F_level_ob9 : Fld Z h9 ob9 "corro/core/Order" "level" "Lcorro/core/Level;" .null := D9 (Or.inl (wd_34 hw)) (ty := (.object "corro/core/Level")) (by decide)
          have F_previous_ob9 : Fld Z h9 ob9 "corro/core/Order" "previous" "Lcorro/core/Order;" .null := D9 (Or.inl (wd_36 hw)) (ty := (.object "corro/core/Order")) (by decide)
          have F_next_ob9 : Fld Z h9 ob9 "corro/core/Order" "next" "Lcorro/core/Order;" .null := D9 (Or.inl (wd_38 hw)) (ty := (.object "corro/core/Order")) (by decide)
          show own_G p e below Φ T9 (mkF m 74 #[.val (.int p0), .val (.long q1), .second, .val (.long q2), .second, .val (.int z5), .val (.int z6), .val (.int z7), .val (.int z8), .val (.ref ob5), .val (.ref ob7), .unset, .unset, .unset, .unset, .unset, .unset] [(.ref ob9)])
          refine own_go (fun _ => XS.dup X9.here hx rfl (hb hby at_74) rfl rfl) ?_
          show own_G p e below Φ T9 (mkF m 75 #[.val (.int p0), .val (.long q1), .second, .val (.long q2), .second, .val (.int z5), .val (.int z6), .val (.int z7), .val (.int z8), .val (.ref ob5), .val (.ref ob7), .unset, .unset, .unset, .unset, .unset, .unset] [(.ref ob9), (.ref ob9)])
          refine own_go (fun _ => XS.aconstNull X9.here hx rfl (hb hby at_75)) ?_
          show own_G p e below Φ T9 (mkF m 76 #[.val (.int p0), .val (.long q1), .second, .val (.long q2), .second, .val (.int z5), .val (.int z6), .val (.int z7), .val (.int z8), .val (.ref ob5), .val (.ref ob7), .unset, .unset, .unset, .unset, .unset, .unset] [.null, (.ref ob9), (.ref ob9)])
          refine own_go (fun _ => XS.aconstNull X9.here hx rfl (hb hby at_76)) ?_
          show own_G p e below Φ T9 (mkF m 77 #[.val (.int p0), .val (.long q1), .second, .val (.long q2), .second, .val (.int z5), .val (.int z6), .val (.int z7), .val (.int z8), .val (.ref ob5), .val (.ref ob7), .unset, .unset, .unset, .unset, .unset, .unset] [.null, .null, (.ref ob9), (.ref ob9)])
          refine own_go (fun _ => XS.lloadN X9.here hx rfl (hb hby at_77) rfl) ?_
          show own_G p e below Φ T9 (mkF m 78 #[.val (.int p0), .val (.long q1), .second, .val (.long q2), .second, .val (.int z5), .val (.int z6), .val (.int z7), .val (.int z8), .val (.ref ob5), .val (.ref ob7), .unset, .unset, .unset, .unset, .unset, .unset] [(.long q1), .null, .null, (.ref ob9), (.ref ob9)])
          refine own_go (fun _ => XS.aconstNull X9.here hx rfl (hb hby at_78)) ?_
          show own_G p e below Φ T9 (mkF m 79 #[.val (.int p0), .val (.long q1), .second, .val (.long q2), .second, .val (.int z5), .val (.int z6), .val (.int z7), .val (.int z8), .val (.ref ob5), .val (.ref ob7), .unset, .unset, .unset, .unset, .unset, .unset] [.null, (.long q1), .null, .null, (.ref ob9), (.ref ob9)])
          refine own_go (fun _ => XS.lloadN X9.here hx rfl (hb hby at_79) rfl) ?_
          show own_G p e below Φ T9 (mkF m 80 #[.val (.int p0), .val (.long q1), .second, .val (.long q2), .second, .val (.int z5), .val (.int z6), .val (.int z7), .val (.int z8), .val (.ref ob5), .val (.ref ob7), .unset, .unset, .unset, .unset, .unset, .unset] [(.long q2), .null, (.long q1), .null, .null, (.ref ob9), (.ref ob9)])
          refine own_go (fun _ => XS.aconstNull X9.here hx rfl (hb hby at_80)) ?_
          show own_G p e below Φ T9 (mkF m 81 #[.val (.int p0), .val (.long q1), .second, .val (.long q2), .second, .val (.int z5), .val (.int z6), .val (.int z7), .val (.int z8), .val (.ref ob5), .val (.ref ob7), .unset, .unset, .unset, .unset, .unset, .unset] [.null, (.long q2), .null, (.long q1), .null, .null, (.ref ob9), (.ref ob9)])
          obtain ⟨_, _, ⟨T11, zL11, zk11, zn11⟩, -, X11, ⟨Lc11, hQ11, l11, y11, z11⟩, st11⟩ := X9.specialBack hx (y := (⟨"corro/core/Order", "<init>", "(Ljava/lang/String;Lcorro/core/Side;JLcorro/core/OrderType;JLcorro/core/TimeInForce;)V"⟩ : MethodName)) rfl hown (mvT hZ (wd_12 hw)) (mvT hZ (wd_13 hw)) (mvT hZ (wd_14 hw)) (by decide) (backOf (W := 1) (rmC l Z a0 hw [] ob9 q1 q2 .null .null .null .null (.long (0 : Int64)) (.long (0 : Int64)) h9 n0 Zp9 A9 F_id_ob9 F_side_ob9 F_type_ob9 F_timeInForce_ob9 F_quantity_ob9 F_price_ob9 F_level_ob9 F_previous_ob9 F_next_ob9 g_ob9) hZ (wd_14 hw) (wd_11 hw) (by decide) (by decide)) (g := (mkF m 81 #[.val (.int p0), .val (.long q1), .second, .val (.long q2), .second, .val (.int z5), .val (.int z6), .val (.int z7), .val (.int z8), .val (.ref ob5), .val (.ref ob7), .unset, .unset, .unset, .unset, .unset, .unset] [.null, (.long q2), .null, (.long q1), .null, .null, (.ref ob9), (.ref ob9)])) rfl (by rw [hml]; rfl) (Steps.refl _) (a := ob9) (argsL := [.null, .null, (.long q1), .null, (.long q2), .null]) (rest := [(.ref ob9)]) (lenOf pd_1 rfl) rfl (by show 2 * 0 + _ ≤ _; exact Nat.le_of_eq rfl) (hb hby at_81) (fun _ _ => ⟨rfl, e9, (by decide : 3 + 0 ≤ _), (by decide : 16 + 0 ≤ _)⟩)
          dsimp only [Pt.U, Pt.locs, Pt.cells, Pt.slots] at X11 l11 y11 z11 st11 hQ11
          subst l11 y11 z11
          obtain ⟨rfl, N11q, Kq11, p11_0, p11_1, p11_2, p11_3, p11_4, p11_5⟩ := hQ11
          have N11 := Fr.app N8 N11q
          refine own_on st11 ?_
          have Zp11 : n0 ≤ T11.heap.size := Nat.le_trans Zp9 Kq11.1
          show own_G p e below Φ T11 (mkF m 84 #[.val (.int p0), .val (.long q1), .second, .val (.long q2), .second, .val (.int z5), .val (.int z6), .val (.int z7), .val (.int z8), .val (.ref ob5), .val (.ref ob7), .unset, .unset, .unset, .unset, .unset, .unset] [(.ref ob9)])
          refine own_go (fun _ => XS.astore X11.here hx rfl (hb hby at_84) rfl rfl (l' := #[.val (.int p0), .val (.long q1), .second, .val (.long q2), .second, .val (.int z5), .val (.int z6), .val (.int z7), .val (.int z8), .val (.ref ob5), .val (.ref ob7), .val (.ref ob9), .unset, .unset, .unset, .unset, .unset]) rfl) ?_
          show own_G p e below Φ T11 (mkF m 86 #[.val (.int p0), .val (.long q1), .second, .val (.long q2), .second, .val (.int z5), .val (.int z6), .val (.int z7), .val (.int z8), .val (.ref ob5), .val (.ref ob7), .val (.ref ob9), .unset, .unset, .unset, .unset, .unset] [])
          obtain ⟨T12, h12, X12, e12, E12, A12, D12, -, st12⟩ := newO X11 hx hZ hown (wd_9 hw) (wd_10 hw) (wd_11 hw) rfl (g := (mkF m 86 #[.val (.int p0), .val (.long q1), .second, .val (.long q2), .second, .val (.int z5), .val (.int z6), .val (.int z7), .val (.int z8), .val (.ref ob5), .val (.ref ob7), .val (.ref ob9), .unset, .unset, .unset, .unset, .unset] [])) rfl (hb hby at_86) (by decide) (by decide)
          obtain ⟨ob12, g12⟩ : ∃ z, z = T11.heap.size := ⟨_, rfl⟩
          rw [← g12] at A12 D12 st12
          have f13 : Exa Z h9 ob5 "corro/core/Level" := f10.ext E9
          have f14 : Exa Z T11.heap ob5 "corro/core/Level" := f13.keep Kq11
          have ne_ob5_ob12 : ob5 ≠ ob12 := Nat.ne_of_lt (Nat.lt_of_lt_of_le f14.lt (Nat.le_of_eq g12.symm))
          have f15 : Exa Z h9 ob7 "corro/core/Level" := A7.ext E9
          have f16 : Exa Z T11.heap ob7 "corro/core/Level" := f15.keep Kq11
          have ne_ob7_ob12 : ob7 ≠ ob12 := Nat.ne_of_lt (Nat.lt_of_lt_of_le f16.lt (Nat.le_of_eq g12.symm))
          have ne_ob9_ob12 : ob9 ≠ ob12 := Nat.ne_of_lt (Nat.lt_of_lt_of_le p11_0.lt (Nat.le_of_eq g12.symm))
          have g_ob12 : n0 ≤ ob12 := Nat.le_trans Zp11 (Nat.le_of_eq g12.symm)
          have Zp12 : n0 ≤ h12.size := Nat.le_trans Zp11 E12.1
          refine own_go st12 ?_
          have F_id_ob12 : Fld Z h12 ob12 "corro/core/Order" "id" "Ljava/lang/String;" .null := D12 (Or.inr (wd_17 hw)) (ty := (.object "java/lang/String")) (by decide)
          have F_side_ob12 : Fld Z h12 ob12 "corro/core/Order" "side" "Lcorro/core/Side;" .null := D12 (Or.inr (wd_19 hw)) (ty := (.object "corro/core/Side")) (by decide)
          have F_type_ob12 : Fld Z h12 ob12 "corro/core/Order" "type" "Lcorro/core/OrderType;" .null := D12 (Or.inr (wd_21 hw)) (ty := (.object "corro/core/OrderType")) (by decide)
          have F_timeInForce_ob12 : Fld Z h12 ob12 "corro/core/Order" "timeInForce" "Lcorro/core/TimeInForce;" .null := D12 (Or.inr (wd_23 hw)) (ty := (.object "corro/core/TimeInForce")) (by decide)
          have F_quantity_ob12 : Fld Z h12 ob12 "corro/core/Order" "quantity" "J" (.long (0 : Int64)) := D12 (Or.inl (wd_25 hw)) (ty := .long) (by decide)
          have F_price_ob12 : Fld Z h12 ob12 "corro/core/Order" "price" "J" (.long (0 : Int64)) := D12 (Or.inl (wd_27 hw)) (ty := .long) (by decide)
          have F_level_ob12 : Fld Z h12 ob12 "corro/core/Order" "level" "Lcorro/core/Level;" .null := D12 (Or.inl (wd_34 hw)) (ty := (.object "corro/core/Level")) (by decide)
          have F_previous_ob12 : Fld Z h12 ob12 "corro/core/Order" "previous" "Lcorro/core/Order;" .null := D12 (Or.inl (wd_36 hw)) (ty := (.object "corro/core/Order")) (by decide)
          have F_next_ob12 : Fld Z h12 ob12 "corro/core/Order" "next" "Lcorro/core/Order;" .null := D12 (Or.inl (wd_38 hw)) (ty := (.object "corro/core/Order")) (by decide)
          show own_G p e below Φ T12 (mkF m 89 #[.val (.int p0), .val (.long q1), .second, .val (.long q2), .second, .val (.int z5), .val (.int z6), .val (.int z7), .val (.int z8), .val (.ref ob5), .val (.ref ob7), .val (.ref ob9), .unset, .unset, .unset, .unset, .unset] [(.ref ob12)])
          refine own_go (fun _ => XS.dup X12.here hx rfl (hb hby at_89) rfl rfl) ?_
          show own_G p e below Φ T12 (mkF m 90 #[.val (.int p0), .val (.long q1), .second, .val (.long q2), .second, .val (.int z5), .val (.int z6), .val (.int z7), .val (.int z8), .val (.ref ob5), .val (.ref ob7), .val (.ref ob9), .unset, .unset, .unset, .unset, .unset] [(.ref ob12), (.ref ob12)])
          refine own_go (fun _ => XS.aconstNull X12.here hx rfl (hb hby at_90)) ?_
          show own_G p e below Φ T12 (mkF m 91 #[.val (.int p0), .val (.long q1), .second, .val (.long q2), .second, .val (.int z5), .val (.int z6), .val (.int z7), .val (.int z8), .val (.ref ob5), .val (.ref ob7), .val (.ref ob9), .unset, .unset, .unset, .unset, .unset] [.null, (.ref ob12), (.ref ob12)])
          refine own_go (fun _ => XS.aconstNull X12.here hx rfl (hb hby at_91)) ?_
          show own_G p e below Φ T12 (mkF m 92 #[.val (.int p0), .val (.long q1), .second, .val (.long q2), .second, .val (.int z5), .val (.int z6), .val (.int z7), .val (.int z8), .val (.ref ob5), .val (.ref ob7), .val (.ref ob9), .unset, .unset, .unset, .unset, .unset] [.null, .null, (.ref ob12), (.ref ob12)])
          refine own_go (fun _ => XS.lloadN X12.here hx rfl (hb hby at_92) rfl) ?_
          show own_G p e below Φ T12 (mkF m 93 #[.val (.int p0), .val (.long q1), .second, .val (.long q2), .second, .val (.int z5), .val (.int z6), .val (.int z7), .val (.int z8), .val (.ref ob5), .val (.ref ob7), .val (.ref ob9), .unset, .unset, .unset, .unset, .unset] [(.long q1), .null, .null, (.ref ob12), (.ref ob12)])
          refine own_go (fun _ => XS.aconstNull X12.here hx rfl (hb hby at_93)) ?_
          show own_G p e below Φ T12 (mkF m 94 #[.val (.int p0), .val (.long q1), .second, .val (.long q2), .second, .val (.int z5), .val (.int z6), .val (.int z7), .val (.int z8), .val (.ref ob5), .val (.ref ob7), .val (.ref ob9), .unset, .unset, .unset, .unset, .unset] [.null, (.long q1), .null, .null, (.ref ob12), (.ref ob12)])
          refine own_go (fun _ => XS.lloadN X12.here hx rfl (hb hby at_94) rfl) ?_
          show own_G p e below Φ T12 (mkF m 95 #[.val (.int p0), .val (.long q1), .second, .val (.long q2), .second, .val (.int z5), .val (.int z6), .val (.int z7), .val (.int z8), .val (.ref ob5), .val (.ref ob7), .val (.ref ob9), .unset, .unset, .unset, .unset, .unset] [(.long q2), .null, (.long q1), .null, .null, (.ref ob12), (.ref ob12)])
          refine own_go (fun _ => XS.aconstNull X12.here hx rfl (hb hby at_95)) ?_
          show own_G p e below Φ T12 (mkF m 96 #[.val (.int p0), .val (.long q1), .second, .val (.long q2), .second, .val (.int z5), .val (.int z6), .val (.int z7), .val (.int z8), .val (.ref ob5), .val (.ref ob7), .val (.ref ob9), .unset, .unset, .unset, .unset, .unset] [.null, (.long q2), .null, (.long q1), .null, .null, (.ref ob12), (.ref ob12)])
          obtain ⟨_, _, ⟨T17, zL17, zk17, zn17⟩, -, X17, ⟨Lc17, hQ17, l17, y17, z17⟩, st17⟩ := X12.specialBack hx (y := (⟨"corro/core/Order", "<init>", "(Ljava/lang/String;Lcorro/core/Side;JLcorro/core/OrderType;JLcorro/core/TimeInForce;)V"⟩ : MethodName)) rfl hown (mvT hZ (wd_12 hw)) (mvT hZ (wd_13 hw)) (mvT hZ (wd_14 hw)) (by decide) (backOf (W := 1) (rmC l Z a0 hw [] ob12 q1 q2 .null .null .null .null (.long (0 : Int64)) (.long (0 : Int64)) h12 n0 Zp12 A12 F_id_ob12 F_side_ob12 F_type_ob12 F_timeInForce_ob12 F_quantity_ob12 F_price_ob12 F_level_ob12 F_previous_ob12 F_next_ob12 g_ob12) hZ (wd_14 hw) (wd_11 hw) (by decide) (by decide)) (g := (mkF m 96 #[.val (.int p0), .val (.long q1), .second, .val (.long q2), .second, .val (.int z5), .val (.int z6), .val (.int z7), .val (.int z8), .val (.ref ob5), .val (.ref ob7), .val (.ref ob9), .unset, .unset, .unset, .unset, .unset] [.null, (.long q2), .null, (.long q1), .null, .null, (.ref ob12), (.ref ob12)])) rfl (by rw [hml]; rfl) (Steps.refl _) (a := ob12) (argsL := [.null, .null, (.long q1), .null, (.long q2), .null]) (rest := [(.ref ob12)]) (lenOf pd_1 rfl) rfl (by show 2 * 0 + _ ≤ _; exact Nat.le_of_eq rfl) (hb hby at_96) (fun _ _ => ⟨rfl, e12, (by decide : 4 + 0 ≤ _), (by decide : 28 + 0 ≤ _)⟩)
          dsimp only [Pt.U, Pt.locs, Pt.cells, Pt.slots] at X17 l17 y17 z17 st17 hQ17
          subst l17 y17 z17
          obtain ⟨rfl, N17q, Kq17, p17_0, p17_1, p17_2, p17_3, p17_4, p17_5⟩ := hQ17
          have N17 := Fr.app N11 N17q
          refine own_on st17 ?_
          have Zp17 : n0 ≤ T17.heap.size := Nat.le_trans Zp12 Kq17.1
          show own_G p e below Φ T17 (mkF m 99 #[.val (.int p0), .val (.long q1), .second, .val (.long q2), .second, .val (.int z5), .val (.int z6), .val (.int z7), .val (.int z8), .val (.ref ob5), .val (.ref ob7), .val (.ref ob9), .unset, .unset, .unset, .unset, .unset] [(.ref ob12)])
          refine own_go (fun _ => XS.astore X17.here hx rfl (hb hby at_99) rfl rfl (l' := #[.val (.int p0), .val (.long q1), .second, .val (.long q2), .second, .val (.int z5), .val (.int z6), .val (.int z7), .val (.int z8), .val (.ref ob5), .val (.ref ob7), .val (.ref ob9), .val (.ref ob12), .unset, .unset, .unset, .unset]) rfl) ?_
          show own_G p e below Φ T17 (mkF m 101 #[.val (.int p0), .val (.long q1), .second, .val (.long q2), .second, .val (.int z5), .val (.int z6), .val (.int z7), .val (.int z8), .val (.ref ob5), .val (.ref ob7), .val (.ref ob9), .val (.ref ob12), .unset, .unset, .unset, .unset] [])
          obtain ⟨T18, h18, X18, e18, E18, A18, D18, -, st18⟩ := newO X17 hx hZ hown (wd_9 hw) (wd_10 hw) (wd_11 hw) rfl (g := (mkF m 101 #[.val (.int p0), .val (.long q1), .second, .val (.long q2), .second, .val (.int z5), .val (.int z6), .val (.int z7), .val (.int z8), .val (.ref ob5), .val (.ref ob7), .val (.ref ob9), .val (.ref ob12), .unset, .unset, .unset, .unset] [])) rfl (hb hby at_101) (by decide) (by decide)
          obtain ⟨ob18, g18⟩ : ∃ z, z = T17.heap.size := ⟨_, rfl⟩
          rw [← g18] at A18 D18 st18
          have f19 : Exa Z h12 ob5 "corro/core/Level" := f14.ext E12
          have f20 : Exa Z T17.heap ob5 "corro/core/Level" := f19.keep Kq17
          have ne_ob5_ob18 : ob5 ≠ ob18 := Nat.ne_of_lt (Nat.lt_of_lt_of_le f20.lt (Nat.le_of_eq g18.symm))
          have f21 : Exa Z h12 ob7 "corro/core/Level" := f16.ext E12
          have f22 : Exa Z T17.heap ob7 "corro/core/Level" := f21.keep Kq17
          have ne_ob7_ob18 : ob7 ≠ ob18 := Nat.ne_of_lt (Nat.lt_of_lt_of_le f22.lt (Nat.le_of_eq g18.symm))
          have f23 : Exa Z h12 ob9 "corro/core/Order" := p11_0.ext E12
          have f24 : Exa Z T17.heap ob9 "corro/core/Order" := f23.keep Kq17
          have ne_ob9_ob18 : ob9 ≠ ob18 := Nat.ne_of_lt (Nat.lt_of_lt_of_le f24.lt (Nat.le_of_eq g18.symm))
          have ne_ob12_ob18 : ob12 ≠ ob18 := Nat.ne_of_lt (Nat.lt_of_lt_of_le p17_0.lt (Nat.le_of_eq g18.symm))
          have g_ob18 : n0 ≤ ob18 := Nat.le_trans Zp17 (Nat.le_of_eq g18.symm)
          have Zp18 : n0 ≤ h18.size := Nat.le_trans Zp17 E18.1
          refine own_go st18 ?_
          have F_id_ob18 : Fld Z h18 ob18 "corro/core/Order" "id" "Ljava/lang/String;" .null := D18 (Or.inr (wd_17 hw)) (ty := (.object "java/lang/String")) (by decide)
          have F_side_ob18 : Fld Z h18 ob18 "corro/core/Order" "side" "Lcorro/core/Side;" .null := D18 (Or.inr (wd_19 hw)) (ty := (.object "corro/core/Side")) (by decide)
          have F_type_ob18 : Fld Z h18 ob18 "corro/core/Order" "type" "Lcorro/core/OrderType;" .null := D18 (Or.inr (wd_21 hw)) (ty := (.object "corro/core/OrderType")) (by decide)
          have F_timeInForce_ob18 : Fld Z h18 ob18 "corro/core/Order" "timeInForce" "Lcorro/core/TimeInForce;" .null := D18 (Or.inr (wd_23 hw)) (ty := (.object "corro/core/TimeInForce")) (by decide)
          have F_quantity_ob18 : Fld Z h18 ob18 "corro/core/Order" "quantity" "J" (.long (0 : Int64)) := D18 (Or.inl (wd_25 hw)) (ty := .long) (by decide)
          have F_price_ob18 : Fld Z h18 ob18 "corro/core/Order" "price" "J" (.long (0 : Int64)) := D18 (Or.inl (wd_27 hw)) (ty := .long) (by decide)
          have F_level_ob18 : Fld Z h18 ob18 "corro/core/Order" "level" "Lcorro/core/Level;" .null := D18 (Or.inl (wd_34 hw)) (ty := (.object "corro/core/Level")) (by decide)
          have F_previous_ob18 : Fld Z h18 ob18 "corro/core/Order" "previous" "Lcorro/core/Order;" .null := D18 (Or.inl (wd_36 hw)) (ty := (.object "corro/core/Order")) (by decide)
          have F_next_ob18 : Fld Z h18 ob18 "corro/core/Order" "next" "Lcorro/core/Order;" .null := D18 (Or.inl (wd_38 hw)) (ty := (.object "corro/core/Order")) (by decide)
          show own_G p e below Φ T18 (mkF m 104 #[.val (.int p0), .val (.long q1), .second, .val (.long q2), .second, .val (.int z5), .val (.int z6), .val (.int z7), .val (.int z8), .val (.ref ob5), .val (.ref ob7), .val (.ref ob9), .val (.ref ob12), .unset, .unset, .unset, .unset] [(.ref ob18)])
          refine own_go (fun _ => XS.dup X18.here hx rfl (hb hby at_104) rfl rfl) ?_
          show own_G p e below Φ T18 (mkF m 105 #[.val (.int p0), .val (.long q1), .second, .val (.long q2), .second, .val (.int z5), .val (.int z6), .val (.int z7), .val (.int z8), .val (.ref ob5), .val (.ref ob7), .val (.ref ob9), .val (.ref ob12), .unset, .unset, .unset, .unset] [(.ref ob18), (.ref ob18)])
          refine own_go (fun _ => XS.aconstNull X18.here hx rfl (hb hby at_105)) ?_
          show own_G p e below Φ T18 (mkF m 106 #[.val (.int p0), .val (.long q1), .second, .val (.long q2), .second, .val (.int z5), .val (.int z6), .val (.int z7), .val (.int z8), .val (.ref ob5), .val (.ref ob7), .val (.ref ob9), .val (.ref ob12), .unset, .unset, .unset, .unset] [.null, (.ref ob18), (.ref ob18)])
          refine own_go (fun _ => XS.aconstNull X18.here hx rfl (hb hby at_106)) ?_
          show own_G p e below Φ T18 (mkF m 107 #[.val (.int p0), .val (.long q1), .second, .val (.long q2), .second, .val (.int z5), .val (.int z6), .val (.int z7), .val (.int z8), .val (.ref ob5), .val (.ref ob7), .val (.ref ob9), .val (.ref ob12), .unset, .unset, .unset, .unset] [.null, .null, (.ref ob18), (.ref ob18)])
          refine own_go (fun _ => XS.lloadN X18.here hx rfl (hb hby at_107) rfl) ?_
          show own_G p e below Φ T18 (mkF m 108 #[.val (.int p0), .val (.long q1), .second, .val (.long q2), .second, .val (.int z5), .val (.int z6), .val (.int z7), .val (.int z8), .val (.ref ob5), .val (.ref ob7), .val (.ref ob9), .val (.ref ob12), .unset, .unset, .unset, .unset] [(.long q1), .null, .null, (.ref ob18), (.ref ob18)])
          refine own_go (fun _ => XS.aconstNull X18.here hx rfl (hb hby at_108)) ?_
          show own_G p e below Φ T18 (mkF m 109 #[.val (.int p0), .val (.long q1), .second, .val (.long q2), .second, .val (.int z5), .val (.int z6), .val (.int z7), .val (.int z8), .val (.ref ob5), .val (.ref ob7), .val (.ref ob9), .val (.ref ob12), .unset, .unset, .unset, .unset] [.null, (.long q1), .null, .null, (.ref ob18), (.ref ob18)])
          refine own_go (fun _ => XS.lloadN X18.here hx rfl (hb hby at_109) rfl) ?_
          show own_G p e below Φ T18 (mkF m 110 #[.val (.int p0), .val (.long q1), .second, .val (.long q2), .second, .val (.int z5), .val (.int z6), .val (.int z7), .val (.int z8), .val (.ref ob5), .val (.ref ob7), .val (.ref ob9), .val (.ref ob12), .unset, .unset, .unset, .unset] [(.long q2), .null, (.long q1), .null, .null, (.ref ob18), (.ref ob18)])
          refine own_go (fun _ => XS.aconstNull X18.here hx rfl (hb hby at_110)) ?_
          show own_G p e below Φ T18 (mkF m 111 #[.val (.int p0), .val (.long q1), .second, .val (.long q2), .second, .val (.int z5), .val (.int z6), .val (.int z7), .val (.int z8), .val (.ref ob5), .val (.ref ob7), .val (.ref ob9), .val (.ref ob12), .unset, .unset, .unset, .unset] [.null, (.long q2), .null, (.long q1), .null, .null, (.ref ob18), (.ref ob18)])
          obtain ⟨_, _, ⟨T25, zL25, zk25, zn25⟩, -, X25, ⟨Lc25, hQ25, l25, y25, z25⟩, st25⟩ := X18.specialBack hx (y := (⟨"corro/core/Order", "<init>", "(Ljava/lang/String;Lcorro/core/Side;JLcorro/core/OrderType;JLcorro/core/TimeInForce;)V"⟩ : MethodName)) rfl hown (mvT hZ (wd_12 hw)) (mvT hZ (wd_13 hw)) (mvT hZ (wd_14 hw)) (by decide) (backOf (W := 1) (rmC l Z a0 hw [] ob18 q1 q2 .null .null .null .null (.long (0 : Int64)) (.long (0 : Int64)) h18 n0 Zp18 A18 F_id_ob18 F_side_ob18 F_type_ob18 F_timeInForce_ob18 F_quantity_ob18 F_price_ob18 F_level_ob18 F_previous_ob18 F_next_ob18 g_ob18) hZ (wd_14 hw) (wd_11 hw) (by decide) (by decide)) (g := (mkF m 111 #[.val (.int p0), .val (.long q1), .second, .val (.long q2), .second, .val (.int z5), .val (.int z6), .val (.int z7), .val (.int z8), .val (.ref ob5), .val (.ref ob7), .val (.ref ob9), .val (.ref ob12), .unset, .unset, .unset, .unset] [.null, (.long q2), .null, (.long q1), .null, .null, (.ref ob18), (.ref ob18)])) rfl (by rw [hml]; rfl) (Steps.refl _) (a := ob18) (argsL := [.null, .null, (.long q1), .null, (.long q2), .null]) (rest := [(.ref ob18)]) (lenOf pd_1 rfl) rfl (by show 2 * 0 + _ ≤ _; exact Nat.le_of_eq rfl) (hb hby at_111) (fun _ _ => ⟨rfl, e18, (by decide : 5 + 0 ≤ _), (by decide : 40 + 0 ≤ _)⟩)
          dsimp only [Pt.U, Pt.locs, Pt.cells, Pt.slots] at X25 l25 y25 z25 st25 hQ25
          subst l25 y25 z25
          obtain ⟨rfl, N25q, Kq25, p25_0, p25_1, p25_2, p25_3, p25_4, p25_5⟩ := hQ25
          have N25 := Fr.app N17 N25q
          refine own_on st25 ?_
          have Zp25 : n0 ≤ T25.heap.size := Nat.le_trans Zp18 Kq25.1
          show own_G p e below Φ T25 (mkF m 114 #[.val (.int p0), .val (.long q1), .second, .val (.long q2), .second, .val (.int z5), .val (.int z6), .val (.int z7), .val (.int z8), .val (.ref ob5), .val (.ref ob7), .val (.ref ob9), .val (.ref ob12), .unset, .unset, .unset, .unset] [(.ref ob18)])
          refine own_go (fun _ => XS.astore X25.here hx rfl (hb hby at_114) rfl rfl (l' := #[.val (.int p0), .val (.long q1), .second, .val (.long q2), .second, .val (.int z5), .val (.int z6), .val (.int z7), .val (.int z8), .val (.ref ob5), .val (.ref ob7), .val (.ref ob9), .val (.ref ob12), .val (.ref ob18), .unset, .unset, .unset]) rfl) ?_
          show own_G p e below Φ T25 (mkF m 116 #[.val (.int p0), .val (.long q1), .second, .val (.long q2), .second, .val (.int z5), .val (.int z6), .val (.int z7), .val (.int z8), .val (.ref ob5), .val (.ref ob7), .val (.ref ob9), .val (.ref ob12), .val (.ref ob18), .unset, .unset, .unset] [])
          rcases h_z6 with rfl | rfl
          · show own_G p e below Φ T25 (mkF m 116 #[.val (.int p0), .val (.long q1), .second, .val (.long q2), .second, .val (.int z5), .val (.int (0 : Int32)), .val (.int z7), .val (.int z8), .val (.ref ob5), .val (.ref ob7), .val (.ref ob9), .val (.ref ob12), .val (.ref ob18), .unset, .unset, .unset] [])
            refine own_go (fun _ => XS.iload X25.here hx rfl (hb hby at_116) rfl) ?_
            show own_G p e below Φ T25 (mkF m 118 #[.val (.int p0), .val (.long q1), .second, .val (.long q2), .second, .val (.int z5), .val (.int (0 : Int32)), .val (.int z7), .val (.int z8), .val (.ref ob5), .val (.ref ob7), .val (.ref ob9), .val (.ref ob12), .val (.ref ob18), .unset, .unset, .unset] [(.int (0 : Int32))])
            refine own_go (fun _ => XS.ifYes X25.here hx rfl (pc0 := 118) (pc' := 138) rfl (hb hby at_118) rfl (Jvm.Free.XT.i0_eq_t (by decide : ((0 : Int32) = (0 : Int32)))) (by decide) (by decide)) ?_
            show own_G p e below Φ T25 (mkF m 138 #[.val (.int p0), .val (.long q1), .second, .val (.long q2), .second, .val (.int z5), .val (.int (0 : Int32)), .val (.int z7), .val (.int z8), .val (.ref ob5), .val (.ref ob7), .val (.ref ob9), .val (.ref ob12), .val (.ref ob18), .unset, .unset, .unset] [])
            rcases h_z7 with rfl | rfl
            · show own_G p e below Φ T25 (mkF m 138 #[.val (.int p0), .val (.long q1), .second, .val (.long q2), .second, .val (.int z5), .val (.int (0 : Int32)), .val (.int (0 : Int32)), .val (.int z8), .val (.ref ob5), .val (.ref ob7), .val (.ref ob9), .val (.ref ob12), .val (.ref ob18), .unset, .unset, .unset] [])
              refine own_go (fun _ => XS.iload X25.here hx rfl (hb hby at_138) rfl) ?_
              show own_G p e below Φ T25 (mkF m 140 #[.val (.int p0), .val (.long q1), .second, .val (.long q2), .second, .val (.int z5), .val (.int (0 : Int32)), .val (.int (0 : Int32)), .val (.int z8), .val (.ref ob5), .val (.ref ob7), .val (.ref ob9), .val (.ref ob12), .val (.ref ob18), .unset, .unset, .unset] [(.int (0 : Int32))])
              refine own_go (fun _ => XS.ifYes X25.here hx rfl (pc0 := 140) (pc' := 151) rfl (hb hby at_140) rfl (Jvm.Free.XT.i0_eq_t (by decide : ((0 : Int32) = (0 : Int32)))) (by decide) (by decide)) ?_
              show own_G p e below Φ T25 (mkF m 151 #[.val (.int p0), .val (.long q1), .second, .val (.long q2), .second, .val (.int z5), .val (.int (0 : Int32)), .val (.int (0 : Int32)), .val (.int z8), .val (.ref ob5), .val (.ref ob7), .val (.ref ob9), .val (.ref ob12), .val (.ref ob18), .unset, .unset, .unset] [])
              refine own_go (fun _ => XS.iload X25.here hx rfl (hb hby at_151) rfl) ?_
              show own_G p e below Φ T25 (mkF m 153 #[.val (.int p0), .val (.long q1), .second, .val (.long q2), .second, .val (.int z5), .val (.int (0 : Int32)), .val (.int (0 : Int32)), .val (.int z8), .val (.ref ob5), .val (.ref ob7), .val (.ref ob9), .val (.ref ob12), .val (.ref ob18), .unset, .unset, .unset] [(.int z8)])
              have hJ163_26 : ∀ (T' : State), own_Al X25 T' → T'.heap = T25.heap → ∀ (t14 : Addr), own_G p e below Φ T' (mkF m 163 #[.val (.int p0), .val (.long q1), .second, .val (.long q2), .second, .val (.int z5), .val (.int (0 : Int32)), .val (.int (0 : Int32)), .val (.int z8), .val (.ref ob5), .val (.ref ob7), .val (.ref ob9), .val (.ref ob12), .val (.ref ob18), .unset, .unset, .unset] [(.ref t14)]) := by
                intro T26 X26' e26 t14
                have X26 : Stand _ _ _ _ _ _ _ _ _ _ T26 _ _ _ := X26'
                show own_G p e below Φ T26 (mkF m 163 #[.val (.int p0), .val (.long q1), .second, .val (.long q2), .second, .val (.int z5), .val (.int (0 : Int32)), .val (.int (0 : Int32)), .val (.int z8), .val (.ref ob5), .val (.ref ob7), .val (.ref ob9), .val (.ref ob12), .val (.ref ob18), .unset, .unset, .unset] [(.ref t14)])
                refine own_go (fun _ => XS.astore X26.here hx rfl (hb hby at_163) rfl rfl (l' := #[.val (.int p0), .val (.long q1), .second, .val (.long q2), .second, .val (.int z5), .val (.int (0 : Int32)), .val (.int (0 : Int32)), .val (.int z8), .val (.ref ob5), .val (.ref ob7), .val (.ref ob9), .val (.ref ob12), .val (.ref ob18), .val (.ref t14), .unset, .unset]) rfl) ?_
                show own_G p e below Φ T26 (mkF m 165 #[.val (.int p0), .val (.long q1), .second, .val (.long q2), .second, .val (.int z5), .val (.int (0 : Int32)), .val (.int (0 : Int32)), .val (.int z8), .val (.ref ob5), .val (.ref ob7), .val (.ref ob9), .val (.ref ob12), .val (.ref ob18), .val (.ref t14), .unset, .unset] [])
                rcases h_z5 with rfl | rfl
                · show own_G p e below Φ T26 (mkF m 165 #[.val (.int p0), .val (.long q1), .second, .val (.long q2), .second, .val (.int (0 : Int32)), .val (.int (0 : Int32)), .val (.int (0 : Int32)), .val (.int z8), .val (.ref ob5), .val (.ref ob7), .val (.ref ob9), .val (.ref ob12), .val (.ref ob18), .val (.ref t14), .unset, .unset] [])
                  refine own_go (fun _ => XS.iload X26.here hx rfl (hb hby at_165) rfl) ?_
                  show own_G p e below Φ T26 (mkF m 167 #[.val (.int p0), .val (.long q1), .second, .val (.long q2), .second, .val (.int (0 : Int32)), .val (.int (0 : Int32)), .val (.int (0 : Int32)), .val (.int z8), .val (.ref ob5), .val (.ref ob7), .val (.ref ob9), .val (.ref ob12), .val (.ref ob18), .val (.ref t14), .unset, .unset] [(.int (0 : Int32))])
                  refine own_go (fun _ => XS.ifYes X26.here hx rfl (pc0 := 167) (pc' := 175) rfl (hb hby at_167) rfl (Jvm.Free.XT.i0_eq_t (by decide : ((0 : Int32) = (0 : Int32)))) (by decide) (by decide)) ?_
                  show own_G p e below Φ T26 (mkF m 175 #[.val (.int p0), .val (.long q1), .second, .val (.long q2), .second, .val (.int (0 : Int32)), .val (.int (0 : Int32)), .val (.int (0 : Int32)), .val (.int z8), .val (.ref ob5), .val (.ref ob7), .val (.ref ob9), .val (.ref ob12), .val (.ref ob18), .val (.ref t14), .unset, .unset] [])
                  refine own_go (fun _ => XS.aconstNull X26.here hx rfl (hb hby at_175)) ?_
                  show own_G p e below Φ T26 (mkF m 176 #[.val (.int p0), .val (.long q1), .second, .val (.long q2), .second, .val (.int (0 : Int32)), .val (.int (0 : Int32)), .val (.int (0 : Int32)), .val (.int z8), .val (.ref ob5), .val (.ref ob7), .val (.ref ob9), .val (.ref ob12), .val (.ref ob18), .val (.ref t14), .unset, .unset] [.null])
                  refine own_go (fun _ => XS.astore X26.here hx rfl (hb hby at_176) rfl rfl (l' := #[.val (.int p0), .val (.long q1), .second, .val (.long q2), .second, .val (.int (0 : Int32)), .val (.int (0 : Int32)), .val (.int (0 : Int32)), .val (.int z8), .val (.ref ob5), .val (.ref ob7), .val (.ref ob9), .val (.ref ob12), .val (.ref ob18), .val (.ref t14), .val .null, .unset]) rfl) ?_
                  show own_G p e below Φ T26 (mkF m 178 #[.val (.int p0), .val (.long q1), .second, .val (.long q2), .second, .val (.int (0 : Int32)), .val (.int (0 : Int32)), .val (.int (0 : Int32)), .val (.int z8), .val (.ref ob5), .val (.ref ob7), .val (.ref ob9), .val (.ref ob12), .val (.ref ob18), .val (.ref t14), .val .null, .unset] [])
                  refine own_go (fun _ => XS.aload X26.here hx rfl (hb hby at_178) rfl rfl) ?_
                  show own_G p e below Φ T26 (mkF m 180 #[.val (.int p0), .val (.long q1), .second, .val (.long q2), .second, .val (.int (0 : Int32)), .val (.int (0 : Int32)), .val (.int (0 : Int32)), .val (.int z8), .val (.ref ob5), .val (.ref ob7), .val (.ref ob9), .val (.ref ob12), .val (.ref ob18), .val (.ref t14), .val .null, .unset] [(.ref ob9)])
                  refine own_go (fun _ => XS.aload X26.here hx rfl (hb hby at_180) rfl rfl) ?_
                  show own_G p e below Φ T26 (mkF m 182 #[.val (.int p0), .val (.long q1), .second, .val (.long q2), .second, .val (.int (0 : Int32)), .val (.int (0 : Int32)), .val (.int (0 : Int32)), .val (.int z8), .val (.ref ob5), .val (.ref ob7), .val (.ref ob9), .val (.ref ob12), .val (.ref ob18), .val (.ref t14), .val .null, .unset] [(.ref t14), (.ref ob9)])
                  refine own_go (fun _ => XS.aload X26.here hx rfl (hb hby at_182) rfl rfl) ?_
                  show own_G p e below Φ T26 (mkF m 184 #[.val (.int p0), .val (.long q1), .second, .val (.long q2), .second, .val (.int (0 : Int32)), .val (.int (0 : Int32)), .val (.int (0 : Int32)), .val (.int z8), .val (.ref ob5), .val (.ref ob7), .val (.ref ob9), .val (.ref ob12), .val (.ref ob18), .val (.ref t14), .val .null, .unset] [.null, (.ref t14), (.ref ob9)])
                  have f27 : Exa Z h18 ob9 "corro/core/Order" := f24.ext E18
                  have f28 : Exa Z T25.heap ob9 "corro/core/Order" := f27.keep Kq25
                  have f29 : Fld Z h12 ob9 "corro/core/Order" "level" "Lcorro/core/Level;" .null := p11_1.ext E12
                  have f30 : Fld Z T17.heap ob9 "corro/core/Order" "level" "Lcorro/core/Level;" .null := f29.keep Kq17 (ninS ne_ob9_ob12 nin0)
                  have f31 : Fld Z h18 ob9 "corro/core/Order" "level" "Lcorro/core/Level;" .null := f30.ext E18
                  have f32 : Fld Z T25.heap ob9 "corro/core/Order" "level" "Lcorro/core/Level;" .null := f31.keep Kq25 (ninS ne_ob9_ob18 nin0)
                  have f33 : Fld Z h12 ob9 "corro/core/Order" "previous" "Lcorro/core/Order;" .null := p11_2.ext E12
                  have f34 : Fld Z T17.heap ob9 "corro/core/Order" "previous" "Lcorro/core/Order;" .null := f33.keep Kq17 (ninS ne_ob9_ob12 nin0)
                  have f35 : Fld Z h18 ob9 "corro/core/Order" "previous" "Lcorro/core/Order;" .null := f34.ext E18
                  have f36 : Fld Z T25.heap ob9 "corro/core/Order" "previous" "Lcorro/core/Order;" .null := f35.keep Kq25 (ninS ne_ob9_ob18 nin0)
                  have f37 : Fld Z h12 ob9 "corro/core/Order" "next" "Lcorro/core/Order;" .null := p11_3.ext E12
                  have f38 : Fld Z T17.heap ob9 "corro/core/Order" "next" "Lcorro/core/Order;" .null := f37.keep Kq17 (ninS ne_ob9_ob12 nin0)
                  have f39 : Fld Z h18 ob9 "corro/core/Order" "next" "Lcorro/core/Order;" .null := f38.ext E18
                  have f40 : Fld Z T25.heap ob9 "corro/core/Order" "next" "Lcorro/core/Order;" .null := f39.keep Kq25 (ninS ne_ob9_ob18 nin0)
                  have f41 : Fld Z h12 ob9 "corro/core/Order" "quantity" "J" (.long q1) := p11_4.ext E12
                  have f42 : Fld Z T17.heap ob9 "corro/core/Order" "quantity" "J" (.long q1) := f41.keep Kq17 (ninS ne_ob9_ob12 nin0)
                  have f43 : Fld Z h18 ob9 "corro/core/Order" "quantity" "J" (.long q1) := f42.ext E18
                  have f44 : Fld Z T25.heap ob9 "corro/core/Order" "quantity" "J" (.long q1) := f43.keep Kq25 (ninS ne_ob9_ob18 nin0)
                  have f45 : Fld Z h12 ob9 "corro/core/Order" "price" "J" (.long q2) := p11_5.ext E12
                  have f46 : Fld Z T17.heap ob9 "corro/core/Order" "price" "J" (.long q2) := f45.keep Kq17 (ninS ne_ob9_ob12 nin0)
                  have f47 : Fld Z h18 ob9 "corro/core/Order" "price" "J" (.long q2) := f46.ext E18
                  have f48 : Fld Z T25.heap ob9 "corro/core/Order" "price" "J" (.long q2) := f47.keep Kq25 (ninS ne_ob9_ob18 nin0)
                  obtain ⟨cq49, kq49, q49a, q49b, q49c⟩ := isOf hZ e26 f28
                  obtain ⟨_, _, ⟨T49, zL49, zk49, zn49⟩, -, X49, ⟨Lc49, hQ49, l49, y49, z49⟩, st49⟩ := X26.virtualBack hx (y := (⟨"corro/core/Order", "join", "(Lcorro/core/Level;Lcorro/core/Order;)V"⟩ : MethodName)) (z := (⟨"corro/core/Order", "join", "(Lcorro/core/Level;Lcorro/core/Order;)V"⟩ : MethodName)) hown (mvT hZ (wd_28 hw)) (mvT hZ (wd_29 hw)) (notFace_of_selects (args := #[]) (mvT hZ (wd_31 hw))) (mvT hZ (wd_31 hw)) (mvT hZ (wd_30 hw)) (by decide) (backOf (W := 0) (rmJN l Z a0 hw [] ob9 t14 .null .null .null q1 q2 T25.heap n0 Zp25 f28 f32 f36 f40 f44 f48 g_ob9) hZ (wd_32 hw) (wd_11 hw) (by decide) (by decide)) q49a q49c (g := (mkF m 184 #[.val (.int p0), .val (.long q1), .second, .val (.long q2), .second, .val (.int (0 : Int32)), .val (.int (0 : Int32)), .val (.int (0 : Int32)), .val (.int z8), .val (.ref ob5), .val (.ref ob7), .val (.ref ob9), .val (.ref ob12), .val (.ref ob18), .val (.ref t14), .val .null, .unset] [.null, (.ref t14), (.ref ob9)])) rfl (by rw [hml]; rfl) (Steps.refl _) (argsL := [(.ref t14), .null]) (rest := []) (lenOf pd_2 rfl) rfl (by show 2 * 0 + _ ≤ _; exact Nat.le_of_eq rfl) (hb hby at_184) (fun _ _ => ⟨rfl, e26, (by decide : 5 + 0 ≤ _), (by decide : 40 + 0 ≤ _)⟩)
                  dsimp only [Pt.U, Pt.locs, Pt.cells, Pt.slots] at X49 l49 y49 z49 st49 hQ49
                  subst l49 y49 z49
                  obtain ⟨rfl, N49q, Kq49, p49_0, p49_1, p49_2, p49_3, p49_4, p49_5⟩ := hQ49
                  have N49 := Fr.app N25 N49q
                  refine own_on st49 ?_
                  have Zp49 : n0 ≤ T49.heap.size := Nat.le_trans Zp25 Kq49.1
                  show own_G p e below Φ T49 (mkF m 187 #[.val (.int p0), .val (.long q1), .second, .val (.long q2), .second, .val (.int (0 : Int32)), .val (.int (0 : Int32)), .val (.int (0 : Int32)), .val (.int z8), .val (.ref ob5), .val (.ref ob7), .val (.ref ob9), .val (.ref ob12), .val (.ref ob18), .val (.ref t14), .val .null, .unset] [])
                  refine own_go (fun _ => XS.aload X49.here hx rfl (hb hby at_187) rfl rfl) ?_
                  show own_G p e below Φ T49 (mkF m 189 #[.val (.int p0), .val (.long q1), .second, .val (.long q2), .second, .val (.int (0 : Int32)), .val (.int (0 : Int32)), .val (.int (0 : Int32)), .val (.int z8), .val (.ref ob5), .val (.ref ob7), .val (.ref ob9), .val (.ref ob12), .val (.ref ob18), .val (.ref t14), .val .null, .unset] [(.ref ob9)])
                  obtain ⟨cq50, kq50, q50a, q50b, q50c⟩ := isOf hZ rfl p49_0
                  obtain ⟨_, _, ⟨T50, zL50, zk50, zn50⟩, -, X50, ⟨Lc50, hQ50, l50, y50, z50⟩, st50⟩ := X49.virtualBack hx (y := (⟨"corro/core/Order", "level", "()Lcorro/core/Level;"⟩ : MethodName)) (z := (⟨"corro/core/Order", "level", "()Lcorro/core/Level;"⟩ : MethodName)) hown (mvT hZ (wd_39 hw)) (mvT hZ (wd_40 hw)) (notFace_of_selects (args := #[]) (mvT hZ (wd_42 hw))) (mvT hZ (wd_42 hw)) (mvT hZ (wd_41 hw)) (by decide) (backOf (W := 0) (rmGlevel l Z a0 hw [] ob9 (.ref t14) T49.heap n0 Zp49 p49_1 rfl) hZ (wd_43 hw) (wd_11 hw) (by decide) (by decide)) q50a q50c (g := (mkF m 189 #[.val (.int p0), .val (.long q1), .second, .val (.long q2), .second, .val (.int (0 : Int32)), .val (.int (0 : Int32)), .val (.int (0 : Int32)), .val (.int z8), .val (.ref ob5), .val (.ref ob7), .val (.ref ob9), .val (.ref ob12), .val (.ref ob18), .val (.ref t14), .val .null, .unset] [(.ref ob9)])) rfl (by rw [hml]; rfl) (Steps.refl _) (argsL := []) (rest := []) (lenOf pd_3 rfl) rfl (by show 2 * 0 + _ ≤ _; exact Nat.le_of_eq rfl) (hb hby at_189) (fun _ _ => ⟨rfl, rfl, (by decide : 5 + 0 ≤ _), (by decide : 40 + 0 ≤ _)⟩)
                  dsimp only [Pt.U, Pt.locs, Pt.cells, Pt.slots] at X50 l50 y50 z50 st50 hQ50
                  subst l50 y50 z50
                  obtain ⟨rfl, N50q, hs50⟩ := hQ50
                  have N50 := Fr.app N49 N50q
                  refine own_on st50 ?_
                  show own_G p e below Φ T50 (mkF m 192 #[.val (.int p0), .val (.long q1), .second, .val (.long q2), .second, .val (.int (0 : Int32)), .val (.int (0 : Int32)), .val (.int (0 : Int32)), .val (.int z8), .val (.ref ob5), .val (.ref ob7), .val (.ref ob9), .val (.ref ob12), .val (.ref ob18), .val (.ref t14), .val .null, .unset] [(.ref t14)])
                  refine own_go (fun _ => XS.aload X50.here hx rfl (hb hby at_192) rfl rfl) ?_
                  show own_G p e below Φ T50 (mkF m 194 #[.val (.int p0), .val (.long q1), .second, .val (.long q2), .second, .val (.int (0 : Int32)), .val (.int (0 : Int32)), .val (.int (0 : Int32)), .val (.int z8), .val (.ref ob5), .val (.ref ob7), .val (.ref ob9), .val (.ref ob12), .val (.ref ob18), .val (.ref t14), .val .null, .unset] [(.ref t14), (.ref t14)])
                  refine own_go (fun _ => Jvm.RoadKit.acmp (g := (mkF m 194 #[.val (.int p0), .val (.long q1), .second, .val (.long q2), .second, .val (.int (0 : Int32)), .val (.int (0 : Int32)), .val (.int (0 : Int32)), .val (.int z8), .val (.ref ob5), .val (.ref ob7), .val (.ref ob9), .val (.ref ob12), .val (.ref ob18), .val (.ref t14), .val .null, .unset] [(.ref t14), (.ref t14)])) X50 hx rfl rfl rfl (pc0 := 194) (pc' := 197) (same := true) rfl (hb hby at_194) rfl (decide_eq_true rfl) (by decide) (by decide)) ?_
                  show own_G p e below Φ T50 (mkF m 197 #[.val (.int p0), .val (.long q1), .second, .val (.long q2), .second, .val (.int (0 : Int32)), .val (.int (0 : Int32)), .val (.int (0 : Int32)), .val (.int z8), .val (.ref ob5), .val (.ref ob7), .val (.ref ob9), .val (.ref ob12), .val (.ref ob18), .val (.ref t14), .val .null, .unset] [])
                  refine own_go (fun _ => XS.aload X50.here hx rfl (hb hby at_197) rfl rfl) ?_
                  show own_G p e below Φ T50 (mkF m 199 #[.val (.int p0), .val (.long q1), .second, .val (.long q2), .second, .val (.int (0 : Int32)), .val (.int (0 : Int32)), .val (.int (0 : Int32)), .val (.int z8), .val (.ref ob5), .val (.ref ob7), .val (.ref ob9), .val (.ref ob12), .val (.ref ob18), .val (.ref t14), .val .null, .unset] [(.ref ob9)])
                  obtain ⟨cq51, kq51, q51a, q51b, q51c⟩ := isOf hZ hs50 p49_0
                  obtain ⟨_, _, ⟨T51, zL51, zk51, zn51⟩, -, X51, ⟨Lc51, hQ51, l51, y51, z51⟩, st51⟩ := X50.virtualBack hx (y := (⟨"corro/core/Order", "previous", "()Lcorro/core/Order;"⟩ : MethodName)) (z := (⟨"corro/core/Order", "previous", "()Lcorro/core/Order;"⟩ : MethodName)) hown (mvT hZ (wd_44 hw)) (mvT hZ (wd_45 hw)) (notFace_of_selects (args := #[]) (mvT hZ (wd_47 hw))) (mvT hZ (wd_47 hw)) (mvT hZ (wd_46 hw)) (by decide) (backOf (W := 0) (rmGprevious l Z a0 hw [] ob9 .null T49.heap n0 Zp49 p49_2 rfl) hZ (wd_48 hw) (wd_11 hw) (by decide) (by decide)) q51a q51c (g := (mkF m 199 #[.val (.int p0), .val (.long q1), .second, .val (.long q2), .second, .val (.int (0 : Int32)), .val (.int (0 : Int32)), .val (.int (0 : Int32)), .val (.int z8), .val (.ref ob5), .val (.ref ob7), .val (.ref ob9), .val (.ref ob12), .val (.ref ob18), .val (.ref t14), .val .null, .unset] [(.ref ob9)])) rfl (by rw [hml]; rfl) (Steps.refl _) (argsL := []) (rest := []) (lenOf pd_4 rfl) rfl (by show 2 * 0 + _ ≤ _; exact Nat.le_of_eq rfl) (hb hby at_199) (fun _ _ => ⟨rfl, hs50, (by decide : 5 + 0 ≤ _), (by decide : 40 + 0 ≤ _)⟩)
                  dsimp only [Pt.U, Pt.locs, Pt.cells, Pt.slots] at X51 l51 y51 z51 st51 hQ51
                  subst l51 y51 z51
                  obtain ⟨rfl, N51q, hs51⟩ := hQ51
                  have N51 := Fr.app N50 N51q
                  refine own_on st51 ?_
                  show own_G p e below Φ T51 (mkF m 202 #[.val (.int p0), .val (.long q1), .second, .val (.long q2), .second, .val (.int (0 : Int32)), .val (.int (0 : Int32)), .val (.int (0 : Int32)), .val (.int z8), .val (.ref ob5), .val (.ref ob7), .val (.ref ob9), .val (.ref ob12), .val (.ref ob18), .val (.ref t14), .val .null, .unset] [.null])
                  refine own_go (fun _ => XS.aload X51.here hx rfl (hb hby at_202) rfl rfl) ?_
                  show own_G p e below Φ T51 (mkF m 204 #[.val (.int p0), .val (.long q1), .second, .val (.long q2), .second, .val (.int (0 : Int32)), .val (.int (0 : Int32)), .val (.int (0 : Int32)), .val (.int z8), .val (.ref ob5), .val (.ref ob7), .val (.ref ob9), .val (.ref ob12), .val (.ref ob18), .val (.ref t14), .val .null, .unset] [.null, .null])
                  refine own_go (fun _ => Jvm.RoadKit.acmp (g := (mkF m 204 #[.val (.int p0), .val (.long q1), .second, .val (.long q2), .second, .val (.int (0 : Int32)), .val (.int (0 : Int32)), .val (.int (0 : Int32)), .val (.int z8), .val (.ref ob5), .val (.ref ob7), .val (.ref ob9), .val (.ref ob12), .val (.ref ob18), .val (.ref t14), .val .null, .unset] [.null, .null])) X51 hx rfl rfl rfl (pc0 := 204) (pc' := 207) (same := true) rfl (hb hby at_204) rfl (decide_eq_true rfl) (by decide) (by decide)) ?_
                  show own_G p e below Φ T51 (mkF m 207 #[.val (.int p0), .val (.long q1), .second, .val (.long q2), .second, .val (.int (0 : Int32)), .val (.int (0 : Int32)), .val (.int (0 : Int32)), .val (.int z8), .val (.ref ob5), .val (.ref ob7), .val (.ref ob9), .val (.ref ob12), .val (.ref ob18), .val (.ref t14), .val .null, .unset] [])
                  refine own_go (fun _ => XS.aload X51.here hx rfl (hb hby at_207) rfl rfl) ?_
                  show own_G p e below Φ T51 (mkF m 209 #[.val (.int p0), .val (.long q1), .second, .val (.long q2), .second, .val (.int (0 : Int32)), .val (.int (0 : Int32)), .val (.int (0 : Int32)), .val (.int z8), .val (.ref ob5), .val (.ref ob7), .val (.ref ob9), .val (.ref ob12), .val (.ref ob18), .val (.ref t14), .val .null, .unset] [(.ref ob9)])
                  obtain ⟨cq52, kq52, q52a, q52b, q52c⟩ := isOf hZ hs51 p49_0
                  obtain ⟨_, _, ⟨T52, zL52, zk52, zn52⟩, -, X52, ⟨Lc52, hQ52, l52, y52, z52⟩, st52⟩ := X51.virtualBack hx (y := (⟨"corro/core/Order", "next", "()Lcorro/core/Order;"⟩ : MethodName)) (z := (⟨"corro/core/Order", "next", "()Lcorro/core/Order;"⟩ : MethodName)) hown (mvT hZ (wd_49 hw)) (mvT hZ (wd_50 hw)) (notFace_of_selects (args := #[]) (mvT hZ (wd_52 hw))) (mvT hZ (wd_52 hw)) (mvT hZ (wd_51 hw)) (by decide) (backOf (W := 0) (rmGnext l Z a0 hw [] ob9 .null T49.heap n0 Zp49 p49_3 rfl) hZ (wd_53 hw) (wd_11 hw) (by decide) (by decide)) q52a q52c (g := (mkF m 209 #[.val (.int p0), .val (.long q1), .second, .val (.long q2), .second, .val (.int (0 : Int32)), .val (.int (0 : Int32)), .val (.int (0 : Int32)), .val (.int z8), .val (.ref ob5), .val (.ref ob7), .val (.ref ob9), .val (.ref ob12), .val (.ref ob18), .val (.ref t14), .val .null, .unset] [(.ref ob9)])) rfl (by rw [hml]; rfl) (Steps.refl _) (argsL := []) (rest := []) (lenOf pd_4 rfl) rfl (by show 2 * 0 + _ ≤ _; exact Nat.le_of_eq rfl) (hb hby at_209) (fun _ _ => ⟨rfl, hs51, (by decide : 5 + 0 ≤ _), (by decide : 40 + 0 ≤ _)⟩)
                  dsimp only [Pt.U, Pt.locs, Pt.cells, Pt.slots] at X52 l52 y52 z52 st52 hQ52
                  subst l52 y52 z52
                  obtain ⟨rfl, N52q, hs52⟩ := hQ52
                  have N52 := Fr.app N51 N52q
                  refine own_on st52 ?_
                  show own_G p e below Φ T52 (mkF m 212 #[.val (.int p0), .val (.long q1), .second, .val (.long q2), .second, .val (.int (0 : Int32)), .val (.int (0 : Int32)), .val (.int (0 : Int32)), .val (.int z8), .val (.ref ob5), .val (.ref ob7), .val (.ref ob9), .val (.ref ob12), .val (.ref ob18), .val (.ref t14), .val .null, .unset] [.null])
                  refine own_go (fun _ => XS.ifnonnullNo X52.here hx rfl (hb hby at_212) rfl) ?_
                  show own_G p e below Φ T52 (mkF m 215 #[.val (.int p0), .val (.long q1), .second, .val (.long q2), .second, .val (.int (0 : Int32)), .val (.int (0 : Int32)), .val (.int (0 : Int32)), .val (.int z8), .val (.ref ob5), .val (.ref ob7), .val (.ref ob9), .val (.ref ob12), .val (.ref ob18), .val (.ref t14), .val .null, .unset] [])
                  refine own_go (fun _ => XS.iconst X52.here hx rfl (hb hby at_215)) ?_
                  show own_G p e below Φ T52 (mkF m 216 #[.val (.int p0), .val (.long q1), .second, .val (.long q2), .second, .val (.int (0 : Int32)), .val (.int (0 : Int32)), .val (.int (0 : Int32)), .val (.int z8), .val (.ref ob5), .val (.ref ob7), .val (.ref ob9), .val (.ref ob12), .val (.ref ob18), .val (.ref t14), .val .null, .unset] [(.int (1 : Int32))])
                  refine own_go (fun _ => XS.goto X52.here hx rfl (pc0 := 216) (pc' := 220) rfl (hb hby at_216) (by decide) (by decide)) ?_
                  show own_G p e below Φ T52 (mkF m 220 #[.val (.int p0), .val (.long q1), .second, .val (.long q2), .second, .val (.int (0 : Int32)), .val (.int (0 : Int32)), .val (.int (0 : Int32)), .val (.int z8), .val (.ref ob5), .val (.ref ob7), .val (.ref ob9), .val (.ref ob12), .val (.ref ob18), .val (.ref t14), .val .null, .unset] [(.int (1 : Int32))])
                  refine own_go (fun _ => XS.istore X52.here hx rfl (hb hby at_220) rfl (l' := #[.val (.int p0), .val (.long q1), .second, .val (.long q2), .second, .val (.int (0 : Int32)), .val (.int (0 : Int32)), .val (.int (0 : Int32)), .val (.int z8), .val (.ref ob5), .val (.ref ob7), .val (.ref ob9), .val (.ref ob12), .val (.ref ob18), .val (.ref t14), .val .null, .val (.int (1 : Int32))]) rfl) ?_
                  show own_G p e below Φ T52 (mkF m 222 #[.val (.int p0), .val (.long q1), .second, .val (.long q2), .second, .val (.int (0 : Int32)), .val (.int (0 : Int32)), .val (.int (0 : Int32)), .val (.int z8), .val (.ref ob5), .val (.ref ob7), .val (.ref ob9), .val (.ref ob12), .val (.ref ob18), .val (.ref t14), .val .null, .val (.int (1 : Int32))] [])
                  refine own_go (fun _ => XS.iload X52.here hx rfl (hb hby at_222) rfl) ?_
                  show own_G p e below Φ T52 (mkF m 224 #[.val (.int p0), .val (.long q1), .second, .val (.long q2), .second, .val (.int (0 : Int32)), .val (.int (0 : Int32)), .val (.int (0 : Int32)), .val (.int z8), .val (.ref ob5), .val (.ref ob7), .val (.ref ob9), .val (.ref ob12), .val (.ref ob18), .val (.ref t14), .val .null, .val (.int (1 : Int32))] [(.int (1 : Int32))])
                  refine own_go (fun _ => XS.ifNo X52.here hx rfl (hb hby at_224) rfl (Jvm.Free.XT.i0_eq_f (by decide : ¬ ((1 : Int32) = (0 : Int32))))) ?_
                  show own_G p e below Φ T52 (mkF m 227 #[.val (.int p0), .val (.long q1), .second, .val (.long q2), .second, .val (.int (0 : Int32)), .val (.int (0 : Int32)), .val (.int (0 : Int32)), .val (.int z8), .val (.ref ob5), .val (.ref ob7), .val (.ref ob9), .val (.ref ob12), .val (.ref ob18), .val (.ref t14), .val .null, .val (.int (1 : Int32))] [])
                  refine own_go (fun _ => XS.aload X52.here hx rfl (hb hby at_227) rfl rfl) ?_
                  show own_G p e below Φ T52 (mkF m 229 #[.val (.int p0), .val (.long q1), .second, .val (.long q2), .second, .val (.int (0 : Int32)), .val (.int (0 : Int32)), .val (.int (0 : Int32)), .val (.int z8), .val (.ref ob5), .val (.ref ob7), .val (.ref ob9), .val (.ref ob12), .val (.ref ob18), .val (.ref t14), .val .null, .val (.int (1 : Int32))] [(.ref ob12)])
                  have f53 : Fld Z h18 ob12 "corro/core/Order" "next" "Lcorro/core/Order;" .null := p17_3.ext E18
                  have f54 : Fld Z T25.heap ob12 "corro/core/Order" "next" "Lcorro/core/Order;" .null := f53.keep Kq25 (ninS ne_ob12_ob18 nin0)
                  have f55 : Fld Z T49.heap ob12 "corro/core/Order" "next" "Lcorro/core/Order;" .null := f54.keep Kq49 (ninS (Ne.symm ne_ob9_ob12) nin0)
                  have f57 : Exa Z h18 ob12 "corro/core/Order" := p17_0.ext E18
                  have f58 : Exa Z T25.heap ob12 "corro/core/Order" := f57.keep Kq25
                  have f59 : Exa Z T49.heap ob12 "corro/core/Order" := f58.keep Kq49
                  obtain ⟨cq56, kq56, q56a, q56b, q56c⟩ := isOf hZ hs52 f59
                  obtain ⟨_, _, ⟨T56, zL56, zk56, zn56⟩, -, X56, ⟨Lc56, hQ56, l56, y56, z56⟩, st56⟩ := X52.virtualBack hx (y := (⟨"corro/core/Order", "next", "()Lcorro/core/Order;"⟩ : MethodName)) (z := (⟨"corro/core/Order", "next", "()Lcorro/core/Order;"⟩ : MethodName)) hown (mvT hZ (wd_49 hw)) (mvT hZ (wd_50 hw)) (notFace_of_selects (args := #[]) (mvT hZ (wd_52 hw))) (mvT hZ (wd_52 hw)) (mvT hZ (wd_51 hw)) (by decide) (backOf (W := 0) (rmGnext l Z a0 hw [] ob12 .null T49.heap n0 Zp49 f55 rfl) hZ (wd_53 hw) (wd_11 hw) (by decide) (by decide)) q56a q56c (g := (mkF m 229 #[.val (.int p0), .val (.long q1), .second, .val (.long q2), .second, .val (.int (0 : Int32)), .val (.int (0 : Int32)), .val (.int (0 : Int32)), .val (.int z8), .val (.ref ob5), .val (.ref ob7), .val (.ref ob9), .val (.ref ob12), .val (.ref ob18), .val (.ref t14), .val .null, .val (.int (1 : Int32))] [(.ref ob12)])) rfl (by rw [hml]; rfl) (Steps.refl _) (argsL := []) (rest := []) (lenOf pd_4 rfl) rfl (by show 2 * 0 + _ ≤ _; exact Nat.le_of_eq rfl) (hb hby at_229) (fun _ _ => ⟨rfl, hs52, (by decide : 5 + 0 ≤ _), (by decide : 40 + 0 ≤ _)⟩)
                  dsimp only [Pt.U, Pt.locs, Pt.cells, Pt.slots] at X56 l56 y56 z56 st56 hQ56
                  subst l56 y56 z56
                  obtain ⟨rfl, N56q, hs56⟩ := hQ56
                  have N56 := Fr.app N52 N56q
                  refine own_on st56 ?_
                  show own_G p e below Φ T56 (mkF m 232 #[.val (.int p0), .val (.long q1), .second, .val (.long q2), .second, .val (.int (0 : Int32)), .val (.int (0 : Int32)), .val (.int (0 : Int32)), .val (.int z8), .val (.ref ob5), .val (.ref ob7), .val (.ref ob9), .val (.ref ob12), .val (.ref ob18), .val (.ref t14), .val .null, .val (.int (1 : Int32))] [.null])
                  refine own_go (fun _ => XS.iload X56.here hx rfl (hb hby at_232) rfl) ?_
                  show own_G p e below Φ T56 (mkF m 234 #[.val (.int p0), .val (.long q1), .second, .val (.long q2), .second, .val (.int (0 : Int32)), .val (.int (0 : Int32)), .val (.int (0 : Int32)), .val (.int z8), .val (.ref ob5), .val (.ref ob7), .val (.ref ob9), .val (.ref ob12), .val (.ref ob18), .val (.ref t14), .val .null, .val (.int (1 : Int32))] [(.int (0 : Int32)), .null])
                  refine own_go (fun _ => XS.ifYes X56.here hx rfl (pc0 := 234) (pc' := 242) rfl (hb hby at_234) rfl (Jvm.Free.XT.i0_eq_t (by decide : ((0 : Int32) = (0 : Int32)))) (by decide) (by decide)) ?_
                  show own_G p e below Φ T56 (mkF m 242 #[.val (.int p0), .val (.long q1), .second, .val (.long q2), .second, .val (.int (0 : Int32)), .val (.int (0 : Int32)), .val (.int (0 : Int32)), .val (.int z8), .val (.ref ob5), .val (.ref ob7), .val (.ref ob9), .val (.ref ob12), .val (.ref ob18), .val (.ref t14), .val .null, .val (.int (1 : Int32))] [.null])
                  refine own_go (fun _ => XS.aconstNull X56.here hx rfl (hb hby at_242)) ?_
                  show own_G p e below Φ T56 (mkF m 243 #[.val (.int p0), .val (.long q1), .second, .val (.long q2), .second, .val (.int (0 : Int32)), .val (.int (0 : Int32)), .val (.int (0 : Int32)), .val (.int z8), .val (.ref ob5), .val (.ref ob7), .val (.ref ob9), .val (.ref ob12), .val (.ref ob18), .val (.ref t14), .val .null, .val (.int (1 : Int32))] [.null, .null])
                  refine own_go (fun _ => Jvm.RoadKit.acmp (g := (mkF m 243 #[.val (.int p0), .val (.long q1), .second, .val (.long q2), .second, .val (.int (0 : Int32)), .val (.int (0 : Int32)), .val (.int (0 : Int32)), .val (.int z8), .val (.ref ob5), .val (.ref ob7), .val (.ref ob9), .val (.ref ob12), .val (.ref ob18), .val (.ref t14), .val .null, .val (.int (1 : Int32))] [.null, .null])) X56 hx rfl rfl rfl (pc0 := 243) (pc' := 246) (same := true) rfl (hb hby at_243) rfl (decide_eq_true rfl) (by decide) (by decide)) ?_
                  show own_G p e below Φ T56 (mkF m 246 #[.val (.int p0), .val (.long q1), .second, .val (.long q2), .second, .val (.int (0 : Int32)), .val (.int (0 : Int32)), .val (.int (0 : Int32)), .val (.int z8), .val (.ref ob5), .val (.ref ob7), .val (.ref ob9), .val (.ref ob12), .val (.ref ob18), .val (.ref t14), .val .null, .val (.int (1 : Int32))] [])
                  refine own_go (fun _ => XS.iconst X56.here hx rfl (hb hby at_246)) ?_
                  show own_G p e below Φ T56 (mkF m 247 #[.val (.int p0), .val (.long q1), .second, .val (.long q2), .second, .val (.int (0 : Int32)), .val (.int (0 : Int32)), .val (.int (0 : Int32)), .val (.int z8), .val (.ref ob5), .val (.ref ob7), .val (.ref ob9), .val (.ref ob12), .val (.ref ob18), .val (.ref t14), .val .null, .val (.int (1 : Int32))] [(.int (1 : Int32))])
                  refine own_go (fun _ => XS.goto X56.here hx rfl (pc0 := 247) (pc' := 251) rfl (hb hby at_247) (by decide) (by decide)) ?_
                  show own_G p e below Φ T56 (mkF m 251 #[.val (.int p0), .val (.long q1), .second, .val (.long q2), .second, .val (.int (0 : Int32)), .val (.int (0 : Int32)), .val (.int (0 : Int32)), .val (.int z8), .val (.ref ob5), .val (.ref ob7), .val (.ref ob9), .val (.ref ob12), .val (.ref ob18), .val (.ref t14), .val .null, .val (.int (1 : Int32))] [(.int (1 : Int32))])
                  refine own_go (fun _ => XS.istore X56.here hx rfl (hb hby at_251) rfl (l' := #[.val (.int p0), .val (.long q1), .second, .val (.long q2), .second, .val (.int (0 : Int32)), .val (.int (0 : Int32)), .val (.int (0 : Int32)), .val (.int z8), .val (.ref ob5), .val (.ref ob7), .val (.ref ob9), .val (.ref ob12), .val (.ref ob18), .val (.ref t14), .val .null, .val (.int (1 : Int32))]) rfl) ?_
                  show own_G p e below Φ T56 (mkF m 253 #[.val (.int p0), .val (.long q1), .second, .val (.long q2), .second, .val (.int (0 : Int32)), .val (.int (0 : Int32)), .val (.int (0 : Int32)), .val (.int z8), .val (.ref ob5), .val (.ref ob7), .val (.ref ob9), .val (.ref ob12), .val (.ref ob18), .val (.ref t14), .val .null, .val (.int (1 : Int32))] [])
                  refine own_go (fun _ => XS.iload X56.here hx rfl (hb hby at_253) rfl) ?_
                  show own_G p e below Φ T56 (mkF m 255 #[.val (.int p0), .val (.long q1), .second, .val (.long q2), .second, .val (.int (0 : Int32)), .val (.int (0 : Int32)), .val (.int (0 : Int32)), .val (.int z8), .val (.ref ob5), .val (.ref ob7), .val (.ref ob9), .val (.ref ob12), .val (.ref ob18), .val (.ref t14), .val .null, .val (.int (1 : Int32))] [(.int (1 : Int32))])
                  refine own_go (fun _ => XS.ifNo X56.here hx rfl (hb hby at_255) rfl (Jvm.Free.XT.i0_eq_f (by decide : ¬ ((1 : Int32) = (0 : Int32))))) ?_
                  show own_G p e below Φ T56 (mkF m 258 #[.val (.int p0), .val (.long q1), .second, .val (.long q2), .second, .val (.int (0 : Int32)), .val (.int (0 : Int32)), .val (.int (0 : Int32)), .val (.int z8), .val (.ref ob5), .val (.ref ob7), .val (.ref ob9), .val (.ref ob12), .val (.ref ob18), .val (.ref t14), .val .null, .val (.int (1 : Int32))] [])
                  refine own_go (fun _ => XS.aload X56.here hx rfl (hb hby at_258) rfl rfl) ?_
                  show own_G p e below Φ T56 (mkF m 260 #[.val (.int p0), .val (.long q1), .second, .val (.long q2), .second, .val (.int (0 : Int32)), .val (.int (0 : Int32)), .val (.int (0 : Int32)), .val (.int z8), .val (.ref ob5), .val (.ref ob7), .val (.ref ob9), .val (.ref ob12), .val (.ref ob18), .val (.ref t14), .val .null, .val (.int (1 : Int32))] [(.ref ob12)])
                  have f60 : Fld Z h18 ob12 "corro/core/Order" "previous" "Lcorro/core/Order;" .null := p17_2.ext E18
                  have f61 : Fld Z T25.heap ob12 "corro/core/Order" "previous" "Lcorro/core/Order;" .null := f60.keep Kq25 (ninS ne_ob12_ob18 nin0)
                  have f62 : Fld Z T49.heap ob12 "corro/core/Order" "previous" "Lcorro/core/Order;" .null := f61.keep Kq49 (ninS (Ne.symm ne_ob9_ob12) nin0)
                  obtain ⟨cq63, kq63, q63a, q63b, q63c⟩ := isOf hZ hs56 f59
                  obtain ⟨_, _, ⟨T63, zL63, zk63, zn63⟩, -, X63, ⟨Lc63, hQ63, l63, y63, z63⟩, st63⟩ := X56.virtualBack hx (y := (⟨"corro/core/Order", "previous", "()Lcorro/core/Order;"⟩ : MethodName)) (z := (⟨"corro/core/Order", "previous", "()Lcorro/core/Order;"⟩ : MethodName)) hown (mvT hZ (wd_44 hw)) (mvT hZ (wd_45 hw)) (notFace_of_selects (args := #[]) (mvT hZ (wd_47 hw))) (mvT hZ (wd_47 hw)) (mvT hZ (wd_46 hw)) (by decide) (backOf (W := 0) (rmGprevious l Z a0 hw [] ob12 .null T49.heap n0 Zp49 f62 rfl) hZ (wd_48 hw) (wd_11 hw) (by decide) (by decide)) q63a q63c (g := (mkF m 260 #[.val (.int p0), .val (.long q1), .second, .val (.long q2), .second, .val (.int (0 : Int32)), .val (.int (0 : Int32)), .val (.int (0 : Int32)), .val (.int z8), .val (.ref ob5), .val (.ref ob7), .val (.ref ob9), .val (.ref ob12), .val (.ref ob18), .val (.ref t14), .val .null, .val (.int (1 : Int32))] [(.ref ob12)])) rfl (by rw [hml]; rfl) (Steps.refl _) (argsL := []) (rest := []) (lenOf pd_4 rfl) rfl (by show 2 * 0 + _ ≤ _; exact Nat.le_of_eq rfl) (hb hby at_260) (fun _ _ => ⟨rfl, hs56, (by decide : 5 + 0 ≤ _), (by decide : 40 + 0 ≤ _)⟩)
                  dsimp only [Pt.U, Pt.locs, Pt.cells, Pt.slots] at X63 l63 y63 z63 st63 hQ63
                  subst l63 y63 z63
                  obtain ⟨rfl, N63q, hs63⟩ := hQ63
                  have N63 := Fr.app N56 N63q
                  refine own_on st63 ?_
                  show own_G p e below Φ T63 (mkF m 263 #[.val (.int p0), .val (.long q1), .second, .val (.long q2), .second, .val (.int (0 : Int32)), .val (.int (0 : Int32)), .val (.int (0 : Int32)), .val (.int z8), .val (.ref ob5), .val (.ref ob7), .val (.ref ob9), .val (.ref ob12), .val (.ref ob18), .val (.ref t14), .val .null, .val (.int (1 : Int32))] [.null])
                  refine own_go (fun _ => XS.ifnonnullNo X63.here hx rfl (hb hby at_263) rfl) ?_
                  show own_G p e below Φ T63 (mkF m 266 #[.val (.int p0), .val (.long q1), .second, .val (.long q2), .second, .val (.int (0 : Int32)), .val (.int (0 : Int32)), .val (.int (0 : Int32)), .val (.int z8), .val (.ref ob5), .val (.ref ob7), .val (.ref ob9), .val (.ref ob12), .val (.ref ob18), .val (.ref t14), .val .null, .val (.int (1 : Int32))] [])
                  refine own_go (fun _ => XS.aload X63.here hx rfl (hb hby at_266) rfl rfl) ?_
                  show own_G p e below Φ T63 (mkF m 268 #[.val (.int p0), .val (.long q1), .second, .val (.long q2), .second, .val (.int (0 : Int32)), .val (.int (0 : Int32)), .val (.int (0 : Int32)), .val (.int z8), .val (.ref ob5), .val (.ref ob7), .val (.ref ob9), .val (.ref ob12), .val (.ref ob18), .val (.ref t14), .val .null, .val (.int (1 : Int32))] [(.ref ob12)])
                  have f64 : Fld Z h18 ob12 "corro/core/Order" "level" "Lcorro/core/Level;" .null := p17_1.ext E18
                  have f65 : Fld Z T25.heap ob12 "corro/core/Order" "level" "Lcorro/core/Level;" .null := f64.keep Kq25 (ninS ne_ob12_ob18 nin0)
                  have f66 : Fld Z T49.heap ob12 "corro/core/Order" "level" "Lcorro/core/Level;" .null := f65.keep Kq49 (ninS (Ne.symm ne_ob9_ob12) nin0)
                  obtain ⟨cq67, kq67, q67a, q67b, q67c⟩ := isOf hZ hs63 f59
                  obtain ⟨_, _, ⟨T67, zL67, zk67, zn67⟩, -, X67, ⟨Lc67, hQ67, l67, y67, z67⟩, st67⟩ := X63.virtualBack hx (y := (⟨"corro/core/Order", "level", "()Lcorro/core/Level;"⟩ : MethodName)) (z := (⟨"corro/core/Order", "level", "()Lcorro/core/Level;"⟩ : MethodName)) hown (mvT hZ (wd_39 hw)) (mvT hZ (wd_40 hw)) (notFace_of_selects (args := #[]) (mvT hZ (wd_42 hw))) (mvT hZ (wd_42 hw)) (mvT hZ (wd_41 hw)) (by decide) (backOf (W := 0) (rmGlevel l Z a0 hw [] ob12 .null T49.heap n0 Zp49 f66 rfl) hZ (wd_43 hw) (wd_11 hw) (by decide) (by decide)) q67a q67c (g := (mkF m 268 #[.val (.int p0), .val (.long q1), .second, .val (.long q2), .second, .val (.int (0 : Int32)), .val (.int (0 : Int32)), .val (.int (0 : Int32)), .val (.int z8), .val (.ref ob5), .val (.ref ob7), .val (.ref ob9), .val (.ref ob12), .val (.ref ob18), .val (.ref t14), .val .null, .val (.int (1 : Int32))] [(.ref ob12)])) rfl (by rw [hml]; rfl) (Steps.refl _) (argsL := []) (rest := []) (lenOf pd_3 rfl) rfl (by show 2 * 0 + _ ≤ _; exact Nat.le_of_eq rfl) (hb hby at_268) (fun _ _ => ⟨rfl, hs63, (by decide : 5 + 0 ≤ _), (by decide : 40 + 0 ≤ _)⟩)
                  dsimp only [Pt.U, Pt.locs, Pt.cells, Pt.slots] at X67 l67 y67 z67 st67 hQ67
                  subst l67 y67 z67
                  obtain ⟨rfl, N67q, hs67⟩ := hQ67
                  have N67 := Fr.app N63 N67q
                  refine own_on st67 ?_
                  show own_G p e below Φ T67 (mkF m 271 #[.val (.int p0), .val (.long q1), .second, .val (.long q2), .second, .val (.int (0 : Int32)), .val (.int (0 : Int32)), .val (.int (0 : Int32)), .val (.int z8), .val (.ref ob5), .val (.ref ob7), .val (.ref ob9), .val (.ref ob12), .val (.ref ob18), .val (.ref t14), .val .null, .val (.int (1 : Int32))] [.null])
                  refine own_go (fun _ => XS.iload X67.here hx rfl (hb hby at_271) rfl) ?_
                  show own_G p e below Φ T67 (mkF m 273 #[.val (.int p0), .val (.long q1), .second, .val (.long q2), .second, .val (.int (0 : Int32)), .val (.int (0 : Int32)), .val (.int (0 : Int32)), .val (.int z8), .val (.ref ob5), .val (.ref ob7), .val (.ref ob9), .val (.ref ob12), .val (.ref ob18), .val (.ref t14), .val .null, .val (.int (1 : Int32))] [(.int (0 : Int32)), .null])
                  refine own_go (fun _ => XS.ifYes X67.here hx rfl (pc0 := 273) (pc' := 281) rfl (hb hby at_273) rfl (Jvm.Free.XT.i0_eq_t (by decide : ((0 : Int32) = (0 : Int32)))) (by decide) (by decide)) ?_
                  show own_G p e below Φ T67 (mkF m 281 #[.val (.int p0), .val (.long q1), .second, .val (.long q2), .second, .val (.int (0 : Int32)), .val (.int (0 : Int32)), .val (.int (0 : Int32)), .val (.int z8), .val (.ref ob5), .val (.ref ob7), .val (.ref ob9), .val (.ref ob12), .val (.ref ob18), .val (.ref t14), .val .null, .val (.int (1 : Int32))] [.null])
                  refine own_go (fun _ => XS.aconstNull X67.here hx rfl (hb hby at_281)) ?_
                  show own_G p e below Φ T67 (mkF m 282 #[.val (.int p0), .val (.long q1), .second, .val (.long q2), .second, .val (.int (0 : Int32)), .val (.int (0 : Int32)), .val (.int (0 : Int32)), .val (.int z8), .val (.ref ob5), .val (.ref ob7), .val (.ref ob9), .val (.ref ob12), .val (.ref ob18), .val (.ref t14), .val .null, .val (.int (1 : Int32))] [.null, .null])
                  refine own_go (fun _ => Jvm.RoadKit.acmp (g := (mkF m 282 #[.val (.int p0), .val (.long q1), .second, .val (.long q2), .second, .val (.int (0 : Int32)), .val (.int (0 : Int32)), .val (.int (0 : Int32)), .val (.int z8), .val (.ref ob5), .val (.ref ob7), .val (.ref ob9), .val (.ref ob12), .val (.ref ob18), .val (.ref t14), .val .null, .val (.int (1 : Int32))] [.null, .null])) X67 hx rfl rfl rfl (pc0 := 282) (pc' := 285) (same := true) rfl (hb hby at_282) rfl (decide_eq_true rfl) (by decide) (by decide)) ?_
                  show own_G p e below Φ T67 (mkF m 285 #[.val (.int p0), .val (.long q1), .second, .val (.long q2), .second, .val (.int (0 : Int32)), .val (.int (0 : Int32)), .val (.int (0 : Int32)), .val (.int z8), .val (.ref ob5), .val (.ref ob7), .val (.ref ob9), .val (.ref ob12), .val (.ref ob18), .val (.ref t14), .val .null, .val (.int (1 : Int32))] [])
                  refine own_go (fun _ => XS.iconst X67.here hx rfl (hb hby at_285)) ?_
                  show own_G p e below Φ T67 (mkF m 286 #[.val (.int p0), .val (.long q1), .second, .val (.long q2), .second, .val (.int (0 : Int32)), .val (.int (0 : Int32)), .val (.int (0 : Int32)), .val (.int z8), .val (.ref ob5), .val (.ref ob7), .val (.ref ob9), .val (.ref ob12), .val (.ref ob18), .val (.ref t14), .val .null, .val (.int (1 : Int32))] [(.int (1 : Int32))])
                  refine own_go (fun _ => XS.goto X67.here hx rfl (pc0 := 286) (pc' := 290) rfl (hb hby at_286) (by decide) (by decide)) ?_
                  show own_G p e below Φ T67 (mkF m 290 #[.val (.int p0), .val (.long q1), .second, .val (.long q2), .second, .val (.int (0 : Int32)), .val (.int (0 : Int32)), .val (.int (0 : Int32)), .val (.int z8), .val (.ref ob5), .val (.ref ob7), .val (.ref ob9), .val (.ref ob12), .val (.ref ob18), .val (.ref t14), .val .null, .val (.int (1 : Int32))] [(.int (1 : Int32))])
                  refine own_go (fun _ => XS.istore X67.here hx rfl (hb hby at_290) rfl (l' := #[.val (.int p0), .val (.long q1), .second, .val (.long q2), .second, .val (.int (0 : Int32)), .val (.int (0 : Int32)), .val (.int (0 : Int32)), .val (.int z8), .val (.ref ob5), .val (.ref ob7), .val (.ref ob9), .val (.ref ob12), .val (.ref ob18), .val (.ref t14), .val .null, .val (.int (1 : Int32))]) rfl) ?_
                  show own_G p e below Φ T67 (mkF m 292 #[.val (.int p0), .val (.long q1), .second, .val (.long q2), .second, .val (.int (0 : Int32)), .val (.int (0 : Int32)), .val (.int (0 : Int32)), .val (.int z8), .val (.ref ob5), .val (.ref ob7), .val (.ref ob9), .val (.ref ob12), .val (.ref ob18), .val (.ref t14), .val .null, .val (.int (1 : Int32))] [])
                  refine own_go (fun _ => XS.iload X67.here hx rfl (hb hby at_292) rfl) ?_
                  show own_G p e below Φ T67 (mkF m 294 #[.val (.int p0), .val (.long q1), .second, .val (.long q2), .second, .val (.int (0 : Int32)), .val (.int (0 : Int32)), .val (.int (0 : Int32)), .val (.int z8), .val (.ref ob5), .val (.ref ob7), .val (.ref ob9), .val (.ref ob12), .val (.ref ob18), .val (.ref t14), .val .null, .val (.int (1 : Int32))] [(.int (1 : Int32))])
                  refine own_go (fun _ => XS.ifNo X67.here hx rfl (hb hby at_294) rfl (Jvm.Free.XT.i0_eq_f (by decide : ¬ ((1 : Int32) = (0 : Int32))))) ?_
                  show own_G p e below Φ T67 (mkF m 297 #[.val (.int p0), .val (.long q1), .second, .val (.long q2), .second, .val (.int (0 : Int32)), .val (.int (0 : Int32)), .val (.int (0 : Int32)), .val (.int z8), .val (.ref ob5), .val (.ref ob7), .val (.ref ob9), .val (.ref ob12), .val (.ref ob18), .val (.ref t14), .val .null, .val (.int (1 : Int32))] [])
                  refine own_go (fun _ => XS.aload X67.here hx rfl (hb hby at_297) rfl rfl) ?_
                  show own_G p e below Φ T67 (mkF m 299 #[.val (.int p0), .val (.long q1), .second, .val (.long q2), .second, .val (.int (0 : Int32)), .val (.int (0 : Int32)), .val (.int (0 : Int32)), .val (.int z8), .val (.ref ob5), .val (.ref ob7), .val (.ref ob9), .val (.ref ob12), .val (.ref ob18), .val (.ref t14), .val .null, .val (.int (1 : Int32))] [(.ref ob18)])
                  have f68 : Fld Z T49.heap ob18 "corro/core/Order" "previous" "Lcorro/core/Order;" .null := p25_2.keep Kq49 (ninS (Ne.symm ne_ob9_ob18) nin0)
                  have f70 : Exa Z T49.heap ob18 "corro/core/Order" := p25_0.keep Kq49
                  obtain ⟨cq69, kq69, q69a, q69b, q69c⟩ := isOf hZ hs67 f70
                  obtain ⟨_, _, ⟨T69, zL69, zk69, zn69⟩, -, X69, ⟨Lc69, hQ69, l69, y69, z69⟩, st69⟩ := X67.virtualBack hx (y := (⟨"corro/core/Order", "previous", "()Lcorro/core/Order;"⟩ : MethodName)) (z := (⟨"corro/core/Order", "previous", "()Lcorro/core/Order;"⟩ : MethodName)) hown (mvT hZ (wd_44 hw)) (mvT hZ (wd_45 hw)) (notFace_of_selects (args := #[]) (mvT hZ (wd_47 hw))) (mvT hZ (wd_47 hw)) (mvT hZ (wd_46 hw)) (by decide) (backOf (W := 0) (rmGprevious l Z a0 hw [] ob18 .null T49.heap n0 Zp49 f68 rfl) hZ (wd_48 hw) (wd_11 hw) (by decide) (by decide)) q69a q69c (g := (mkF m 299 #[.val (.int p0), .val (.long q1), .second, .val (.long q2), .second, .val (.int (0 : Int32)), .val (.int (0 : Int32)), .val (.int (0 : Int32)), .val (.int z8), .val (.ref ob5), .val (.ref ob7), .val (.ref ob9), .val (.ref ob12), .val (.ref ob18), .val (.ref t14), .val .null, .val (.int (1 : Int32))] [(.ref ob18)])) rfl (by rw [hml]; rfl) (Steps.refl _) (argsL := []) (rest := []) (lenOf pd_4 rfl) rfl (by show 2 * 0 + _ ≤ _; exact Nat.le_of_eq rfl) (hb hby at_299) (fun _ _ => ⟨rfl, hs67, (by decide : 5 + 0 ≤ _), (by decide : 40 + 0 ≤ _)⟩)
                  dsimp only [Pt.U, Pt.locs, Pt.cells, Pt.slots] at X69 l69 y69 z69 st69 hQ69
                  subst l69 y69 z69
                  obtain ⟨rfl, N69q, hs69⟩ := hQ69
                  have N69 := Fr.app N67 N69q
                  refine own_on st69 ?_
                  show own_G p e below Φ T69 (mkF m 302 #[.val (.int p0), .val (.long q1), .second, .val (.long q2), .second, .val (.int (0 : Int32)), .val (.int (0 : Int32)), .val (.int (0 : Int32)), .val (.int z8), .val (.ref ob5), .val (.ref ob7), .val (.ref ob9), .val (.ref ob12), .val (.ref ob18), .val (.ref t14), .val .null, .val (.int (1 : Int32))] [.null])
                  refine own_go (fun _ => XS.iload X69.here hx rfl (hb hby at_302) rfl) ?_
                  show own_G p e below Φ T69 (mkF m 304 #[.val (.int p0), .val (.long q1), .second, .val (.long q2), .second, .val (.int (0 : Int32)), .val (.int (0 : Int32)), .val (.int (0 : Int32)), .val (.int z8), .val (.ref ob5), .val (.ref ob7), .val (.ref ob9), .val (.ref ob12), .val (.ref ob18), .val (.ref t14), .val .null, .val (.int (1 : Int32))] [(.int (0 : Int32)), .null])
                  refine own_go (fun _ => XS.ifYes X69.here hx rfl (pc0 := 304) (pc' := 312) rfl (hb hby at_304) rfl (Jvm.Free.XT.i0_eq_t (by decide : ((0 : Int32) = (0 : Int32)))) (by decide) (by decide)) ?_
                  show own_G p e below Φ T69 (mkF m 312 #[.val (.int p0), .val (.long q1), .second, .val (.long q2), .second, .val (.int (0 : Int32)), .val (.int (0 : Int32)), .val (.int (0 : Int32)), .val (.int z8), .val (.ref ob5), .val (.ref ob7), .val (.ref ob9), .val (.ref ob12), .val (.ref ob18), .val (.ref t14), .val .null, .val (.int (1 : Int32))] [.null])
                  refine own_go (fun _ => XS.aconstNull X69.here hx rfl (hb hby at_312)) ?_
                  show own_G p e below Φ T69 (mkF m 313 #[.val (.int p0), .val (.long q1), .second, .val (.long q2), .second, .val (.int (0 : Int32)), .val (.int (0 : Int32)), .val (.int (0 : Int32)), .val (.int z8), .val (.ref ob5), .val (.ref ob7), .val (.ref ob9), .val (.ref ob12), .val (.ref ob18), .val (.ref t14), .val .null, .val (.int (1 : Int32))] [.null, .null])
                  refine own_go (fun _ => Jvm.RoadKit.acmp (g := (mkF m 313 #[.val (.int p0), .val (.long q1), .second, .val (.long q2), .second, .val (.int (0 : Int32)), .val (.int (0 : Int32)), .val (.int (0 : Int32)), .val (.int z8), .val (.ref ob5), .val (.ref ob7), .val (.ref ob9), .val (.ref ob12), .val (.ref ob18), .val (.ref t14), .val .null, .val (.int (1 : Int32))] [.null, .null])) X69 hx rfl rfl rfl (pc0 := 313) (pc' := 316) (same := true) rfl (hb hby at_313) rfl (decide_eq_true rfl) (by decide) (by decide)) ?_
                  show own_G p e below Φ T69 (mkF m 316 #[.val (.int p0), .val (.long q1), .second, .val (.long q2), .second, .val (.int (0 : Int32)), .val (.int (0 : Int32)), .val (.int (0 : Int32)), .val (.int z8), .val (.ref ob5), .val (.ref ob7), .val (.ref ob9), .val (.ref ob12), .val (.ref ob18), .val (.ref t14), .val .null, .val (.int (1 : Int32))] [])
                  refine own_go (fun _ => XS.aload X69.here hx rfl (hb hby at_316) rfl rfl) ?_
                  show own_G p e below Φ T69 (mkF m 318 #[.val (.int p0), .val (.long q1), .second, .val (.long q2), .second, .val (.int (0 : Int32)), .val (.int (0 : Int32)), .val (.int (0 : Int32)), .val (.int z8), .val (.ref ob5), .val (.ref ob7), .val (.ref ob9), .val (.ref ob12), .val (.ref ob18), .val (.ref t14), .val .null, .val (.int (1 : Int32))] [(.ref ob18)])
                  have f71 : Fld Z T49.heap ob18 "corro/core/Order" "next" "Lcorro/core/Order;" .null := p25_3.keep Kq49 (ninS (Ne.symm ne_ob9_ob18) nin0)
                  obtain ⟨cq72, kq72, q72a, q72b, q72c⟩ := isOf hZ hs69 f70
                  obtain ⟨_, _, ⟨T72, zL72, zk72, zn72⟩, -, X72, ⟨Lc72, hQ72, l72, y72, z72⟩, st72⟩ := X69.virtualBack hx (y := (⟨"corro/core/Order", "next", "()Lcorro/core/Order;"⟩ : MethodName)) (z := (⟨"corro/core/Order", "next", "()Lcorro/core/Order;"⟩ : MethodName)) hown (mvT hZ (wd_49 hw)) (mvT hZ (wd_50 hw)) (notFace_of_selects (args := #[]) (mvT hZ (wd_52 hw))) (mvT hZ (wd_52 hw)) (mvT hZ (wd_51 hw)) (by decide) (backOf (W := 0) (rmGnext l Z a0 hw [] ob18 .null T49.heap n0 Zp49 f71 rfl) hZ (wd_53 hw) (wd_11 hw) (by decide) (by decide)) q72a q72c (g := (mkF m 318 #[.val (.int p0), .val (.long q1), .second, .val (.long q2), .second, .val (.int (0 : Int32)), .val (.int (0 : Int32)), .val (.int (0 : Int32)), .val (.int z8), .val (.ref ob5), .val (.ref ob7), .val (.ref ob9), .val (.ref ob12), .val (.ref ob18), .val (.ref t14), .val .null, .val (.int (1 : Int32))] [(.ref ob18)])) rfl (by rw [hml]; rfl) (Steps.refl _) (argsL := []) (rest := []) (lenOf pd_4 rfl) rfl (by show 2 * 0 + _ ≤ _; exact Nat.le_of_eq rfl) (hb hby at_318) (fun _ _ => ⟨rfl, hs69, (by decide : 5 + 0 ≤ _), (by decide : 40 + 0 ≤ _)⟩)
                  dsimp only [Pt.U, Pt.locs, Pt.cells, Pt.slots] at X72 l72 y72 z72 st72 hQ72
                  subst l72 y72 z72
                  obtain ⟨rfl, N72q, hs72⟩ := hQ72
                  have N72 := Fr.app N69 N72q
                  refine own_on st72 ?_
                  show own_G p e below Φ T72 (mkF m 321 #[.val (.int p0), .val (.long q1), .second, .val (.long q2), .second, .val (.int (0 : Int32)), .val (.int (0 : Int32)), .val (.int (0 : Int32)), .val (.int z8), .val (.ref ob5), .val (.ref ob7), .val (.ref ob9), .val (.ref ob12), .val (.ref ob18), .val (.ref t14), .val .null, .val (.int (1 : Int32))] [.null])
                  refine own_go (fun _ => XS.ifnonnullNo X72.here hx rfl (hb hby at_321) rfl) ?_
                  show own_G p e below Φ T72 (mkF m 324 #[.val (.int p0), .val (.long q1), .second, .val (.long q2), .second, .val (.int (0 : Int32)), .val (.int (0 : Int32)), .val (.int (0 : Int32)), .val (.int z8), .val (.ref ob5), .val (.ref ob7), .val (.ref ob9), .val (.ref ob12), .val (.ref ob18), .val (.ref t14), .val .null, .val (.int (1 : Int32))] [])
                  refine own_go (fun _ => XS.iconst X72.here hx rfl (hb hby at_324)) ?_
                  show own_G p e below Φ T72 (mkF m 325 #[.val (.int p0), .val (.long q1), .second, .val (.long q2), .second, .val (.int (0 : Int32)), .val (.int (0 : Int32)), .val (.int (0 : Int32)), .val (.int z8), .val (.ref ob5), .val (.ref ob7), .val (.ref ob9), .val (.ref ob12), .val (.ref ob18), .val (.ref t14), .val .null, .val (.int (1 : Int32))] [(.int (1 : Int32))])
                  refine own_go (fun _ => XS.goto X72.here hx rfl (pc0 := 325) (pc' := 329) rfl (hb hby at_325) (by decide) (by decide)) ?_
                  show own_G p e below Φ T72 (mkF m 329 #[.val (.int p0), .val (.long q1), .second, .val (.long q2), .second, .val (.int (0 : Int32)), .val (.int (0 : Int32)), .val (.int (0 : Int32)), .val (.int z8), .val (.ref ob5), .val (.ref ob7), .val (.ref ob9), .val (.ref ob12), .val (.ref ob18), .val (.ref t14), .val .null, .val (.int (1 : Int32))] [(.int (1 : Int32))])
                  refine own_go (fun _ => XS.istore X72.here hx rfl (hb hby at_329) rfl (l' := #[.val (.int p0), .val (.long q1), .second, .val (.long q2), .second, .val (.int (0 : Int32)), .val (.int (0 : Int32)), .val (.int (0 : Int32)), .val (.int z8), .val (.ref ob5), .val (.ref ob7), .val (.ref ob9), .val (.ref ob12), .val (.ref ob18), .val (.ref t14), .val .null, .val (.int (1 : Int32))]) rfl) ?_
                  show own_G p e below Φ T72 (mkF m 331 #[.val (.int p0), .val (.long q1), .second, .val (.long q2), .second, .val (.int (0 : Int32)), .val (.int (0 : Int32)), .val (.int (0 : Int32)), .val (.int z8), .val (.ref ob5), .val (.ref ob7), .val (.ref ob9), .val (.ref ob12), .val (.ref ob18), .val (.ref t14), .val .null, .val (.int (1 : Int32))] [])
                  refine own_go (fun _ => XS.iload X72.here hx rfl (hb hby at_331) rfl) ?_
                  show own_G p e below Φ T72 (mkF m 333 #[.val (.int p0), .val (.long q1), .second, .val (.long q2), .second, .val (.int (0 : Int32)), .val (.int (0 : Int32)), .val (.int (0 : Int32)), .val (.int z8), .val (.ref ob5), .val (.ref ob7), .val (.ref ob9), .val (.ref ob12), .val (.ref ob18), .val (.ref t14), .val .null, .val (.int (1 : Int32))] [(.int (1 : Int32))])
                  refine own_go (fun _ => XS.ifNo X72.here hx rfl (hb hby at_333) rfl (Jvm.Free.XT.i0_eq_f (by decide : ¬ ((1 : Int32) = (0 : Int32))))) ?_
                  show own_G p e below Φ T72 (mkF m 336 #[.val (.int p0), .val (.long q1), .second, .val (.long q2), .second, .val (.int (0 : Int32)), .val (.int (0 : Int32)), .val (.int (0 : Int32)), .val (.int z8), .val (.ref ob5), .val (.ref ob7), .val (.ref ob9), .val (.ref ob12), .val (.ref ob18), .val (.ref t14), .val .null, .val (.int (1 : Int32))] [])
                  refine own_go (fun _ => XS.aload X72.here hx rfl (hb hby at_336) rfl rfl) ?_
                  show own_G p e below Φ T72 (mkF m 338 #[.val (.int p0), .val (.long q1), .second, .val (.long q2), .second, .val (.int (0 : Int32)), .val (.int (0 : Int32)), .val (.int (0 : Int32)), .val (.int z8), .val (.ref ob5), .val (.ref ob7), .val (.ref ob9), .val (.ref ob12), .val (.ref ob18), .val (.ref t14), .val .null, .val (.int (1 : Int32))] [(.ref ob9)])
                  obtain ⟨cq73, kq73, q73a, q73b, q73c⟩ := isOf hZ hs72 p49_0
                  obtain ⟨_, _, ⟨T73, zL73, zk73, zn73⟩, -, X73, ⟨Lc73, hQ73, l73, y73, z73⟩, st73⟩ := X72.virtualBack hx (y := (⟨"corro/core/Order", "quantity", "()J"⟩ : MethodName)) (z := (⟨"corro/core/Order", "quantity", "()J"⟩ : MethodName)) hown (mvT hZ (wd_54 hw)) (mvT hZ (wd_55 hw)) (notFace_of_selects (args := #[]) (mvT hZ (wd_57 hw))) (mvT hZ (wd_57 hw)) (mvT hZ (wd_56 hw)) (by decide) (backOf (W := 0) (rmGquantity l Z a0 hw [] ob9 q1 T49.heap n0 Zp49 p49_4) hZ (wd_58 hw) (wd_11 hw) (by decide) (by decide)) q73a q73c (g := (mkF m 338 #[.val (.int p0), .val (.long q1), .second, .val (.long q2), .second, .val (.int (0 : Int32)), .val (.int (0 : Int32)), .val (.int (0 : Int32)), .val (.int z8), .val (.ref ob5), .val (.ref ob7), .val (.ref ob9), .val (.ref ob12), .val (.ref ob18), .val (.ref t14), .val .null, .val (.int (1 : Int32))] [(.ref ob9)])) rfl (by rw [hml]; rfl) (Steps.refl _) (argsL := []) (rest := []) (lenOf pd_5 rfl) rfl (by show 2 * 0 + _ ≤ _; exact Nat.le_of_eq rfl) (hb hby at_338) (fun _ _ => ⟨rfl, hs72, (by decide : 5 + 0 ≤ _), (by decide : 40 + 0 ≤ _)⟩)
                  dsimp only [Pt.U, Pt.locs, Pt.cells, Pt.slots] at X73 l73 y73 z73 st73 hQ73
                  subst l73 y73 z73
                  obtain ⟨rfl, N73q, hs73⟩ := hQ73
                  have N73 := Fr.app N72 N73q
                  refine own_on st73 ?_
                  show own_G p e below Φ T73 (mkF m 341 #[.val (.int p0), .val (.long q1), .second, .val (.long q2), .second, .val (.int (0 : Int32)), .val (.int (0 : Int32)), .val (.int (0 : Int32)), .val (.int z8), .val (.ref ob5), .val (.ref ob7), .val (.ref ob9), .val (.ref ob12), .val (.ref ob18), .val (.ref t14), .val .null, .val (.int (1 : Int32))] [(.long q1)])
                  refine own_go (fun _ => XS.lloadN X73.here hx rfl (hb hby at_341) rfl) ?_
                  show own_G p e below Φ T73 (mkF m 342 #[.val (.int p0), .val (.long q1), .second, .val (.long q2), .second, .val (.int (0 : Int32)), .val (.int (0 : Int32)), .val (.int (0 : Int32)), .val (.int z8), .val (.ref ob5), .val (.ref ob7), .val (.ref ob9), .val (.ref ob12), .val (.ref ob18), .val (.ref t14), .val .null, .val (.int (1 : Int32))] [(.long q1), (.long q1)])
                  refine own_go (fun _ => XS.lcmp X73.here hx rfl (hb hby at_342) rfl) ?_
                  show own_G p e below Φ T73 (mkF m 343 #[.val (.int p0), .val (.long q1), .second, .val (.long q2), .second, .val (.int (0 : Int32)), .val (.int (0 : Int32)), .val (.int (0 : Int32)), .val (.int z8), .val (.ref ob5), .val (.ref ob7), .val (.ref ob9), .val (.ref ob12), .val (.ref ob18), .val (.ref t14), .val .null, .val (.int (1 : Int32))] [(.int (lcmpW q1 q1))])
                  refine own_go (fun _ => XS.ifNo X73.here hx rfl (hb hby at_343) rfl (Jvm.Free.XT.ll_ne_f (rfl : q1 = q1))) ?_
                  show own_G p e below Φ T73 (mkF m 346 #[.val (.int p0), .val (.long q1), .second, .val (.long q2), .second, .val (.int (0 : Int32)), .val (.int (0 : Int32)), .val (.int (0 : Int32)), .val (.int z8), .val (.ref ob5), .val (.ref ob7), .val (.ref ob9), .val (.ref ob12), .val (.ref ob18), .val (.ref t14), .val .null, .val (.int (1 : Int32))] [])
                  refine own_go (fun _ => XS.aload X73.here hx rfl (hb hby at_346) rfl rfl) ?_
                  show own_G p e below Φ T73 (mkF m 348 #[.val (.int p0), .val (.long q1), .second, .val (.long q2), .second, .val (.int (0 : Int32)), .val (.int (0 : Int32)), .val (.int (0 : Int32)), .val (.int z8), .val (.ref ob5), .val (.ref ob7), .val (.ref ob9), .val (.ref ob12), .val (.ref ob18), .val (.ref t14), .val .null, .val (.int (1 : Int32))] [(.ref ob9)])
                  obtain ⟨cq74, kq74, q74a, q74b, q74c⟩ := isOf hZ hs73 p49_0
                  obtain ⟨_, _, ⟨T74, zL74, zk74, zn74⟩, -, X74, ⟨Lc74, hQ74, l74, y74, z74⟩, st74⟩ := X73.virtualBack hx (y := (⟨"corro/core/Order", "price", "()J"⟩ : MethodName)) (z := (⟨"corro/core/Order", "price", "()J"⟩ : MethodName)) hown (mvT hZ (wd_59 hw)) (mvT hZ (wd_60 hw)) (notFace_of_selects (args := #[]) (mvT hZ (wd_62 hw))) (mvT hZ (wd_62 hw)) (mvT hZ (wd_61 hw)) (by decide) (backOf (W := 0) (rmGprice l Z a0 hw [] ob9 q2 T49.heap n0 Zp49 p49_5) hZ (wd_63 hw) (wd_11 hw) (by decide) (by decide)) q74a q74c (g := (mkF m 348 #[.val (.int p0), .val (.long q1), .second, .val (.long q2), .second, .val (.int (0 : Int32)), .val (.int (0 : Int32)), .val (.int (0 : Int32)), .val (.int z8), .val (.ref ob5), .val (.ref ob7), .val (.ref ob9), .val (.ref ob12), .val (.ref ob18), .val (.ref t14), .val .null, .val (.int (1 : Int32))] [(.ref ob9)])) rfl (by rw [hml]; rfl) (Steps.refl _) (argsL := []) (rest := []) (lenOf pd_5 rfl) rfl (by show 2 * 0 + _ ≤ _; exact Nat.le_of_eq rfl) (hb hby at_348) (fun _ _ => ⟨rfl, hs73, (by decide : 5 + 0 ≤ _), (by decide : 40 + 0 ≤ _)⟩)
                  dsimp only [Pt.U, Pt.locs, Pt.cells, Pt.slots] at X74 l74 y74 z74 st74 hQ74
                  subst l74 y74 z74
                  obtain ⟨rfl, N74q, hs74⟩ := hQ74
                  have N74 := Fr.app N73 N74q
                  refine own_on st74 ?_
                  show own_G p e below Φ T74 (mkF m 351 #[.val (.int p0), .val (.long q1), .second, .val (.long q2), .second, .val (.int (0 : Int32)), .val (.int (0 : Int32)), .val (.int (0 : Int32)), .val (.int z8), .val (.ref ob5), .val (.ref ob7), .val (.ref ob9), .val (.ref ob12), .val (.ref ob18), .val (.ref t14), .val .null, .val (.int (1 : Int32))] [(.long q2)])
                  refine own_go (fun _ => XS.lloadN X74.here hx rfl (hb hby at_351) rfl) ?_
                  show own_G p e below Φ T74 (mkF m 352 #[.val (.int p0), .val (.long q1), .second, .val (.long q2), .second, .val (.int (0 : Int32)), .val (.int (0 : Int32)), .val (.int (0 : Int32)), .val (.int z8), .val (.ref ob5), .val (.ref ob7), .val (.ref ob9), .val (.ref ob12), .val (.ref ob18), .val (.ref t14), .val .null, .val (.int (1 : Int32))] [(.long q2), (.long q2)])
                  refine own_go (fun _ => XS.lcmp X74.here hx rfl (hb hby at_352) rfl) ?_
                  show own_G p e below Φ T74 (mkF m 353 #[.val (.int p0), .val (.long q1), .second, .val (.long q2), .second, .val (.int (0 : Int32)), .val (.int (0 : Int32)), .val (.int (0 : Int32)), .val (.int z8), .val (.ref ob5), .val (.ref ob7), .val (.ref ob9), .val (.ref ob12), .val (.ref ob18), .val (.ref t14), .val .null, .val (.int (1 : Int32))] [(.int (lcmpW q2 q2))])
                  refine own_go (fun _ => XS.ifNo X74.here hx rfl (hb hby at_353) rfl (Jvm.Free.XT.ll_ne_f (rfl : q2 = q2))) ?_
                  show own_G p e below Φ T74 (mkF m 356 #[.val (.int p0), .val (.long q1), .second, .val (.long q2), .second, .val (.int (0 : Int32)), .val (.int (0 : Int32)), .val (.int (0 : Int32)), .val (.int z8), .val (.ref ob5), .val (.ref ob7), .val (.ref ob9), .val (.ref ob12), .val (.ref ob18), .val (.ref t14), .val .null, .val (.int (1 : Int32))] [])
                  refine own_go (fun _ => XS.iconst X74.here hx rfl (hb hby at_356)) ?_
                  show own_G p e below Φ T74 (mkF m 357 #[.val (.int p0), .val (.long q1), .second, .val (.long q2), .second, .val (.int (0 : Int32)), .val (.int (0 : Int32)), .val (.int (0 : Int32)), .val (.int z8), .val (.ref ob5), .val (.ref ob7), .val (.ref ob9), .val (.ref ob12), .val (.ref ob18), .val (.ref t14), .val .null, .val (.int (1 : Int32))] [(.int (1 : Int32))])
                  refine own_go (fun _ => XS.goto X74.here hx rfl (pc0 := 357) (pc' := 361) rfl (hb hby at_357) (by decide) (by decide)) ?_
                  show own_G p e below Φ T74 (mkF m 361 #[.val (.int p0), .val (.long q1), .second, .val (.long q2), .second, .val (.int (0 : Int32)), .val (.int (0 : Int32)), .val (.int (0 : Int32)), .val (.int z8), .val (.ref ob5), .val (.ref ob7), .val (.ref ob9), .val (.ref ob12), .val (.ref ob18), .val (.ref t14), .val .null, .val (.int (1 : Int32))] [(.int (1 : Int32))])
                  refine own_go (fun _ => XS.istore X74.here hx rfl (hb hby at_361) rfl (l' := #[.val (.int p0), .val (.long q1), .second, .val (.long q2), .second, .val (.int (0 : Int32)), .val (.int (0 : Int32)), .val (.int (0 : Int32)), .val (.int z8), .val (.ref ob5), .val (.ref ob7), .val (.ref ob9), .val (.ref ob12), .val (.ref ob18), .val (.ref t14), .val .null, .val (.int (1 : Int32))]) rfl) ?_
                  show own_G p e below Φ T74 (mkF m 363 #[.val (.int p0), .val (.long q1), .second, .val (.long q2), .second, .val (.int (0 : Int32)), .val (.int (0 : Int32)), .val (.int (0 : Int32)), .val (.int z8), .val (.ref ob5), .val (.ref ob7), .val (.ref ob9), .val (.ref ob12), .val (.ref ob18), .val (.ref t14), .val .null, .val (.int (1 : Int32))] [])
                  refine own_go (fun _ => XS.iload X74.here hx rfl (hb hby at_363) rfl) ?_
                  show own_G p e below Φ T74 (mkF m 365 #[.val (.int p0), .val (.long q1), .second, .val (.long q2), .second, .val (.int (0 : Int32)), .val (.int (0 : Int32)), .val (.int (0 : Int32)), .val (.int z8), .val (.ref ob5), .val (.ref ob7), .val (.ref ob9), .val (.ref ob12), .val (.ref ob18), .val (.ref t14), .val .null, .val (.int (1 : Int32))] [(.int (1 : Int32))])
                  rw [hΦ]
                  refine own_ret X74 (v := some (.int (1 : Int32))) (fun h => by rw [Bd.returns] at h; cases h) (BodyLoose.notSynchronized Bd) (fun fs hr => retN X74 hx (t := .boolean) Bd.returns (by simp) (hb hby at_365) hr) ?_ (by decide) (by decide)
                  rw [hs74]
                  exact ⟨rfl, N74⟩
                · show own_G p e below Φ T26 (mkF m 165 #[.val (.int p0), .val (.long q1), .second, .val (.long q2), .second, .val (.int (1 : Int32)), .val (.int (0 : Int32)), .val (.int (0 : Int32)), .val (.int z8), .val (.ref ob5), .val (.ref ob7), .val (.ref ob9), .val (.ref ob12), .val (.ref ob18), .val (.ref t14), .unset, .unset] [])
                  refine own_go (fun _ => XS.iload X26.here hx rfl (hb hby at_165) rfl) ?_
                  show own_G p e below Φ T26 (mkF m 167 #[.val (.int p0), .val (.long q1), .second, .val (.long q2), .second, .val (.int (1 : Int32)), .val (.int (0 : Int32)), .val (.int (0 : Int32)), .val (.int z8), .val (.ref ob5), .val (.ref ob7), .val (.ref ob9), .val (.ref ob12), .val (.ref ob18), .val (.ref t14), .unset, .unset] [(.int (1 : Int32))])
                  refine own_go (fun _ => XS.ifNo X26.here hx rfl (hb hby at_167) rfl (Jvm.Free.XT.i0_eq_f (by decide : ¬ ((1 : Int32) = (0 : Int32))))) ?_
                  show own_G p e below Φ T26 (mkF m 170 #[.val (.int p0), .val (.long q1), .second, .val (.long q2), .second, .val (.int (1 : Int32)), .val (.int (0 : Int32)), .val (.int (0 : Int32)), .val (.int z8), .val (.ref ob5), .val (.ref ob7), .val (.ref ob9), .val (.ref ob12), .val (.ref ob18), .val (.ref t14), .unset, .unset] [])
                  refine own_go (fun _ => XS.aload X26.here hx rfl (hb hby at_170) rfl rfl) ?_
                  show own_G p e below Φ T26 (mkF m 172 #[.val (.int p0), .val (.long q1), .second, .val (.long q2), .second, .val (.int (1 : Int32)), .val (.int (0 : Int32)), .val (.int (0 : Int32)), .val (.int z8), .val (.ref ob5), .val (.ref ob7), .val (.ref ob9), .val (.ref ob12), .val (.ref ob18), .val (.ref t14), .unset, .unset] [(.ref ob12)])
                  refine own_go (fun _ => XS.goto X26.here hx rfl (pc0 := 172) (pc' := 176) rfl (hb hby at_172) (by decide) (by decide)) ?_
                  show own_G p e below Φ T26 (mkF m 176 #[.val (.int p0), .val (.long q1), .second, .val (.long q2), .second, .val (.int (1 : Int32)), .val (.int (0 : Int32)), .val (.int (0 : Int32)), .val (.int z8), .val (.ref ob5), .val (.ref ob7), .val (.ref ob9), .val (.ref ob12), .val (.ref ob18), .val (.ref t14), .unset, .unset] [(.ref ob12)])
                  refine own_go (fun _ => XS.astore X26.here hx rfl (hb hby at_176) rfl rfl (l' := #[.val (.int p0), .val (.long q1), .second, .val (.long q2), .second, .val (.int (1 : Int32)), .val (.int (0 : Int32)), .val (.int (0 : Int32)), .val (.int z8), .val (.ref ob5), .val (.ref ob7), .val (.ref ob9), .val (.ref ob12), .val (.ref ob18), .val (.ref t14), .val (.ref ob12), .unset]) rfl) ?_
                  show own_G p e below Φ T26 (mkF m 178 #[.val (.int p0), .val (.long q1), .second, .val (.long q2), .second, .val (.int (1 : Int32)), .val (.int (0 : Int32)), .val (.int (0 : Int32)), .val (.int z8), .val (.ref ob5), .val (.ref ob7), .val (.ref ob9), .val (.ref ob12), .val (.ref ob18), .val (.ref t14), .val (.ref ob12), .unset] [])
                  refine own_go (fun _ => XS.aload X26.here hx rfl (hb hby at_178) rfl rfl) ?_
                  show own_G p e below Φ T26 (mkF m 180 #[.val (.int p0), .val (.long q1), .second, .val (.long q2), .second, .val (.int (1 : Int32)), .val (.int (0 : Int32)), .val (.int (0 : Int32)), .val (.int z8), .val (.ref ob5), .val (.ref ob7), .val (.ref ob9), .val (.ref ob12), .val (.ref ob18), .val (.ref t14), .val (.ref ob12), .unset] [(.ref ob9)])
                  refine own_go (fun _ => XS.aload X26.here hx rfl (hb hby at_180) rfl rfl) ?_
                  show own_G p e below Φ T26 (mkF m 182 #[.val (.int p0), .val (.long q1), .second, .val (.long q2), .second, .val (.int (1 : Int32)), .val (.int (0 : Int32)), .val (.int (0 : Int32)), .val (.int z8), .val (.ref ob5), .val (.ref ob7), .val (.ref ob9), .val (.ref ob12), .val (.ref ob18), .val (.ref t14), .val (.ref ob12), .unset] [(.ref t14), (.ref ob9)])
                  refine own_go (fun _ => XS.aload X26.here hx rfl (hb hby at_182) rfl rfl) ?_
                  show own_G p e below Φ T26 (mkF m 184 #[.val (.int p0), .val (.long q1), .second, .val (.long q2), .second, .val (.int (1 : Int32)), .val (.int (0 : Int32)), .val (.int (0 : Int32)), .val (.int z8), .val (.ref ob5), .val (.ref ob7), .val (.ref ob9), .val (.ref ob12), .val (.ref ob18), .val (.ref t14), .val (.ref ob12), .unset] [(.ref ob12), (.ref t14), (.ref ob9)])
                  have f75 : Exa Z h18 ob9 "corro/core/Order" := f24.ext E18
                  have f76 : Exa Z T25.heap ob9 "corro/core/Order" := f75.keep Kq25
                  have f77 : Exa Z h18 ob12 "corro/core/Order" := p17_0.ext E18
                  have f78 : Exa Z T25.heap ob12 "corro/core/Order" := f77.keep Kq25
                  have f79 : Fld Z h12 ob9 "corro/core/Order" "level" "Lcorro/core/Level;" .null := p11_1.ext E12
                  have f80 : Fld Z T17.heap ob9 "corro/core/Order" "level" "Lcorro/core/Level;" .null := f79.keep Kq17 (ninS ne_ob9_ob12 nin0)
                  have f81 : Fld Z h18 ob9 "corro/core/Order" "level" "Lcorro/core/Level;" .null := f80.ext E18
                  have f82 : Fld Z T25.heap ob9 "corro/core/Order" "level" "Lcorro/core/Level;" .null := f81.keep Kq25 (ninS ne_ob9_ob18 nin0)
                  have f83 : Fld Z h12 ob9 "corro/core/Order" "previous" "Lcorro/core/Order;" .null := p11_2.ext E12
                  have f84 : Fld Z T17.heap ob9 "corro/core/Order" "previous" "Lcorro/core/Order;" .null := f83.keep Kq17 (ninS ne_ob9_ob12 nin0)
                  have f85 : Fld Z h18 ob9 "corro/core/Order" "previous" "Lcorro/core/Order;" .null := f84.ext E18
                  have f86 : Fld Z T25.heap ob9 "corro/core/Order" "previous" "Lcorro/core/Order;" .null := f85.keep Kq25 (ninS ne_ob9_ob18 nin0)
                  have f87 : Fld Z h12 ob9 "corro/core/Order" "next" "Lcorro/core/Order;" .null := p11_3.ext E12
                  have f88 : Fld Z T17.heap ob9 "corro/core/Order" "next" "Lcorro/core/Order;" .null := f87.keep Kq17 (ninS ne_ob9_ob12 nin0)
                  have f89 : Fld Z h18 ob9 "corro/core/Order" "next" "Lcorro/core/Order;" .null := f88.ext E18
                  have f90 : Fld Z T25.heap ob9 "corro/core/Order" "next" "Lcorro/core/Order;" .null := f89.keep Kq25 (ninS ne_ob9_ob18 nin0)
                  have f91 : Fld Z h12 ob9 "corro/core/Order" "quantity" "J" (.long q1) := p11_4.ext E12
                  have f92 : Fld Z T17.heap ob9 "corro/core/Order" "quantity" "J" (.long q1) := f91.keep Kq17 (ninS ne_ob9_ob12 nin0)
                  have f93 : Fld Z h18 ob9 "corro/core/Order" "quantity" "J" (.long q1) := f92.ext E18
                  have f94 : Fld Z T25.heap ob9 "corro/core/Order" "quantity" "J" (.long q1) := f93.keep Kq25 (ninS ne_ob9_ob18 nin0)
                  have f95 : Fld Z h12 ob9 "corro/core/Order" "price" "J" (.long q2) := p11_5.ext E12
                  have f96 : Fld Z T17.heap ob9 "corro/core/Order" "price" "J" (.long q2) := f95.keep Kq17 (ninS ne_ob9_ob12 nin0)
                  have f97 : Fld Z h18 ob9 "corro/core/Order" "price" "J" (.long q2) := f96.ext E18
                  have f98 : Fld Z T25.heap ob9 "corro/core/Order" "price" "J" (.long q2) := f97.keep Kq25 (ninS ne_ob9_ob18 nin0)
                  have f99 : Fld Z h18 ob12 "corro/core/Order" "level" "Lcorro/core/Level;" .null := p17_1.ext E18
                  have f100 : Fld Z T25.heap ob12 "corro/core/Order" "level" "Lcorro/core/Level;" .null := f99.keep Kq25 (ninS ne_ob12_ob18 nin0)
                  have f101 : Fld Z h18 ob12 "corro/core/Order" "previous" "Lcorro/core/Order;" .null := p17_2.ext E18
                  have f102 : Fld Z T25.heap ob12 "corro/core/Order" "previous" "Lcorro/core/Order;" .null := f101.keep Kq25 (ninS ne_ob12_ob18 nin0)
                  have f103 : Fld Z h18 ob12 "corro/core/Order" "next" "Lcorro/core/Order;" .null := p17_3.ext E18
                  have f104 : Fld Z T25.heap ob12 "corro/core/Order" "next" "Lcorro/core/Order;" .null := f103.keep Kq25 (ninS ne_ob12_ob18 nin0)
                  have f105 : Fld Z h18 ob12 "corro/core/Order" "quantity" "J" (.long q1) := p17_4.ext E18
                  have f106 : Fld Z T25.heap ob12 "corro/core/Order" "quantity" "J" (.long q1) := f105.keep Kq25 (ninS ne_ob12_ob18 nin0)
                  have f107 : Fld Z h18 ob12 "corro/core/Order" "price" "J" (.long q2) := p17_5.ext E18
                  have f108 : Fld Z T25.heap ob12 "corro/core/Order" "price" "J" (.long q2) := f107.keep Kq25 (ninS ne_ob12_ob18 nin0)
                  obtain ⟨cq109, kq109, q109a, q109b, q109c⟩ := isOf hZ e26 f76
                  obtain ⟨_, _, ⟨T109, zL109, zk109, zn109⟩, -, X109, ⟨Lc109, hQ109, l109, y109, z109⟩, st109⟩ := X26.virtualBack hx (y := (⟨"corro/core/Order", "join", "(Lcorro/core/Level;Lcorro/core/Order;)V"⟩ : MethodName)) (z := (⟨"corro/core/Order", "join", "(Lcorro/core/Level;Lcorro/core/Order;)V"⟩ : MethodName)) hown (mvT hZ (wd_28 hw)) (mvT hZ (wd_29 hw)) (notFace_of_selects (args := #[]) (mvT hZ (wd_31 hw))) (mvT hZ (wd_31 hw)) (mvT hZ (wd_30 hw)) (by decide) (backOf (W := 0) (rmJO l Z a0 hw [] ob9 t14 ob12 .null .null .null .null .null .null q1 q2 q1 q2 T25.heap n0 Zp25 f76 f78 f82 f86 f90 f94 f98 f100 f102 f104 f106 f108 g_ob9 g_ob12 ne_ob9_ob12) hZ (wd_32 hw) (wd_11 hw) (by decide) (by decide)) q109a q109c (g := (mkF m 184 #[.val (.int p0), .val (.long q1), .second, .val (.long q2), .second, .val (.int (1 : Int32)), .val (.int (0 : Int32)), .val (.int (0 : Int32)), .val (.int z8), .val (.ref ob5), .val (.ref ob7), .val (.ref ob9), .val (.ref ob12), .val (.ref ob18), .val (.ref t14), .val (.ref ob12), .unset] [(.ref ob12), (.ref t14), (.ref ob9)])) rfl (by rw [hml]; rfl) (Steps.refl _) (argsL := [(.ref t14), (.ref ob12)]) (rest := []) (lenOf pd_2 rfl) rfl (by show 2 * 0 + _ ≤ _; exact Nat.le_of_eq rfl) (hb hby at_184) (fun _ _ => ⟨rfl, e26, (by decide : 5 + 0 ≤ _), (by decide : 40 + 0 ≤ _)⟩)
                  dsimp only [Pt.U, Pt.locs, Pt.cells, Pt.slots] at X109 l109 y109 z109 st109 hQ109
                  subst l109 y109 z109
                  obtain ⟨rfl, N109q, Kq109, p109_0, p109_1, p109_2, p109_3, p109_4, p109_5, p109_6, p109_7, p109_8, p109_9, p109_10⟩ := hQ109
                  have N109 := Fr.app N25 N109q
                  refine own_on st109 ?_
                  have Zp109 : n0 ≤ T109.heap.size := Nat.le_trans Zp25 Kq109.1
                  show own_G p e below Φ T109 (mkF m 187 #[.val (.int p0), .val (.long q1), .second, .val (.long q2), .second, .val (.int (1 : Int32)), .val (.int (0 : Int32)), .val (.int (0 : Int32)), .val (.int z8), .val (.ref ob5), .val (.ref ob7), .val (.ref ob9), .val (.ref ob12), .val (.ref ob18), .val (.ref t14), .val (.ref ob12), .unset] [])
                  refine own_go (fun _ => XS.aload X109.here hx rfl (hb hby at_187) rfl rfl) ?_
                  show own_G p e below Φ T109 (mkF m 189 #[.val (.int p0), .val (.long q1), .second, .val (.long q2), .second, .val (.int (1 : Int32)), .val (.int (0 : Int32)), .val (.int (0 : Int32)), .val (.int z8), .val (.ref ob5), .val (.ref ob7), .val (.ref ob9), .val (.ref ob12), .val (.ref ob18), .val (.ref t14), .val (.ref ob12), .unset] [(.ref ob9)])
                  obtain ⟨cq110, kq110, q110a, q110b, q110c⟩ := isOf hZ rfl p109_0
                  obtain ⟨_, _, ⟨T110, zL110, zk110, zn110⟩, -, X110, ⟨Lc110, hQ110, l110, y110, z110⟩, st110⟩ := X109.virtualBack hx (y := (⟨"corro/core/Order", "level", "()Lcorro/core/Level;"⟩ : MethodName)) (z := (⟨"corro/core/Order", "level", "()Lcorro/core/Level;"⟩ : MethodName)) hown (mvT hZ (wd_39 hw)) (mvT hZ (wd_40 hw)) (notFace_of_selects (args := #[]) (mvT hZ (wd_42 hw))) (mvT hZ (wd_42 hw)) (mvT hZ (wd_41 hw)) (by decide) (backOf (W := 0) (rmGlevel l Z a0 hw [] ob9 (.ref t14) T109.heap n0 Zp109 p109_1 rfl) hZ (wd_43 hw) (wd_11 hw) (by decide) (by decide)) q110a q110c (g := (mkF m 189 #[.val (.int p0), .val (.long q1), .second, .val (.long q2), .second, .val (.int (1 : Int32)), .val (.int (0 : Int32)), .val (.int (0 : Int32)), .val (.int z8), .val (.ref ob5), .val (.ref ob7), .val (.ref ob9), .val (.ref ob12), .val (.ref ob18), .val (.ref t14), .val (.ref ob12), .unset] [(.ref ob9)])) rfl (by rw [hml]; rfl) (Steps.refl _) (argsL := []) (rest := []) (lenOf pd_3 rfl) rfl (by show 2 * 0 + _ ≤ _; exact Nat.le_of_eq rfl) (hb hby at_189) (fun _ _ => ⟨rfl, rfl, (by decide : 5 + 0 ≤ _), (by decide : 40 + 0 ≤ _)⟩)
                  dsimp only [Pt.U, Pt.locs, Pt.cells, Pt.slots] at X110 l110 y110 z110 st110 hQ110
                  subst l110 y110 z110
                  obtain ⟨rfl, N110q, hs110⟩ := hQ110
                  have N110 := Fr.app N109 N110q
                  refine own_on st110 ?_
                  show own_G p e below Φ T110 (mkF m 192 #[.val (.int p0), .val (.long q1), .second, .val (.long q2), .second, .val (.int (1 : Int32)), .val (.int (0 : Int32)), .val (.int (0 : Int32)), .val (.int z8), .val (.ref ob5), .val (.ref ob7), .val (.ref ob9), .val (.ref ob12), .val (.ref ob18), .val (.ref t14), .val (.ref ob12), .unset] [(.ref t14)])
                  refine own_go (fun _ => XS.aload X110.here hx rfl (hb hby at_192) rfl rfl) ?_
                  show own_G p e below Φ T110 (mkF m 194 #[.val (.int p0), .val (.long q1), .second, .val (.long q2), .second, .val (.int (1 : Int32)), .val (.int (0 : Int32)), .val (.int (0 : Int32)), .val (.int z8), .val (.ref ob5), .val (.ref ob7), .val (.ref ob9), .val (.ref ob12), .val (.ref ob18), .val (.ref t14), .val (.ref ob12), .unset] [(.ref t14), (.ref t14)])
                  refine own_go (fun _ => Jvm.RoadKit.acmp (g := (mkF m 194 #[.val (.int p0), .val (.long q1), .second, .val (.long q2), .second, .val (.int (1 : Int32)), .val (.int (0 : Int32)), .val (.int (0 : Int32)), .val (.int z8), .val (.ref ob5), .val (.ref ob7), .val (.ref ob9), .val (.ref ob12), .val (.ref ob18), .val (.ref t14), .val (.ref ob12), .unset] [(.ref t14), (.ref t14)])) X110 hx rfl rfl rfl (pc0 := 194) (pc' := 197) (same := true) rfl (hb hby at_194) rfl (decide_eq_true rfl) (by decide) (by decide)) ?_
                  show own_G p e below Φ T110 (mkF m 197 #[.val (.int p0), .val (.long q1), .second, .val (.long q2), .second, .val (.int (1 : Int32)), .val (.int (0 : Int32)), .val (.int (0 : Int32)), .val (.int z8), .val (.ref ob5), .val (.ref ob7), .val (.ref ob9), .val (.ref ob12), .val (.ref ob18), .val (.ref t14), .val (.ref ob12), .unset] [])
                  refine own_go (fun _ => XS.aload X110.here hx rfl (hb hby at_197) rfl rfl) ?_
                  show own_G p e below Φ T110 (mkF m 199 #[.val (.int p0), .val (.long q1), .second, .val (.long q2), .second, .val (.int (1 : Int32)), .val (.int (0 : Int32)), .val (.int (0 : Int32)), .val (.int z8), .val (.ref ob5), .val (.ref ob7), .val (.ref ob9), .val (.ref ob12), .val (.ref ob18), .val (.ref t14), .val (.ref ob12), .unset] [(.ref ob9)])
                  obtain ⟨cq111, kq111, q111a, q111b, q111c⟩ := isOf hZ hs110 p109_0
                  obtain ⟨_, _, ⟨T111, zL111, zk111, zn111⟩, -, X111, ⟨Lc111, hQ111, l111, y111, z111⟩, st111⟩ := X110.virtualBack hx (y := (⟨"corro/core/Order", "previous", "()Lcorro/core/Order;"⟩ : MethodName)) (z := (⟨"corro/core/Order", "previous", "()Lcorro/core/Order;"⟩ : MethodName)) hown (mvT hZ (wd_44 hw)) (mvT hZ (wd_45 hw)) (notFace_of_selects (args := #[]) (mvT hZ (wd_47 hw))) (mvT hZ (wd_47 hw)) (mvT hZ (wd_46 hw)) (by decide) (backOf (W := 0) (rmGprevious l Z a0 hw [] ob9 (.ref ob12) T109.heap n0 Zp109 p109_2 rfl) hZ (wd_48 hw) (wd_11 hw) (by decide) (by decide)) q111a q111c (g := (mkF m 199 #[.val (.int p0), .val (.long q1), .second, .val (.long q2), .second, .val (.int (1 : Int32)), .val (.int (0 : Int32)), .val (.int (0 : Int32)), .val (.int z8), .val (.ref ob5), .val (.ref ob7), .val (.ref ob9), .val (.ref ob12), .val (.ref ob18), .val (.ref t14), .val (.ref ob12), .unset] [(.ref ob9)])) rfl (by rw [hml]; rfl) (Steps.refl _) (argsL := []) (rest := []) (lenOf pd_4 rfl) rfl (by show 2 * 0 + _ ≤ _; exact Nat.le_of_eq rfl) (hb hby at_199) (fun _ _ => ⟨rfl, hs110, (by decide : 5 + 0 ≤ _), (by decide : 40 + 0 ≤ _)⟩)
                  dsimp only [Pt.U, Pt.locs, Pt.cells, Pt.slots] at X111 l111 y111 z111 st111 hQ111
                  subst l111 y111 z111
                  obtain ⟨rfl, N111q, hs111⟩ := hQ111
                  have N111 := Fr.app N110 N111q
                  refine own_on st111 ?_
                  show own_G p e below Φ T111 (mkF m 202 #[.val (.int p0), .val (.long q1), .second, .val (.long q2), .second, .val (.int (1 : Int32)), .val (.int (0 : Int32)), .val (.int (0 : Int32)), .val (.int z8), .val (.ref ob5), .val (.ref ob7), .val (.ref ob9), .val (.ref ob12), .val (.ref ob18), .val (.ref t14), .val (.ref ob12), .unset] [(.ref ob12)])
                  refine own_go (fun _ => XS.aload X111.here hx rfl (hb hby at_202) rfl rfl) ?_
                  show own_G p e below Φ T111 (mkF m 204 #[.val (.int p0), .val (.long q1), .second, .val (.long q2), .second, .val (.int (1 : Int32)), .val (.int (0 : Int32)), .val (.int (0 : Int32)), .val (.int z8), .val (.ref ob5), .val (.ref ob7), .val (.ref ob9), .val (.ref ob12), .val (.ref ob18), .val (.ref t14), .val (.ref ob12), .unset] [(.ref ob12), (.ref ob12)])
                  refine own_go (fun _ => Jvm.RoadKit.acmp (g := (mkF m 204 #[.val (.int p0), .val (.long q1), .second, .val (.long q2), .second, .val (.int (1 : Int32)), .val (.int (0 : Int32)), .val (.int (0 : Int32)), .val (.int z8), .val (.ref ob5), .val (.ref ob7), .val (.ref ob9), .val (.ref ob12), .val (.ref ob18), .val (.ref t14), .val (.ref ob12), .unset] [(.ref ob12), (.ref ob12)])) X111 hx rfl rfl rfl (pc0 := 204) (pc' := 207) (same := true) rfl (hb hby at_204) rfl (decide_eq_true rfl) (by decide) (by decide)) ?_
                  show own_G p e below Φ T111 (mkF m 207 #[.val (.int p0), .val (.long q1), .second, .val (.long q2), .second, .val (.int (1 : Int32)), .val (.int (0 : Int32)), .val (.int (0 : Int32)), .val (.int z8), .val (.ref ob5), .val (.ref ob7), .val (.ref ob9), .val (.ref ob12), .val (.ref ob18), .val (.ref t14), .val (.ref ob12), .unset] [])
                  refine own_go (fun _ => XS.aload X111.here hx rfl (hb hby at_207) rfl rfl) ?_
                  show own_G p e below Φ T111 (mkF m 209 #[.val (.int p0), .val (.long q1), .second, .val (.long q2), .second, .val (.int (1 : Int32)), .val (.int (0 : Int32)), .val (.int (0 : Int32)), .val (.int z8), .val (.ref ob5), .val (.ref ob7), .val (.ref ob9), .val (.ref ob12), .val (.ref ob18), .val (.ref t14), .val (.ref ob12), .unset] [(.ref ob9)])
                  obtain ⟨cq112, kq112, q112a, q112b, q112c⟩ := isOf hZ hs111 p109_0
                  obtain ⟨_, _, ⟨T112, zL112, zk112, zn112⟩, -, X112, ⟨Lc112, hQ112, l112, y112, z112⟩, st112⟩ := X111.virtualBack hx (y := (⟨"corro/core/Order", "next", "()Lcorro/core/Order;"⟩ : MethodName)) (z := (⟨"corro/core/Order", "next", "()Lcorro/core/Order;"⟩ : MethodName)) hown (mvT hZ (wd_49 hw)) (mvT hZ (wd_50 hw)) (notFace_of_selects (args := #[]) (mvT hZ (wd_52 hw))) (mvT hZ (wd_52 hw)) (mvT hZ (wd_51 hw)) (by decide) (backOf (W := 0) (rmGnext l Z a0 hw [] ob9 .null T109.heap n0 Zp109 p109_3 rfl) hZ (wd_53 hw) (wd_11 hw) (by decide) (by decide)) q112a q112c (g := (mkF m 209 #[.val (.int p0), .val (.long q1), .second, .val (.long q2), .second, .val (.int (1 : Int32)), .val (.int (0 : Int32)), .val (.int (0 : Int32)), .val (.int z8), .val (.ref ob5), .val (.ref ob7), .val (.ref ob9), .val (.ref ob12), .val (.ref ob18), .val (.ref t14), .val (.ref ob12), .unset] [(.ref ob9)])) rfl (by rw [hml]; rfl) (Steps.refl _) (argsL := []) (rest := []) (lenOf pd_4 rfl) rfl (by show 2 * 0 + _ ≤ _; exact Nat.le_of_eq rfl) (hb hby at_209) (fun _ _ => ⟨rfl, hs111, (by decide : 5 + 0 ≤ _), (by decide : 40 + 0 ≤ _)⟩)
                  dsimp only [Pt.U, Pt.locs, Pt.cells, Pt.slots] at X112 l112 y112 z112 st112 hQ112
                  subst l112 y112 z112
                  obtain ⟨rfl, N112q, hs112⟩ := hQ112
                  have N112 := Fr.app N111 N112q
                  refine own_on st112 ?_
                  show own_G p e below Φ T112 (mkF m 212 #[.val (.int p0), .val (.long q1), .second, .val (.long q2), .second, .val (.int (1 : Int32)), .val (.int (0 : Int32)), .val (.int (0 : Int32)), .val (.int z8), .val (.ref ob5), .val (.ref ob7), .val (.ref ob9), .val (.ref ob12), .val (.ref ob18), .val (.ref t14), .val (.ref ob12), .unset] [.null])
                  refine own_go (fun _ => XS.ifnonnullNo X112.here hx rfl (hb hby at_212) rfl) ?_
                  show own_G p e below Φ T112 (mkF m 215 #[.val (.int p0), .val (.long q1), .second, .val (.long q2), .second, .val (.int (1 : Int32)), .val (.int (0 : Int32)), .val (.int (0 : Int32)), .val (.int z8), .val (.ref ob5), .val (.ref ob7), .val (.ref ob9), .val (.ref ob12), .val (.ref ob18), .val (.ref t14), .val (.ref ob12), .unset] [])
                  refine own_go (fun _ => XS.iconst X112.here hx rfl (hb hby at_215)) ?_
                  show own_G p e below Φ T112 (mkF m 216 #[.val (.int p0), .val (.long q1), .second, .val (.long q2), .second, .val (.int (1 : Int32)), .val (.int (0 : Int32)), .val (.int (0 : Int32)), .val (.int z8), .val (.ref ob5), .val (.ref ob7), .val (.ref ob9), .val (.ref ob12), .val (.ref ob18), .val (.ref t14), .val (.ref ob12), .unset] [(.int (1 : Int32))])
                  refine own_go (fun _ => XS.goto X112.here hx rfl (pc0 := 216) (pc' := 220) rfl (hb hby at_216) (by decide) (by decide)) ?_
                  show own_G p e below Φ T112 (mkF m 220 #[.val (.int p0), .val (.long q1), .second, .val (.long q2), .second, .val (.int (1 : Int32)), .val (.int (0 : Int32)), .val (.int (0 : Int32)), .val (.int z8), .val (.ref ob5), .val (.ref ob7), .val (.ref ob9), .val (.ref ob12), .val (.ref ob18), .val (.ref t14), .val (.ref ob12), .unset] [(.int (1 : Int32))])
                  refine own_go (fun _ => XS.istore X112.here hx rfl (hb hby at_220) rfl (l' := #[.val (.int p0), .val (.long q1), .second, .val (.long q2), .second, .val (.int (1 : Int32)), .val (.int (0 : Int32)), .val (.int (0 : Int32)), .val (.int z8), .val (.ref ob5), .val (.ref ob7), .val (.ref ob9), .val (.ref ob12), .val (.ref ob18), .val (.ref t14), .val (.ref ob12), .val (.int (1 : Int32))]) rfl) ?_
                  show own_G p e below Φ T112 (mkF m 222 #[.val (.int p0), .val (.long q1), .second, .val (.long q2), .second, .val (.int (1 : Int32)), .val (.int (0 : Int32)), .val (.int (0 : Int32)), .val (.int z8), .val (.ref ob5), .val (.ref ob7), .val (.ref ob9), .val (.ref ob12), .val (.ref ob18), .val (.ref t14), .val (.ref ob12), .val (.int (1 : Int32))] [])
                  refine own_go (fun _ => XS.iload X112.here hx rfl (hb hby at_222) rfl) ?_
                  show own_G p e below Φ T112 (mkF m 224 #[.val (.int p0), .val (.long q1), .second, .val (.long q2), .second, .val (.int (1 : Int32)), .val (.int (0 : Int32)), .val (.int (0 : Int32)), .val (.int z8), .val (.ref ob5), .val (.ref ob7), .val (.ref ob9), .val (.ref ob12), .val (.ref ob18), .val (.ref t14), .val (.ref ob12), .val (.int (1 : Int32))] [(.int (1 : Int32))])
                  refine own_go (fun _ => XS.ifNo X112.here hx rfl (hb hby at_224) rfl (Jvm.Free.XT.i0_eq_f (by decide : ¬ ((1 : Int32) = (0 : Int32))))) ?_
                  show own_G p e below Φ T112 (mkF m 227 #[.val (.int p0), .val (.long q1), .second, .val (.long q2), .second, .val (.int (1 : Int32)), .val (.int (0 : Int32)), .val (.int (0 : Int32)), .val (.int z8), .val (.ref ob5), .val (.ref ob7), .val (.ref ob9), .val (.ref ob12), .val (.ref ob18), .val (.ref t14), .val (.ref ob12), .val (.int (1 : Int32))] [])
                  refine own_go (fun _ => XS.aload X112.here hx rfl (hb hby at_227) rfl rfl) ?_
                  show own_G p e below Φ T112 (mkF m 229 #[.val (.int p0), .val (.long q1), .second, .val (.long q2), .second, .val (.int (1 : Int32)), .val (.int (0 : Int32)), .val (.int (0 : Int32)), .val (.int z8), .val (.ref ob5), .val (.ref ob7), .val (.ref ob9), .val (.ref ob12), .val (.ref ob18), .val (.ref t14), .val (.ref ob12), .val (.int (1 : Int32))] [(.ref ob12)])
                  have f114 : Exa Z T109.heap ob12 "corro/core/Order" := f78.keep Kq109
                  obtain ⟨cq113, kq113, q113a, q113b, q113c⟩ := isOf hZ hs112 f114
                  obtain ⟨_, _, ⟨T113, zL113, zk113, zn113⟩, -, X113, ⟨Lc113, hQ113, l113, y113, z113⟩, st113⟩ := X112.virtualBack hx (y := (⟨"corro/core/Order", "next", "()Lcorro/core/Order;"⟩ : MethodName)) (z := (⟨"corro/core/Order", "next", "()Lcorro/core/Order;"⟩ : MethodName)) hown (mvT hZ (wd_49 hw)) (mvT hZ (wd_50 hw)) (notFace_of_selects (args := #[]) (mvT hZ (wd_52 hw))) (mvT hZ (wd_52 hw)) (mvT hZ (wd_51 hw)) (by decide) (backOf (W := 0) (rmGnext l Z a0 hw [] ob12 (.ref ob9) T109.heap n0 Zp109 p109_6 rfl) hZ (wd_53 hw) (wd_11 hw) (by decide) (by decide)) q113a q113c (g := (mkF m 229 #[.val (.int p0), .val (.long q1), .second, .val (.long q2), .second, .val (.int (1 : Int32)), .val (.int (0 : Int32)), .val (.int (0 : Int32)), .val (.int z8), .val (.ref ob5), .val (.ref ob7), .val (.ref ob9), .val (.ref ob12), .val (.ref ob18), .val (.ref t14), .val (.ref ob12), .val (.int (1 : Int32))] [(.ref ob12)])) rfl (by rw [hml]; rfl) (Steps.refl _) (argsL := []) (rest := []) (lenOf pd_4 rfl) rfl (by show 2 * 0 + _ ≤ _; exact Nat.le_of_eq rfl) (hb hby at_229) (fun _ _ => ⟨rfl, hs112, (by decide : 5 + 0 ≤ _), (by decide : 40 + 0 ≤ _)⟩)
                  dsimp only [Pt.U, Pt.locs, Pt.cells, Pt.slots] at X113 l113 y113 z113 st113 hQ113
                  subst l113 y113 z113
                  obtain ⟨rfl, N113q, hs113⟩ := hQ113
                  have N113 := Fr.app N112 N113q
                  refine own_on st113 ?_
                  show own_G p e below Φ T113 (mkF m 232 #[.val (.int p0), .val (.long q1), .second, .val (.long q2), .second, .val (.int (1 : Int32)), .val (.int (0 : Int32)), .val (.int (0 : Int32)), .val (.int z8), .val (.ref ob5), .val (.ref ob7), .val (.ref ob9), .val (.ref ob12), .val (.ref ob18), .val (.ref t14), .val (.ref ob12), .val (.int (1 : Int32))] [(.ref ob9)])
                  refine own_go (fun _ => XS.iload X113.here hx rfl (hb hby at_232) rfl) ?_
                  show own_G p e below Φ T113 (mkF m 234 #[.val (.int p0), .val (.long q1), .second, .val (.long q2), .second, .val (.int (1 : Int32)), .val (.int (0 : Int32)), .val (.int (0 : Int32)), .val (.int z8), .val (.ref ob5), .val (.ref ob7), .val (.ref ob9), .val (.ref ob12), .val (.ref ob18), .val (.ref t14), .val (.ref ob12), .val (.int (1 : Int32))] [(.int (1 : Int32)), (.ref ob9)])
                  refine own_go (fun _ => XS.ifNo X113.here hx rfl (hb hby at_234) rfl (Jvm.Free.XT.i0_eq_f (by decide : ¬ ((1 : Int32) = (0 : Int32))))) ?_
                  show own_G p e below Φ T113 (mkF m 237 #[.val (.int p0), .val (.long q1), .second, .val (.long q2), .second, .val (.int (1 : Int32)), .val (.int (0 : Int32)), .val (.int (0 : Int32)), .val (.int z8), .val (.ref ob5), .val (.ref ob7), .val (.ref ob9), .val (.ref ob12), .val (.ref ob18), .val (.ref t14), .val (.ref ob12), .val (.int (1 : Int32))] [(.ref ob9)])
                  refine own_go (fun _ => XS.aload X113.here hx rfl (hb hby at_237) rfl rfl) ?_
                  show own_G p e below Φ T113 (mkF m 239 #[.val (.int p0), .val (.long q1), .second, .val (.long q2), .second, .val (.int (1 : Int32)), .val (.int (0 : Int32)), .val (.int (0 : Int32)), .val (.int z8), .val (.ref ob5), .val (.ref ob7), .val (.ref ob9), .val (.ref ob12), .val (.ref ob18), .val (.ref t14), .val (.ref ob12), .val (.int (1 : Int32))] [(.ref ob9), (.ref ob9)])
                  refine own_go (fun _ => XS.goto X113.here hx rfl (pc0 := 239) (pc' := 243) rfl (hb hby at_239) (by decide) (by decide)) ?_
                  show own_G p e below Φ T113 (mkF m 243 #[.val (.int p0), .val (.long q1), .second, .val (.long q2), .second, .val (.int (1 : Int32)), .val (.int (0 : Int32)), .val (.int (0 : Int32)), .val (.int z8), .val (.ref ob5), .val (.ref ob7), .val (.ref ob9), .val (.ref ob12), .val (.ref ob18), .val (.ref t14), .val (.ref ob12), .val (.int (1 : Int32))] [(.ref ob9), (.ref ob9)])
                  refine own_go (fun _ => Jvm.RoadKit.acmp (g := (mkF m 243 #[.val (.int p0), .val (.long q1), .second, .val (.long q2), .second, .val (.int (1 : Int32)), .val (.int (0 : Int32)), .val (.int (0 : Int32)), .val (.int z8), .val (.ref ob5), .val (.ref ob7), .val (.ref ob9), .val (.ref ob12), .val (.ref ob18), .val (.ref t14), .val (.ref ob12), .val (.int (1 : Int32))] [(.ref ob9), (.ref ob9)])) X113 hx rfl rfl rfl (pc0 := 243) (pc' := 246) (same := true) rfl (hb hby at_243) rfl (decide_eq_true rfl) (by decide) (by decide)) ?_
                  show own_G p e below Φ T113 (mkF m 246 #[.val (.int p0), .val (.long q1), .second, .val (.long q2), .second, .val (.int (1 : Int32)), .val (.int (0 : Int32)), .val (.int (0 : Int32)), .val (.int z8), .val (.ref ob5), .val (.ref ob7), .val (.ref ob9), .val (.ref ob12), .val (.ref ob18), .val (.ref t14), .val (.ref ob12), .val (.int (1 : Int32))] [])
                  refine own_go (fun _ => XS.iconst X113.here hx rfl (hb hby at_246)) ?_
                  show own_G p e below Φ T113 (mkF m 247 #[.val (.int p0), .val (.long q1), .second, .val (.long q2), .second, .val (.int (1 : Int32)), .val (.int (0 : Int32)), .val (.int (0 : Int32)), .val (.int z8), .val (.ref ob5), .val (.ref ob7), .val (.ref ob9), .val (.ref ob12), .val (.ref ob18), .val (.ref t14), .val (.ref ob12), .val (.int (1 : Int32))] [(.int (1 : Int32))])
                  refine own_go (fun _ => XS.goto X113.here hx rfl (pc0 := 247) (pc' := 251) rfl (hb hby at_247) (by decide) (by decide)) ?_
                  show own_G p e below Φ T113 (mkF m 251 #[.val (.int p0), .val (.long q1), .second, .val (.long q2), .second, .val (.int (1 : Int32)), .val (.int (0 : Int32)), .val (.int (0 : Int32)), .val (.int z8), .val (.ref ob5), .val (.ref ob7), .val (.ref ob9), .val (.ref ob12), .val (.ref ob18), .val (.ref t14), .val (.ref ob12), .val (.int (1 : Int32))] [(.int (1 : Int32))])
                  refine own_go (fun _ => XS.istore X113.here hx rfl (hb hby at_251) rfl (l' := #[.val (.int p0), .val (.long q1), .second, .val (.long q2), .second, .val (.int (1 : Int32)), .val (.int (0 : Int32)), .val (.int (0 : Int32)), .val (.int z8), .val (.ref ob5), .val (.ref ob7), .val (.ref ob9), .val (.ref ob12), .val (.ref ob18), .val (.ref t14), .val (.ref ob12), .val (.int (1 : Int32))]) rfl) ?_
                  show own_G p e below Φ T113 (mkF m 253 #[.val (.int p0), .val (.long q1), .second, .val (.long q2), .second, .val (.int (1 : Int32)), .val (.int (0 : Int32)), .val (.int (0 : Int32)), .val (.int z8), .val (.ref ob5), .val (.ref ob7), .val (.ref ob9), .val (.ref ob12), .val (.ref ob18), .val (.ref t14), .val (.ref ob12), .val (.int (1 : Int32))] [])
                  refine own_go (fun _ => XS.iload X113.here hx rfl (hb hby at_253) rfl) ?_
                  show own_G p e below Φ T113 (mkF m 255 #[.val (.int p0), .val (.long q1), .second, .val (.long q2), .second, .val (.int (1 : Int32)), .val (.int (0 : Int32)), .val (.int (0 : Int32)), .val (.int z8), .val (.ref ob5), .val (.ref ob7), .val (.ref ob9), .val (.ref ob12), .val (.ref ob18), .val (.ref t14), .val (.ref ob12), .val (.int (1 : Int32))] [(.int (1 : Int32))])
                  refine own_go (fun _ => XS.ifNo X113.here hx rfl (hb hby at_255) rfl (Jvm.Free.XT.i0_eq_f (by decide : ¬ ((1 : Int32) = (0 : Int32))))) ?_
                  show own_G p e below Φ T113 (mkF m 258 #[.val (.int p0), .val (.long q1), .second, .val (.long q2), .second, .val (.int (1 : Int32)), .val (.int (0 : Int32)), .val (.int (0 : Int32)), .val (.int z8), .val (.ref ob5), .val (.ref ob7), .val (.ref ob9), .val (.ref ob12), .val (.ref ob18), .val (.ref t14), .val (.ref ob12), .val (.int (1 : Int32))] [])
                  refine own_go (fun _ => XS.aload X113.here hx rfl (hb hby at_258) rfl rfl) ?_
                  show own_G p e below Φ T113 (mkF m 260 #[.val (.int p0), .val (.long q1), .second, .val (.long q2), .second, .val (.int (1 : Int32)), .val (.int (0 : Int32)), .val (.int (0 : Int32)), .val (.int z8), .val (.ref ob5), .val (.ref ob7), .val (.ref ob9), .val (.ref ob12), .val (.ref ob18), .val (.ref t14), .val (.ref ob12), .val (.int (1 : Int32))] [(.ref ob12)])
                  obtain ⟨cq115, kq115, q115a, q115b, q115c⟩ := isOf hZ hs113 f114
                  obtain ⟨_, _, ⟨T115, zL115, zk115, zn115⟩, -, X115, ⟨Lc115, hQ115, l115, y115, z115⟩, st115⟩ := X113.virtualBack hx (y := (⟨"corro/core/Order", "previous", "()Lcorro/core/Order;"⟩ : MethodName)) (z := (⟨"corro/core/Order", "previous", "()Lcorro/core/Order;"⟩ : MethodName)) hown (mvT hZ (wd_44 hw)) (mvT hZ (wd_45 hw)) (notFace_of_selects (args := #[]) (mvT hZ (wd_47 hw))) (mvT hZ (wd_47 hw)) (mvT hZ (wd_46 hw)) (by decide) (backOf (W := 0) (rmGprevious l Z a0 hw [] ob12 .null T109.heap n0 Zp109 p109_5 rfl) hZ (wd_48 hw) (wd_11 hw) (by decide) (by decide)) q115a q115c (g := (mkF m 260 #[.val (.int p0), .val (.long q1), .second, .val (.long q2), .second, .val (.int (1 : Int32)), .val (.int (0 : Int32)), .val (.int (0 : Int32)), .val (.int z8), .val (.ref ob5), .val (.ref ob7), .val (.ref ob9), .val (.ref ob12), .val (.ref ob18), .val (.ref t14), .val (.ref ob12), .val (.int (1 : Int32))] [(.ref ob12)])) rfl (by rw [hml]; rfl) (Steps.refl _) (argsL := []) (rest := []) (lenOf pd_4 rfl) rfl (by show 2 * 0 + _ ≤ _; exact Nat.le_of_eq rfl) (hb hby at_260) (fun _ _ => ⟨rfl, hs113, (by decide : 5 + 0 ≤ _), (by decide : 40 + 0 ≤ _)⟩)
                  dsimp only [Pt.U, Pt.locs, Pt.cells, Pt.slots] at X115 l115 y115 z115 st115 hQ115
                  subst l115 y115 z115
                  obtain ⟨rfl, N115q, hs115⟩ := hQ115
                  have N115 := Fr.app N113 N115q
                  refine own_on st115 ?_
                  show own_G p e below Φ T115 (mkF m 263 #[.val (.int p0), .val (.long q1), .second, .val (.long q2), .second, .val (.int (1 : Int32)), .val (.int (0 : Int32)), .val (.int (0 : Int32)), .val (.int z8), .val (.ref ob5), .val (.ref ob7), .val (.ref ob9), .val (.ref ob12), .val (.ref ob18), .val (.ref t14), .val (.ref ob12), .val (.int (1 : Int32))] [.null])
                  refine own_go (fun _ => XS.ifnonnullNo X115.here hx rfl (hb hby at_263) rfl) ?_
                  show own_G p e below Φ T115 (mkF m 266 #[.val (.int p0), .val (.long q1), .second, .val (.long q2), .second, .val (.int (1 : Int32)), .val (.int (0 : Int32)), .val (.int (0 : Int32)), .val (.int z8), .val (.ref ob5), .val (.ref ob7), .val (.ref ob9), .val (.ref ob12), .val (.ref ob18), .val (.ref t14), .val (.ref ob12), .val (.int (1 : Int32))] [])
                  refine own_go (fun _ => XS.aload X115.here hx rfl (hb hby at_266) rfl rfl) ?_
                  show own_G p e below Φ T115 (mkF m 268 #[.val (.int p0), .val (.long q1), .second, .val (.long q2), .second, .val (.int (1 : Int32)), .val (.int (0 : Int32)), .val (.int (0 : Int32)), .val (.int z8), .val (.ref ob5), .val (.ref ob7), .val (.ref ob9), .val (.ref ob12), .val (.ref ob18), .val (.ref t14), .val (.ref ob12), .val (.int (1 : Int32))] [(.ref ob12)])
                  obtain ⟨cq116, kq116, q116a, q116b, q116c⟩ := isOf hZ hs115 f114
                  obtain ⟨_, _, ⟨T116, zL116, zk116, zn116⟩, -, X116, ⟨Lc116, hQ116, l116, y116, z116⟩, st116⟩ := X115.virtualBack hx (y := (⟨"corro/core/Order", "level", "()Lcorro/core/Level;"⟩ : MethodName)) (z := (⟨"corro/core/Order", "level", "()Lcorro/core/Level;"⟩ : MethodName)) hown (mvT hZ (wd_39 hw)) (mvT hZ (wd_40 hw)) (notFace_of_selects (args := #[]) (mvT hZ (wd_42 hw))) (mvT hZ (wd_42 hw)) (mvT hZ (wd_41 hw)) (by decide) (backOf (W := 0) (rmGlevel l Z a0 hw [] ob12 .null T109.heap n0 Zp109 p109_4 rfl) hZ (wd_43 hw) (wd_11 hw) (by decide) (by decide)) q116a q116c (g := (mkF m 268 #[.val (.int p0), .val (.long q1), .second, .val (.long q2), .second, .val (.int (1 : Int32)), .val (.int (0 : Int32)), .val (.int (0 : Int32)), .val (.int z8), .val (.ref ob5), .val (.ref ob7), .val (.ref ob9), .val (.ref ob12), .val (.ref ob18), .val (.ref t14), .val (.ref ob12), .val (.int (1 : Int32))] [(.ref ob12)])) rfl (by rw [hml]; rfl) (Steps.refl _) (argsL := []) (rest := []) (lenOf pd_3 rfl) rfl (by show 2 * 0 + _ ≤ _; exact Nat.le_of_eq rfl) (hb hby at_268) (fun _ _ => ⟨rfl, hs115, (by decide : 5 + 0 ≤ _), (by decide : 40 + 0 ≤ _)⟩)
                  dsimp only [Pt.U, Pt.locs, Pt.cells, Pt.slots] at X116 l116 y116 z116 st116 hQ116
                  subst l116 y116 z116
                  obtain ⟨rfl, N116q, hs116⟩ := hQ116
                  have N116 := Fr.app N115 N116q
                  refine own_on st116 ?_
                  show own_G p e below Φ T116 (mkF m 271 #[.val (.int p0), .val (.long q1), .second, .val (.long q2), .second, .val (.int (1 : Int32)), .val (.int (0 : Int32)), .val (.int (0 : Int32)), .val (.int z8), .val (.ref ob5), .val (.ref ob7), .val (.ref ob9), .val (.ref ob12), .val (.ref ob18), .val (.ref t14), .val (.ref ob12), .val (.int (1 : Int32))] [.null])
                  refine own_go (fun _ => XS.iload X116.here hx rfl (hb hby at_271) rfl) ?_
                  show own_G p e below Φ T116 (mkF m 273 #[.val (.int p0), .val (.long q1), .second, .val (.long q2), .second, .val (.int (1 : Int32)), .val (.int (0 : Int32)), .val (.int (0 : Int32)), .val (.int z8), .val (.ref ob5), .val (.ref ob7), .val (.ref ob9), .val (.ref ob12), .val (.ref ob18), .val (.ref t14), .val (.ref ob12), .val (.int (1 : Int32))] [(.int (0 : Int32)), .null])
                  refine own_go (fun _ => XS.ifYes X116.here hx rfl (pc0 := 273) (pc' := 281) rfl (hb hby at_273) rfl (Jvm.Free.XT.i0_eq_t (by decide : ((0 : Int32) = (0 : Int32)))) (by decide) (by decide)) ?_
                  show own_G p e below Φ T116 (mkF m 281 #[.val (.int p0), .val (.long q1), .second, .val (.long q2), .second, .val (.int (1 : Int32)), .val (.int (0 : Int32)), .val (.int (0 : Int32)), .val (.int z8), .val (.ref ob5), .val (.ref ob7), .val (.ref ob9), .val (.ref ob12), .val (.ref ob18), .val (.ref t14), .val (.ref ob12), .val (.int (1 : Int32))] [.null])
                  refine own_go (fun _ => XS.aconstNull X116.here hx rfl (hb hby at_281)) ?_
                  show own_G p e below Φ T116 (mkF m 282 #[.val (.int p0), .val (.long q1), .second, .val (.long q2), .second, .val (.int (1 : Int32)), .val (.int (0 : Int32)), .val (.int (0 : Int32)), .val (.int z8), .val (.ref ob5), .val (.ref ob7), .val (.ref ob9), .val (.ref ob12), .val (.ref ob18), .val (.ref t14), .val (.ref ob12), .val (.int (1 : Int32))] [.null, .null])
                  refine own_go (fun _ => Jvm.RoadKit.acmp (g := (mkF m 282 #[.val (.int p0), .val (.long q1), .second, .val (.long q2), .second, .val (.int (1 : Int32)), .val (.int (0 : Int32)), .val (.int (0 : Int32)), .val (.int z8), .val (.ref ob5), .val (.ref ob7), .val (.ref ob9), .val (.ref ob12), .val (.ref ob18), .val (.ref t14), .val (.ref ob12), .val (.int (1 : Int32))] [.null, .null])) X116 hx rfl rfl rfl (pc0 := 282) (pc' := 285) (same := true) rfl (hb hby at_282) rfl (decide_eq_true rfl) (by decide) (by decide)) ?_
                  show own_G p e below Φ T116 (mkF m 285 #[.val (.int p0), .val (.long q1), .second, .val (.long q2), .second, .val (.int (1 : Int32)), .val (.int (0 : Int32)), .val (.int (0 : Int32)), .val (.int z8), .val (.ref ob5), .val (.ref ob7), .val (.ref ob9), .val (.ref ob12), .val (.ref ob18), .val (.ref t14), .val (.ref ob12), .val (.int (1 : Int32))] [])
                  refine own_go (fun _ => XS.iconst X116.here hx rfl (hb hby at_285)) ?_
                  show own_G p e below Φ T116 (mkF m 286 #[.val (.int p0), .val (.long q1), .second, .val (.long q2), .second, .val (.int (1 : Int32)), .val (.int (0 : Int32)), .val (.int (0 : Int32)), .val (.int z8), .val (.ref ob5), .val (.ref ob7), .val (.ref ob9), .val (.ref ob12), .val (.ref ob18), .val (.ref t14), .val (.ref ob12), .val (.int (1 : Int32))] [(.int (1 : Int32))])
                  refine own_go (fun _ => XS.goto X116.here hx rfl (pc0 := 286) (pc' := 290) rfl (hb hby at_286) (by decide) (by decide)) ?_
                  show own_G p e below Φ T116 (mkF m 290 #[.val (.int p0), .val (.long q1), .second, .val (.long q2), .second, .val (.int (1 : Int32)), .val (.int (0 : Int32)), .val (.int (0 : Int32)), .val (.int z8), .val (.ref ob5), .val (.ref ob7), .val (.ref ob9), .val (.ref ob12), .val (.ref ob18), .val (.ref t14), .val (.ref ob12), .val (.int (1 : Int32))] [(.int (1 : Int32))])
                  refine own_go (fun _ => XS.istore X116.here hx rfl (hb hby at_290) rfl (l' := #[.val (.int p0), .val (.long q1), .second, .val (.long q2), .second, .val (.int (1 : Int32)), .val (.int (0 : Int32)), .val (.int (0 : Int32)), .val (.int z8), .val (.ref ob5), .val (.ref ob7), .val (.ref ob9), .val (.ref ob12), .val (.ref ob18), .val (.ref t14), .val (.ref ob12), .val (.int (1 : Int32))]) rfl) ?_
                  show own_G p e below Φ T116 (mkF m 292 #[.val (.int p0), .val (.long q1), .second, .val (.long q2), .second, .val (.int (1 : Int32)), .val (.int (0 : Int32)), .val (.int (0 : Int32)), .val (.int z8), .val (.ref ob5), .val (.ref ob7), .val (.ref ob9), .val (.ref ob12), .val (.ref ob18), .val (.ref t14), .val (.ref ob12), .val (.int (1 : Int32))] [])
                  refine own_go (fun _ => XS.iload X116.here hx rfl (hb hby at_292) rfl) ?_
                  show own_G p e below Φ T116 (mkF m 294 #[.val (.int p0), .val (.long q1), .second, .val (.long q2), .second, .val (.int (1 : Int32)), .val (.int (0 : Int32)), .val (.int (0 : Int32)), .val (.int z8), .val (.ref ob5), .val (.ref ob7), .val (.ref ob9), .val (.ref ob12), .val (.ref ob18), .val (.ref t14), .val (.ref ob12), .val (.int (1 : Int32))] [(.int (1 : Int32))])
                  refine own_go (fun _ => XS.ifNo X116.here hx rfl (hb hby at_294) rfl (Jvm.Free.XT.i0_eq_f (by decide : ¬ ((1 : Int32) = (0 : Int32))))) ?_
                  show own_G p e below Φ T116 (mkF m 297 #[.val (.int p0), .val (.long q1), .second, .val (.long q2), .second, .val (.int (1 : Int32)), .val (.int (0 : Int32)), .val (.int (0 : Int32)), .val (.int z8), .val (.ref ob5), .val (.ref ob7), .val (.ref ob9), .val (.ref ob12), .val (.ref ob18), .val (.ref t14), .val (.ref ob12), .val (.int (1 : Int32))] [])
                  refine own_go (fun _ => XS.aload X116.here hx rfl (hb hby at_297) rfl rfl) ?_
                  show own_G p e below Φ T116 (mkF m 299 #[.val (.int p0), .val (.long q1), .second, .val (.long q2), .second, .val (.int (1 : Int32)), .val (.int (0 : Int32)), .val (.int (0 : Int32)), .val (.int z8), .val (.ref ob5), .val (.ref ob7), .val (.ref ob9), .val (.ref ob12), .val (.ref ob18), .val (.ref t14), .val (.ref ob12), .val (.int (1 : Int32))] [(.ref ob18)])
                  have f117 : Fld Z T109.heap ob18 "corro/core/Order" "previous" "Lcorro/core/Order;" .null := p25_2.keep Kq109 (ninS (Ne.symm ne_ob9_ob18) (ninS (Ne.symm ne_ob12_ob18) nin0))
                  have f119 : Exa Z T109.heap ob18 "corro/core/Order" := p25_0.keep Kq109
                  obtain ⟨cq118, kq118, q118a, q118b, q118c⟩ := isOf hZ hs116 f119
                  obtain ⟨_, _, ⟨T118, zL118, zk118, zn118⟩, -, X118, ⟨Lc118, hQ118, l118, y118, z118⟩, st118⟩ := X116.virtualBack hx (y := (⟨"corro/core/Order", "previous", "()Lcorro/core/Order;"⟩ : MethodName)) (z := (⟨"corro/core/Order", "previous", "()Lcorro/core/Order;"⟩ : MethodName)) hown (mvT hZ (wd_44 hw)) (mvT hZ (wd_45 hw)) (notFace_of_selects (args := #[]) (mvT hZ (wd_47 hw))) (mvT hZ (wd_47 hw)) (mvT hZ (wd_46 hw)) (by decide) (backOf (W := 0) (rmGprevious l Z a0 hw [] ob18 .null T109.heap n0 Zp109 f117 rfl) hZ (wd_48 hw) (wd_11 hw) (by decide) (by decide)) q118a q118c (g := (mkF m 299 #[.val (.int p0), .val (.long q1), .second, .val (.long q2), .second, .val (.int (1 : Int32)), .val (.int (0 : Int32)), .val (.int (0 : Int32)), .val (.int z8), .val (.ref ob5), .val (.ref ob7), .val (.ref ob9), .val (.ref ob12), .val (.ref ob18), .val (.ref t14), .val (.ref ob12), .val (.int (1 : Int32))] [(.ref ob18)])) rfl (by rw [hml]; rfl) (Steps.refl _) (argsL := []) (rest := []) (lenOf pd_4 rfl) rfl (by show 2 * 0 + _ ≤ _; exact Nat.le_of_eq rfl) (hb hby at_299) (fun _ _ => ⟨rfl, hs116, (by decide : 5 + 0 ≤ _), (by decide : 40 + 0 ≤ _)⟩)
                  dsimp only [Pt.U, Pt.locs, Pt.cells, Pt.slots] at X118 l118 y118 z118 st118 hQ118
                  subst l118 y118 z118
                  obtain ⟨rfl, N118q, hs118⟩ := hQ118
                  have N118 := Fr.app N116 N118q
                  refine own_on st118 ?_
                  show own_G p e below Φ T118 (mkF m 302 #[.val (.int p0), .val (.long q1), .second, .val (.long q2), .second, .val (.int (1 : Int32)), .val (.int (0 : Int32)), .val (.int (0 : Int32)), .val (.int z8), .val (.ref ob5), .val (.ref ob7), .val (.ref ob9), .val (.ref ob12), .val (.ref ob18), .val (.ref t14), .val (.ref ob12), .val (.int (1 : Int32))] [.null])
                  refine own_go (fun _ => XS.iload X118.here hx rfl (hb hby at_302) rfl) ?_
                  show own_G p e below Φ T118 (mkF m 304 #[.val (.int p0), .val (.long q1), .second, .val (.long q2), .second, .val (.int (1 : Int32)), .val (.int (0 : Int32)), .val (.int (0 : Int32)), .val (.int z8), .val (.ref ob5), .val (.ref ob7), .val (.ref ob9), .val (.ref ob12), .val (.ref ob18), .val (.ref t14), .val (.ref ob12), .val (.int (1 : Int32))] [(.int (0 : Int32)), .null])
                  refine own_go (fun _ => XS.ifYes X118.here hx rfl (pc0 := 304) (pc' := 312) rfl (hb hby at_304) rfl (Jvm.Free.XT.i0_eq_t (by decide : ((0 : Int32) = (0 : Int32)))) (by decide) (by decide)) ?_
                  show own_G p e below Φ T118 (mkF m 312 #[.val (.int p0), .val (.long q1), .second, .val (.long q2), .second, .val (.int (1 : Int32)), .val (.int (0 : Int32)), .val (.int (0 : Int32)), .val (.int z8), .val (.ref ob5), .val (.ref ob7), .val (.ref ob9), .val (.ref ob12), .val (.ref ob18), .val (.ref t14), .val (.ref ob12), .val (.int (1 : Int32))] [.null])
                  refine own_go (fun _ => XS.aconstNull X118.here hx rfl (hb hby at_312)) ?_
                  show own_G p e below Φ T118 (mkF m 313 #[.val (.int p0), .val (.long q1), .second, .val (.long q2), .second, .val (.int (1 : Int32)), .val (.int (0 : Int32)), .val (.int (0 : Int32)), .val (.int z8), .val (.ref ob5), .val (.ref ob7), .val (.ref ob9), .val (.ref ob12), .val (.ref ob18), .val (.ref t14), .val (.ref ob12), .val (.int (1 : Int32))] [.null, .null])
                  refine own_go (fun _ => Jvm.RoadKit.acmp (g := (mkF m 313 #[.val (.int p0), .val (.long q1), .second, .val (.long q2), .second, .val (.int (1 : Int32)), .val (.int (0 : Int32)), .val (.int (0 : Int32)), .val (.int z8), .val (.ref ob5), .val (.ref ob7), .val (.ref ob9), .val (.ref ob12), .val (.ref ob18), .val (.ref t14), .val (.ref ob12), .val (.int (1 : Int32))] [.null, .null])) X118 hx rfl rfl rfl (pc0 := 313) (pc' := 316) (same := true) rfl (hb hby at_313) rfl (decide_eq_true rfl) (by decide) (by decide)) ?_
                  show own_G p e below Φ T118 (mkF m 316 #[.val (.int p0), .val (.long q1), .second, .val (.long q2), .second, .val (.int (1 : Int32)), .val (.int (0 : Int32)), .val (.int (0 : Int32)), .val (.int z8), .val (.ref ob5), .val (.ref ob7), .val (.ref ob9), .val (.ref ob12), .val (.ref ob18), .val (.ref t14), .val (.ref ob12), .val (.int (1 : Int32))] [])
                  refine own_go (fun _ => XS.aload X118.here hx rfl (hb hby at_316) rfl rfl) ?_
                  show own_G p e below Φ T118 (mkF m 318 #[.val (.int p0), .val (.long q1), .second, .val (.long q2), .second, .val (.int (1 : Int32)), .val (.int (0 : Int32)), .val (.int (0 : Int32)), .val (.int z8), .val (.ref ob5), .val (.ref ob7), .val (.ref ob9), .val (.ref ob12), .val (.ref ob18), .val (.ref t14), .val (.ref ob12), .val (.int (1 : Int32))] [(.ref ob18)])
                  have f120 : Fld Z T109.heap ob18 "corro/core/Order" "next" "Lcorro/core/Order;" .null := p25_3.keep Kq109 (ninS (Ne.symm ne_ob9_ob18) (ninS (Ne.symm ne_ob12_ob18) nin0))
                  obtain ⟨cq121, kq121, q121a, q121b, q121c⟩ := isOf hZ hs118 f119
                  obtain ⟨_, _, ⟨T121, zL121, zk121, zn121⟩, -, X121, ⟨Lc121, hQ121, l121, y121, z121⟩, st121⟩ := X118.virtualBack hx (y := (⟨"corro/core/Order", "next", "()Lcorro/core/Order;"⟩ : MethodName)) (z := (⟨"corro/core/Order", "next", "()Lcorro/core/Order;"⟩ : MethodName)) hown (mvT hZ (wd_49 hw)) (mvT hZ (wd_50 hw)) (notFace_of_selects (args := #[]) (mvT hZ (wd_52 hw))) (mvT hZ (wd_52 hw)) (mvT hZ (wd_51 hw)) (by decide) (backOf (W := 0) (rmGnext l Z a0 hw [] ob18 .null T109.heap n0 Zp109 f120 rfl) hZ (wd_53 hw) (wd_11 hw) (by decide) (by decide)) q121a q121c (g := (mkF m 318 #[.val (.int p0), .val (.long q1), .second, .val (.long q2), .second, .val (.int (1 : Int32)), .val (.int (0 : Int32)), .val (.int (0 : Int32)), .val (.int z8), .val (.ref ob5), .val (.ref ob7), .val (.ref ob9), .val (.ref ob12), .val (.ref ob18), .val (.ref t14), .val (.ref ob12), .val (.int (1 : Int32))] [(.ref ob18)])) rfl (by rw [hml]; rfl) (Steps.refl _) (argsL := []) (rest := []) (lenOf pd_4 rfl) rfl (by show 2 * 0 + _ ≤ _; exact Nat.le_of_eq rfl) (hb hby at_318) (fun _ _ => ⟨rfl, hs118, (by decide : 5 + 0 ≤ _), (by decide : 40 + 0 ≤ _)⟩)
                  dsimp only [Pt.U, Pt.locs, Pt.cells, Pt.slots] at X121 l121 y121 z121 st121 hQ121
                  subst l121 y121 z121
                  obtain ⟨rfl, N121q, hs121⟩ := hQ121
                  have N121 := Fr.app N118 N121q
                  refine own_on st121 ?_
                  show own_G p e below Φ T121 (mkF m 321 #[.val (.int p0), .val (.long q1), .second, .val (.long q2), .second, .val (.int (1 : Int32)), .val (.int (0 : Int32)), .val (.int (0 : Int32)), .val (.int z8), .val (.ref ob5), .val (.ref ob7), .val (.ref ob9), .val (.ref ob12), .val (.ref ob18), .val (.ref t14), .val (.ref ob12), .val (.int (1 : Int32))] [.null])
                  refine own_go (fun _ => XS.ifnonnullNo X121.here hx rfl (hb hby at_321) rfl) ?_
                  show own_G p e below Φ T121 (mkF m 324 #[.val (.int p0), .val (.long q1), .second, .val (.long q2), .second, .val (.int (1 : Int32)), .val (.int (0 : Int32)), .val (.int (0 : Int32)), .val (.int z8), .val (.ref ob5), .val (.ref ob7), .val (.ref ob9), .val (.ref ob12), .val (.ref ob18), .val (.ref t14), .val (.ref ob12), .val (.int (1 : Int32))] [])
                  refine own_go (fun _ => XS.iconst X121.here hx rfl (hb hby at_324)) ?_
                  show own_G p e below Φ T121 (mkF m 325 #[.val (.int p0), .val (.long q1), .second, .val (.long q2), .second, .val (.int (1 : Int32)), .val (.int (0 : Int32)), .val (.int (0 : Int32)), .val (.int z8), .val (.ref ob5), .val (.ref ob7), .val (.ref ob9), .val (.ref ob12), .val (.ref ob18), .val (.ref t14), .val (.ref ob12), .val (.int (1 : Int32))] [(.int (1 : Int32))])
                  refine own_go (fun _ => XS.goto X121.here hx rfl (pc0 := 325) (pc' := 329) rfl (hb hby at_325) (by decide) (by decide)) ?_
                  show own_G p e below Φ T121 (mkF m 329 #[.val (.int p0), .val (.long q1), .second, .val (.long q2), .second, .val (.int (1 : Int32)), .val (.int (0 : Int32)), .val (.int (0 : Int32)), .val (.int z8), .val (.ref ob5), .val (.ref ob7), .val (.ref ob9), .val (.ref ob12), .val (.ref ob18), .val (.ref t14), .val (.ref ob12), .val (.int (1 : Int32))] [(.int (1 : Int32))])
                  refine own_go (fun _ => XS.istore X121.here hx rfl (hb hby at_329) rfl (l' := #[.val (.int p0), .val (.long q1), .second, .val (.long q2), .second, .val (.int (1 : Int32)), .val (.int (0 : Int32)), .val (.int (0 : Int32)), .val (.int z8), .val (.ref ob5), .val (.ref ob7), .val (.ref ob9), .val (.ref ob12), .val (.ref ob18), .val (.ref t14), .val (.ref ob12), .val (.int (1 : Int32))]) rfl) ?_
                  show own_G p e below Φ T121 (mkF m 331 #[.val (.int p0), .val (.long q1), .second, .val (.long q2), .second, .val (.int (1 : Int32)), .val (.int (0 : Int32)), .val (.int (0 : Int32)), .val (.int z8), .val (.ref ob5), .val (.ref ob7), .val (.ref ob9), .val (.ref ob12), .val (.ref ob18), .val (.ref t14), .val (.ref ob12), .val (.int (1 : Int32))] [])
                  refine own_go (fun _ => XS.iload X121.here hx rfl (hb hby at_331) rfl) ?_
                  show own_G p e below Φ T121 (mkF m 333 #[.val (.int p0), .val (.long q1), .second, .val (.long q2), .second, .val (.int (1 : Int32)), .val (.int (0 : Int32)), .val (.int (0 : Int32)), .val (.int z8), .val (.ref ob5), .val (.ref ob7), .val (.ref ob9), .val (.ref ob12), .val (.ref ob18), .val (.ref t14), .val (.ref ob12), .val (.int (1 : Int32))] [(.int (1 : Int32))])
                  refine own_go (fun _ => XS.ifNo X121.here hx rfl (hb hby at_333) rfl (Jvm.Free.XT.i0_eq_f (by decide : ¬ ((1 : Int32) = (0 : Int32))))) ?_
                  show own_G p e below Φ T121 (mkF m 336 #[.val (.int p0), .val (.long q1), .second, .val (.long q2), .second, .val (.int (1 : Int32)), .val (.int (0 : Int32)), .val (.int (0 : Int32)), .val (.int z8), .val (.ref ob5), .val (.ref ob7), .val (.ref ob9), .val (.ref ob12), .val (.ref ob18), .val (.ref t14), .val (.ref ob12), .val (.int (1 : Int32))] [])
                  refine own_go (fun _ => XS.aload X121.here hx rfl (hb hby at_336) rfl rfl) ?_
                  show own_G p e below Φ T121 (mkF m 338 #[.val (.int p0), .val (.long q1), .second, .val (.long q2), .second, .val (.int (1 : Int32)), .val (.int (0 : Int32)), .val (.int (0 : Int32)), .val (.int z8), .val (.ref ob5), .val (.ref ob7), .val (.ref ob9), .val (.ref ob12), .val (.ref ob18), .val (.ref t14), .val (.ref ob12), .val (.int (1 : Int32))] [(.ref ob9)])
                  obtain ⟨cq122, kq122, q122a, q122b, q122c⟩ := isOf hZ hs121 p109_0
                  obtain ⟨_, _, ⟨T122, zL122, zk122, zn122⟩, -, X122, ⟨Lc122, hQ122, l122, y122, z122⟩, st122⟩ := X121.virtualBack hx (y := (⟨"corro/core/Order", "quantity", "()J"⟩ : MethodName)) (z := (⟨"corro/core/Order", "quantity", "()J"⟩ : MethodName)) hown (mvT hZ (wd_54 hw)) (mvT hZ (wd_55 hw)) (notFace_of_selects (args := #[]) (mvT hZ (wd_57 hw))) (mvT hZ (wd_57 hw)) (mvT hZ (wd_56 hw)) (by decide) (backOf (W := 0) (rmGquantity l Z a0 hw [] ob9 q1 T109.heap n0 Zp109 p109_7) hZ (wd_58 hw) (wd_11 hw) (by decide) (by decide)) q122a q122c (g := (mkF m 338 #[.val (.int p0), .val (.long q1), .second, .val (.long q2), .second, .val (.int (1 : Int32)), .val (.int (0 : Int32)), .val (.int (0 : Int32)), .val (.int z8), .val (.ref ob5), .val (.ref ob7), .val (.ref ob9), .val (.ref ob12), .val (.ref ob18), .val (.ref t14), .val (.ref ob12), .val (.int (1 : Int32))] [(.ref ob9)])) rfl (by rw [hml]; rfl) (Steps.refl _) (argsL := []) (rest := []) (lenOf pd_5 rfl) rfl (by show 2 * 0 + _ ≤ _; exact Nat.le_of_eq rfl) (hb hby at_338) (fun _ _ => ⟨rfl, hs121, (by decide : 5 + 0 ≤ _), (by decide : 40 + 0 ≤ _)⟩)
                  dsimp only [Pt.U, Pt.locs, Pt.cells, Pt.slots] at X122 l122 y122 z122 st122 hQ122
                  subst l122 y122 z122
                  obtain ⟨rfl, N122q, hs122⟩ := hQ122
                  have N122 := Fr.app N121 N122q
                  refine own_on st122 ?_
                  show own_G p e below Φ T122 (mkF m 341 #[.val (.int p0), .val (.long q1), .second, .val (.long q2), .second, .val (.int (1 : Int32)), .val (.int (0 : Int32)), .val (.int (0 : Int32)), .val (.int z8), .val (.ref ob5), .val (.ref ob7), .val (.ref ob9), .val (.ref ob12), .val (.ref ob18), .val (.ref t14), .val (.ref ob12), .val (.int (1 : Int32))] [(.long q1)])
                  refine own_go (fun _ => XS.lloadN X122.here hx rfl (hb hby at_341) rfl) ?_
                  show own_G p e below Φ T122 (mkF m 342 #[.val (.int p0), .val (.long q1), .second, .val (.long q2), .second, .val (.int (1 : Int32)), .val (.int (0 : Int32)), .val (.int (0 : Int32)), .val (.int z8), .val (.ref ob5), .val (.ref ob7), .val (.ref ob9), .val (.ref ob12), .val (.ref ob18), .val (.ref t14), .val (.ref ob12), .val (.int (1 : Int32))] [(.long q1), (.long q1)])
                  refine own_go (fun _ => XS.lcmp X122.here hx rfl (hb hby at_342) rfl) ?_
                  show own_G p e below Φ T122 (mkF m 343 #[.val (.int p0), .val (.long q1), .second, .val (.long q2), .second, .val (.int (1 : Int32)), .val (.int (0 : Int32)), .val (.int (0 : Int32)), .val (.int z8), .val (.ref ob5), .val (.ref ob7), .val (.ref ob9), .val (.ref ob12), .val (.ref ob18), .val (.ref t14), .val (.ref ob12), .val (.int (1 : Int32))] [(.int (lcmpW q1 q1))])
                  refine own_go (fun _ => XS.ifNo X122.here hx rfl (hb hby at_343) rfl (Jvm.Free.XT.ll_ne_f (rfl : q1 = q1))) ?_
                  show own_G p e below Φ T122 (mkF m 346 #[.val (.int p0), .val (.long q1), .second, .val (.long q2), .second, .val (.int (1 : Int32)), .val (.int (0 : Int32)), .val (.int (0 : Int32)), .val (.int z8), .val (.ref ob5), .val (.ref ob7), .val (.ref ob9), .val (.ref ob12), .val (.ref ob18), .val (.ref t14), .val (.ref ob12), .val (.int (1 : Int32))] [])
                  refine own_go (fun _ => XS.aload X122.here hx rfl (hb hby at_346) rfl rfl) ?_
                  show own_G p e below Φ T122 (mkF m 348 #[.val (.int p0), .val (.long q1), .second, .val (.long q2), .second, .val (.int (1 : Int32)), .val (.int (0 : Int32)), .val (.int (0 : Int32)), .val (.int z8), .val (.ref ob5), .val (.ref ob7), .val (.ref ob9), .val (.ref ob12), .val (.ref ob18), .val (.ref t14), .val (.ref ob12), .val (.int (1 : Int32))] [(.ref ob9)])
                  obtain ⟨cq123, kq123, q123a, q123b, q123c⟩ := isOf hZ hs122 p109_0
                  obtain ⟨_, _, ⟨T123, zL123, zk123, zn123⟩, -, X123, ⟨Lc123, hQ123, l123, y123, z123⟩, st123⟩ := X122.virtualBack hx (y := (⟨"corro/core/Order", "price", "()J"⟩ : MethodName)) (z := (⟨"corro/core/Order", "price", "()J"⟩ : MethodName)) hown (mvT hZ (wd_59 hw)) (mvT hZ (wd_60 hw)) (notFace_of_selects (args := #[]) (mvT hZ (wd_62 hw))) (mvT hZ (wd_62 hw)) (mvT hZ (wd_61 hw)) (by decide) (backOf (W := 0) (rmGprice l Z a0 hw [] ob9 q2 T109.heap n0 Zp109 p109_8) hZ (wd_63 hw) (wd_11 hw) (by decide) (by decide)) q123a q123c (g := (mkF m 348 #[.val (.int p0), .val (.long q1), .second, .val (.long q2), .second, .val (.int (1 : Int32)), .val (.int (0 : Int32)), .val (.int (0 : Int32)), .val (.int z8), .val (.ref ob5), .val (.ref ob7), .val (.ref ob9), .val (.ref ob12), .val (.ref ob18), .val (.ref t14), .val (.ref ob12), .val (.int (1 : Int32))] [(.ref ob9)])) rfl (by rw [hml]; rfl) (Steps.refl _) (argsL := []) (rest := []) (lenOf pd_5 rfl) rfl (by show 2 * 0 + _ ≤ _; exact Nat.le_of_eq rfl) (hb hby at_348) (fun _ _ => ⟨rfl, hs122, (by decide : 5 + 0 ≤ _), (by decide : 40 + 0 ≤ _)⟩)
                  dsimp only [Pt.U, Pt.locs, Pt.cells, Pt.slots] at X123 l123 y123 z123 st123 hQ123
                  subst l123 y123 z123
                  obtain ⟨rfl, N123q, hs123⟩ := hQ123
                  have N123 := Fr.app N122 N123q
                  refine own_on st123 ?_
                  show own_G p e below Φ T123 (mkF m 351 #[.val (.int p0), .val (.long q1), .second, .val (.long q2), .second, .val (.int (1 : Int32)), .val (.int (0 : Int32)), .val (.int (0 : Int32)), .val (.int z8), .val (.ref ob5), .val (.ref ob7), .val (.ref ob9), .val (.ref ob12), .val (.ref ob18), .val (.ref t14), .val (.ref ob12), .val (.int (1 : Int32))] [(.long q2)])
                  refine own_go (fun _ => XS.lloadN X123.here hx rfl (hb hby at_351) rfl) ?_
                  show own_G p e below Φ T123 (mkF m 352 #[.val (.int p0), .val (.long q1), .second, .val (.long q2), .second, .val (.int (1 : Int32)), .val (.int (0 : Int32)), .val (.int (0 : Int32)), .val (.int z8), .val (.ref ob5), .val (.ref ob7), .val (.ref ob9), .val (.ref ob12), .val (.ref ob18), .val (.ref t14), .val (.ref ob12), .val (.int (1 : Int32))] [(.long q2), (.long q2)])
                  refine own_go (fun _ => XS.lcmp X123.here hx rfl (hb hby at_352) rfl) ?_
                  show own_G p e below Φ T123 (mkF m 353 #[.val (.int p0), .val (.long q1), .second, .val (.long q2), .second, .val (.int (1 : Int32)), .val (.int (0 : Int32)), .val (.int (0 : Int32)), .val (.int z8), .val (.ref ob5), .val (.ref ob7), .val (.ref ob9), .val (.ref ob12), .val (.ref ob18), .val (.ref t14), .val (.ref ob12), .val (.int (1 : Int32))] [(.int (lcmpW q2 q2))])
                  refine own_go (fun _ => XS.ifNo X123.here hx rfl (hb hby at_353) rfl (Jvm.Free.XT.ll_ne_f (rfl : q2 = q2))) ?_
                  show own_G p e below Φ T123 (mkF m 356 #[.val (.int p0), .val (.long q1), .second, .val (.long q2), .second, .val (.int (1 : Int32)), .val (.int (0 : Int32)), .val (.int (0 : Int32)), .val (.int z8), .val (.ref ob5), .val (.ref ob7), .val (.ref ob9), .val (.ref ob12), .val (.ref ob18), .val (.ref t14), .val (.ref ob12), .val (.int (1 : Int32))] [])
                  refine own_go (fun _ => XS.iconst X123.here hx rfl (hb hby at_356)) ?_
                  show own_G p e below Φ T123 (mkF m 357 #[.val (.int p0), .val (.long q1), .second, .val (.long q2), .second, .val (.int (1 : Int32)), .val (.int (0 : Int32)), .val (.int (0 : Int32)), .val (.int z8), .val (.ref ob5), .val (.ref ob7), .val (.ref ob9), .val (.ref ob12), .val (.ref ob18), .val (.ref t14), .val (.ref ob12), .val (.int (1 : Int32))] [(.int (1 : Int32))])
                  refine own_go (fun _ => XS.goto X123.here hx rfl (pc0 := 357) (pc' := 361) rfl (hb hby at_357) (by decide) (by decide)) ?_
                  show own_G p e below Φ T123 (mkF m 361 #[.val (.int p0), .val (.long q1), .second, .val (.long q2), .second, .val (.int (1 : Int32)), .val (.int (0 : Int32)), .val (.int (0 : Int32)), .val (.int z8), .val (.ref ob5), .val (.ref ob7), .val (.ref ob9), .val (.ref ob12), .val (.ref ob18), .val (.ref t14), .val (.ref ob12), .val (.int (1 : Int32))] [(.int (1 : Int32))])
                  refine own_go (fun _ => XS.istore X123.here hx rfl (hb hby at_361) rfl (l' := #[.val (.int p0), .val (.long q1), .second, .val (.long q2), .second, .val (.int (1 : Int32)), .val (.int (0 : Int32)), .val (.int (0 : Int32)), .val (.int z8), .val (.ref ob5), .val (.ref ob7), .val (.ref ob9), .val (.ref ob12), .val (.ref ob18), .val (.ref t14), .val (.ref ob12), .val (.int (1 : Int32))]) rfl) ?_
                  show own_G p e below Φ T123 (mkF m 363 #[.val (.int p0), .val (.long q1), .second, .val (.long q2), .second, .val (.int (1 : Int32)), .val (.int (0 : Int32)), .val (.int (0 : Int32)), .val (.int z8), .val (.ref ob5), .val (.ref ob7), .val (.ref ob9), .val (.ref ob12), .val (.ref ob18), .val (.ref t14), .val (.ref ob12), .val (.int (1 : Int32))] [])
                  refine own_go (fun _ => XS.iload X123.here hx rfl (hb hby at_363) rfl) ?_
                  show own_G p e below Φ T123 (mkF m 365 #[.val (.int p0), .val (.long q1), .second, .val (.long q2), .second, .val (.int (1 : Int32)), .val (.int (0 : Int32)), .val (.int (0 : Int32)), .val (.int z8), .val (.ref ob5), .val (.ref ob7), .val (.ref ob9), .val (.ref ob12), .val (.ref ob18), .val (.ref t14), .val (.ref ob12), .val (.int (1 : Int32))] [(.int (1 : Int32))])
                  rw [hΦ]
                  refine own_ret X123 (v := some (.int (1 : Int32))) (fun h => by rw [Bd.returns] at h; cases h) (BodyLoose.notSynchronized Bd) (fun fs hr => retN X123 hx (t := .boolean) Bd.returns (by simp) (hb hby at_365) hr) ?_ (by decide) (by decide)
                  rw [hs123]
                  exact ⟨rfl, N123⟩
              by_cases hc153 : z8 = (0 : Int32)
              · refine own_go (fun _ => XS.ifYes X25.here hx rfl (pc0 := 153) (pc' := 161) rfl (hb hby at_153) rfl (Jvm.Free.XT.i0_eq_t hc153) (by decide) (by decide)) ?_
                show own_G p e below Φ T25 (mkF m 161 #[.val (.int p0), .val (.long q1), .second, .val (.long q2), .second, .val (.int z5), .val (.int (0 : Int32)), .val (.int (0 : Int32)), .val (.int z8), .val (.ref ob5), .val (.ref ob7), .val (.ref ob9), .val (.ref ob12), .val (.ref ob18), .unset, .unset, .unset] [])
                refine own_go (fun _ => XS.aload X25.here hx rfl (hb hby at_161) rfl rfl) ?_
                exact hJ163_26 _ X25 rfl _ 
              · refine own_go (fun _ => XS.ifNo X25.here hx rfl (hb hby at_153) rfl (Jvm.Free.XT.i0_eq_f hc153)) ?_
                show own_G p e below Φ T25 (mkF m 156 #[.val (.int p0), .val (.long q1), .second, .val (.long q2), .second, .val (.int z5), .val (.int (0 : Int32)), .val (.int (0 : Int32)), .val (.int z8), .val (.ref ob5), .val (.ref ob7), .val (.ref ob9), .val (.ref ob12), .val (.ref ob18), .unset, .unset, .unset] [])
                refine own_go (fun _ => XS.aload X25.here hx rfl (hb hby at_156) rfl rfl) ?_
                show own_G p e below Φ T25 (mkF m 158 #[.val (.int p0), .val (.long q1), .second, .val (.long q2), .second, .val (.int z5), .val (.int (0 : Int32)), .val (.int (0 : Int32)), .val (.int z8), .val (.ref ob5), .val (.ref ob7), .val (.ref ob9), .val (.ref ob12), .val (.ref ob18), .unset, .unset, .unset] [(.ref ob5)])
                refine own_go (fun _ => XS.goto X25.here hx rfl (pc0 := 158) (pc' := 163) rfl (hb hby at_158) (by decide) (by decide)) ?_
                exact hJ163_26 _ X25 rfl _ 
            · show own_G p e below Φ T25 (mkF m 138 #[.val (.int p0), .val (.long q1), .second, .val (.long q2), .second, .val (.int z5), .val (.int (0 : Int32)), .val (.int (1 : Int32)), .val (.int z8), .val (.ref ob5), .val (.ref ob7), .val (.ref ob9), .val (.ref ob12), .val (.ref ob18), .unset, .unset, .unset] [])
              refine own_go (fun _ => XS.iload X25.here hx rfl (hb hby at_138) rfl) ?_
              show own_G p e below Φ T25 (mkF m 140 #[.val (.int p0), .val (.long q1), .second, .val (.long q2), .second, .val (.int z5), .val (.int (0 : Int32)), .val (.int (1 : Int32)), .val (.int z8), .val (.ref ob5), .val (.ref ob7), .val (.ref ob9), .val (.ref ob12), .val (.ref ob18), .unset, .unset, .unset] [(.int (1 : Int32))])
              refine own_go (fun _ => XS.ifNo X25.here hx rfl (hb hby at_140) rfl (Jvm.Free.XT.i0_eq_f (by decide : ¬ ((1 : Int32) = (0 : Int32))))) ?_
              show own_G p e below Φ T25 (mkF m 143 #[.val (.int p0), .val (.long q1), .second, .val (.long q2), .second, .val (.int z5), .val (.int (0 : Int32)), .val (.int (1 : Int32)), .val (.int z8), .val (.ref ob5), .val (.ref ob7), .val (.ref ob9), .val (.ref ob12), .val (.ref ob18), .unset, .unset, .unset] [])
              refine own_go (fun _ => XS.aload X25.here hx rfl (hb hby at_143) rfl rfl) ?_
              show own_G p e below Φ T25 (mkF m 145 #[.val (.int p0), .val (.long q1), .second, .val (.long q2), .second, .val (.int z5), .val (.int (0 : Int32)), .val (.int (1 : Int32)), .val (.int z8), .val (.ref ob5), .val (.ref ob7), .val (.ref ob9), .val (.ref ob12), .val (.ref ob18), .unset, .unset, .unset] [(.ref ob12)])
              refine own_go (fun _ => XS.aload X25.here hx rfl (hb hby at_145) rfl rfl) ?_
              show own_G p e below Φ T25 (mkF m 147 #[.val (.int p0), .val (.long q1), .second, .val (.long q2), .second, .val (.int z5), .val (.int (0 : Int32)), .val (.int (1 : Int32)), .val (.int z8), .val (.ref ob5), .val (.ref ob7), .val (.ref ob9), .val (.ref ob12), .val (.ref ob18), .unset, .unset, .unset] [(.ref ob5), (.ref ob12)])
              refine own_go (fun _ => XS.aconstNull X25.here hx rfl (hb hby at_147)) ?_
              show own_G p e below Φ T25 (mkF m 148 #[.val (.int p0), .val (.long q1), .second, .val (.long q2), .second, .val (.int z5), .val (.int (0 : Int32)), .val (.int (1 : Int32)), .val (.int z8), .val (.ref ob5), .val (.ref ob7), .val (.ref ob9), .val (.ref ob12), .val (.ref ob18), .unset, .unset, .unset] [.null, (.ref ob5), (.ref ob12)])
              have f124 : Exa Z h18 ob12 "corro/core/Order" := p17_0.ext E18
              have f125 : Exa Z T25.heap ob12 "corro/core/Order" := f124.keep Kq25
              have f126 : Fld Z h18 ob12 "corro/core/Order" "level" "Lcorro/core/Level;" .null := p17_1.ext E18
              have f127 : Fld Z T25.heap ob12 "corro/core/Order" "level" "Lcorro/core/Level;" .null := f126.keep Kq25 (ninS ne_ob12_ob18 nin0)
              have f128 : Fld Z h18 ob12 "corro/core/Order" "previous" "Lcorro/core/Order;" .null := p17_2.ext E18
              have f129 : Fld Z T25.heap ob12 "corro/core/Order" "previous" "Lcorro/core/Order;" .null := f128.keep Kq25 (ninS ne_ob12_ob18 nin0)
              have f130 : Fld Z h18 ob12 "corro/core/Order" "next" "Lcorro/core/Order;" .null := p17_3.ext E18
              have f131 : Fld Z T25.heap ob12 "corro/core/Order" "next" "Lcorro/core/Order;" .null := f130.keep Kq25 (ninS ne_ob12_ob18 nin0)
              have f132 : Fld Z h18 ob12 "corro/core/Order" "quantity" "J" (.long q1) := p17_4.ext E18
              have f133 : Fld Z T25.heap ob12 "corro/core/Order" "quantity" "J" (.long q1) := f132.keep Kq25 (ninS ne_ob12_ob18 nin0)
              have f134 : Fld Z h18 ob12 "corro/core/Order" "price" "J" (.long q2) := p17_5.ext E18
              have f135 : Fld Z T25.heap ob12 "corro/core/Order" "price" "J" (.long q2) := f134.keep Kq25 (ninS ne_ob12_ob18 nin0)
              obtain ⟨cq136, kq136, q136a, q136b, q136c⟩ := isOf hZ rfl f125
              obtain ⟨_, _, ⟨T136, zL136, zk136, zn136⟩, -, X136, ⟨Lc136, hQ136, l136, y136, z136⟩, st136⟩ := X25.virtualBack hx (y := (⟨"corro/core/Order", "join", "(Lcorro/core/Level;Lcorro/core/Order;)V"⟩ : MethodName)) (z := (⟨"corro/core/Order", "join", "(Lcorro/core/Level;Lcorro/core/Order;)V"⟩ : MethodName)) hown (mvT hZ (wd_28 hw)) (mvT hZ (wd_29 hw)) (notFace_of_selects (args := #[]) (mvT hZ (wd_31 hw))) (mvT hZ (wd_31 hw)) (mvT hZ (wd_30 hw)) (by decide) (backOf (W := 0) (rmJN l Z a0 hw [] ob12 ob5 .null .null .null q1 q2 T25.heap n0 Zp25 f125 f127 f129 f131 f133 f135 g_ob12) hZ (wd_32 hw) (wd_11 hw) (by decide) (by decide)) q136a q136c (g := (mkF m 148 #[.val (.int p0), .val (.long q1), .second, .val (.long q2), .second, .val (.int z5), .val (.int (0 : Int32)), .val (.int (1 : Int32)), .val (.int z8), .val (.ref ob5), .val (.ref ob7), .val (.ref ob9), .val (.ref ob12), .val (.ref ob18), .unset, .unset, .unset] [.null, (.ref ob5), (.ref ob12)])) rfl (by rw [hml]; rfl) (Steps.refl _) (argsL := [(.ref ob5), .null]) (rest := []) (lenOf pd_2 rfl) rfl (by show 2 * 0 + _ ≤ _; exact Nat.le_of_eq rfl) (hb hby at_148) (fun _ _ => ⟨rfl, rfl, (by decide : 5 + 0 ≤ _), (by decide : 40 + 0 ≤ _)⟩)
              dsimp only [Pt.U, Pt.locs, Pt.cells, Pt.slots] at X136 l136 y136 z136 st136 hQ136
              subst l136 y136 z136
              obtain ⟨rfl, N136q, Kq136, p136_0, p136_1, p136_2, p136_3, p136_4, p136_5⟩ := hQ136
              have N136 := Fr.app N25 N136q
              refine own_on st136 ?_
              have Zp136 : n0 ≤ T136.heap.size := Nat.le_trans Zp25 Kq136.1
              show own_G p e below Φ T136 (mkF m 151 #[.val (.int p0), .val (.long q1), .second, .val (.long q2), .second, .val (.int z5), .val (.int (0 : Int32)), .val (.int (1 : Int32)), .val (.int z8), .val (.ref ob5), .val (.ref ob7), .val (.ref ob9), .val (.ref ob12), .val (.ref ob18), .unset, .unset, .unset] [])
              refine own_go (fun _ => XS.iload X136.here hx rfl (hb hby at_151) rfl) ?_
              show own_G p e below Φ T136 (mkF m 153 #[.val (.int p0), .val (.long q1), .second, .val (.long q2), .second, .val (.int z5), .val (.int (0 : Int32)), .val (.int (1 : Int32)), .val (.int z8), .val (.ref ob5), .val (.ref ob7), .val (.ref ob9), .val (.ref ob12), .val (.ref ob18), .unset, .unset, .unset] [(.int z8)])
              have hJ163_137 : ∀ (T' : State), own_Al X136 T' → T'.heap = T136.heap → ∀ (t14 : Addr), own_G p e below Φ T' (mkF m 163 #[.val (.int p0), .val (.long q1), .second, .val (.long q2), .second, .val (.int z5), .val (.int (0 : Int32)), .val (.int (1 : Int32)), .val (.int z8), .val (.ref ob5), .val (.ref ob7), .val (.ref ob9), .val (.ref ob12), .val (.ref ob18), .unset, .unset, .unset] [(.ref t14)]) := by
                intro T137 X137' e137 t14
                have X137 : Stand _ _ _ _ _ _ _ _ _ _ T137 _ _ _ := X137'
                show own_G p e below Φ T137 (mkF m 163 #[.val (.int p0), .val (.long q1), .second, .val (.long q2), .second, .val (.int z5), .val (.int (0 : Int32)), .val (.int (1 : Int32)), .val (.int z8), .val (.ref ob5), .val (.ref ob7), .val (.ref ob9), .val (.ref ob12), .val (.ref ob18), .unset, .unset, .unset] [(.ref t14)])
                refine own_go (fun _ => XS.astore X137.here hx rfl (hb hby at_163) rfl rfl (l' := #[.val (.int p0), .val (.long q1), .second, .val (.long q2), .second, .val (.int z5), .val (.int (0 : Int32)), .val (.int (1 : Int32)), .val (.int z8), .val (.ref ob5), .val (.ref ob7), .val (.ref ob9), .val (.ref ob12), .val (.ref ob18), .val (.ref t14), .unset, .unset]) rfl) ?_
                show own_G p e below Φ T137 (mkF m 165 #[.val (.int p0), .val (.long q1), .second, .val (.long q2), .second, .val (.int z5), .val (.int (0 : Int32)), .val (.int (1 : Int32)), .val (.int z8), .val (.ref ob5), .val (.ref ob7), .val (.ref ob9), .val (.ref ob12), .val (.ref ob18), .val (.ref t14), .unset, .unset] [])
                rcases h_z5 with rfl | rfl
                · show own_G p e below Φ T137 (mkF m 165 #[.val (.int p0), .val (.long q1), .second, .val (.long q2), .second, .val (.int (0 : Int32)), .val (.int (0 : Int32)), .val (.int (1 : Int32)), .val (.int z8), .val (.ref ob5), .val (.ref ob7), .val (.ref ob9), .val (.ref ob12), .val (.ref ob18), .val (.ref t14), .unset, .unset] [])
                  refine own_go (fun _ => XS.iload X137.here hx rfl (hb hby at_165) rfl) ?_
                  show own_G p e below Φ T137 (mkF m 167 #[.val (.int p0), .val (.long q1), .second, .val (.long q2), .second, .val (.int (0 : Int32)), .val (.int (0 : Int32)), .val (.int (1 : Int32)), .val (.int z8), .val (.ref ob5), .val (.ref ob7), .val (.ref ob9), .val (.ref ob12), .val (.ref ob18), .val (.ref t14), .unset, .unset] [(.int (0 : Int32))])
                  refine own_go (fun _ => XS.ifYes X137.here hx rfl (pc0 := 167) (pc' := 175) rfl (hb hby at_167) rfl (Jvm.Free.XT.i0_eq_t (by decide : ((0 : Int32) = (0 : Int32)))) (by decide) (by decide)) ?_
                  show own_G p e below Φ T137 (mkF m 175 #[.val (.int p0), .val (.long q1), .second, .val (.long q2), .second, .val (.int (0 : Int32)), .val (.int (0 : Int32)), .val (.int (1 : Int32)), .val (.int z8), .val (.ref ob5), .val (.ref ob7), .val (.ref ob9), .val (.ref ob12), .val (.ref ob18), .val (.ref t14), .unset, .unset] [])
                  refine own_go (fun _ => XS.aconstNull X137.here hx rfl (hb hby at_175)) ?_
                  show own_G p e below Φ T137 (mkF m 176 #[.val (.int p0), .val (.long q1), .second, .val (.long q2), .second, .val (.int (0 : Int32)), .val (.int (0 : Int32)), .val (.int (1 : Int32)), .val (.int z8), .val (.ref ob5), .val (.ref ob7), .val (.ref ob9), .val (.ref ob12), .val (.ref ob18), .val (.ref t14), .unset, .unset] [.null])
                  refine own_go (fun _ => XS.astore X137.here hx rfl (hb hby at_176) rfl rfl (l' := #[.val (.int p0), .val (.long q1), .second, .val (.long q2), .second, .val (.int (0 : Int32)), .val (.int (0 : Int32)), .val (.int (1 : Int32)), .val (.int z8), .val (.ref ob5), .val (.ref ob7), .val (.ref ob9), .val (.ref ob12), .val (.ref ob18), .val (.ref t14), .val .null, .unset]) rfl) ?_
                  show own_G p e below Φ T137 (mkF m 178 #[.val (.int p0), .val (.long q1), .second, .val (.long q2), .second, .val (.int (0 : Int32)), .val (.int (0 : Int32)), .val (.int (1 : Int32)), .val (.int z8), .val (.ref ob5), .val (.ref ob7), .val (.ref ob9), .val (.ref ob12), .val (.ref ob18), .val (.ref t14), .val .null, .unset] [])
                  refine own_go (fun _ => XS.aload X137.here hx rfl (hb hby at_178) rfl rfl) ?_
                  show own_G p e below Φ T137 (mkF m 180 #[.val (.int p0), .val (.long q1), .second, .val (.long q2), .second, .val (.int (0 : Int32)), .val (.int (0 : Int32)), .val (.int (1 : Int32)), .val (.int z8), .val (.ref ob5), .val (.ref ob7), .val (.ref ob9), .val (.ref ob12), .val (.ref ob18), .val (.ref t14), .val .null, .unset] [(.ref ob9)])
                  refine own_go (fun _ => XS.aload X137.here hx rfl (hb hby at_180) rfl rfl) ?_
                  show own_G p e below Φ T137 (mkF m 182 #[.val (.int p0), .val (.long q1), .second, .val (.long q2), .second, .val (.int (0 : Int32)), .val (.int (0 : Int32)), .val (.int (1 : Int32)), .val (.int z8), .val (.ref ob5), .val (.ref ob7), .val (.ref ob9), .val (.ref ob12), .val (.ref ob18), .val (.ref t14), .val .null, .unset] [(.ref t14), (.ref ob9)])
                  refine own_go (fun _ => XS.aload X137.here hx rfl (hb hby at_182) rfl rfl) ?_
                  show own_G p e below Φ T137 (mkF m 184 #[.val (.int p0), .val (.long q1), .second, .val (.long q2), .second, .val (.int (0 : Int32)), .val (.int (0 : Int32)), .val (.int (1 : Int32)), .val (.int z8), .val (.ref ob5), .val (.ref ob7), .val (.ref ob9), .val (.ref ob12), .val (.ref ob18), .val (.ref t14), .val .null, .unset] [.null, (.ref t14), (.ref ob9)])
                  have f138 : Exa Z h18 ob9 "corro/core/Order" := f24.ext E18
                  have f139 : Exa Z T25.heap ob9 "corro/core/Order" := f138.keep Kq25
                  have f140 : Exa Z T136.heap ob9 "corro/core/Order" := f139.keep Kq136
                  have f141 : Fld Z h12 ob9 "corro/core/Order" "level" "Lcorro/core/Level;" .null := p11_1.ext E12
                  have f142 : Fld Z T17.heap ob9 "corro/core/Order" "level" "Lcorro/core/Level;" .null := f141.keep Kq17 (ninS ne_ob9_ob12 nin0)
                  have f143 : Fld Z h18 ob9 "corro/core/Order" "level" "Lcorro/core/Level;" .null := f142.ext E18
                  have f144 : Fld Z T25.heap ob9 "corro/core/Order" "level" "Lcorro/core/Level;" .null := f143.keep Kq25 (ninS ne_ob9_ob18 nin0)
                  have f145 : Fld Z T136.heap ob9 "corro/core/Order" "level" "Lcorro/core/Level;" .null := f144.keep Kq136 (ninS ne_ob9_ob12 nin0)
                  have f146 : Fld Z h12 ob9 "corro/core/Order" "previous" "Lcorro/core/Order;" .null := p11_2.ext E12
                  have f147 : Fld Z T17.heap ob9 "corro/core/Order" "previous" "Lcorro/core/Order;" .null := f146.keep Kq17 (ninS ne_ob9_ob12 nin0)
                  have f148 : Fld Z h18 ob9 "corro/core/Order" "previous" "Lcorro/core/Order;" .null := f147.ext E18
                  have f149 : Fld Z T25.heap ob9 "corro/core/Order" "previous" "Lcorro/core/Order;" .null := f148.keep Kq25 (ninS ne_ob9_ob18 nin0)
                  have f150 : Fld Z T136.heap ob9 "corro/core/Order" "previous" "Lcorro/core/Order;" .null := f149.keep Kq136 (ninS ne_ob9_ob12 nin0)
                  have f151 : Fld Z h12 ob9 "corro/core/Order" "next" "Lcorro/core/Order;" .null := p11_3.ext E12
                  have f152 : Fld Z T17.heap ob9 "corro/core/Order" "next" "Lcorro/core/Order;" .null := f151.keep Kq17 (ninS ne_ob9_ob12 nin0)
                  have f153 : Fld Z h18 ob9 "corro/core/Order" "next" "Lcorro/core/Order;" .null := f152.ext E18
                  have f154 : Fld Z T25.heap ob9 "corro/core/Order" "next" "Lcorro/core/Order;" .null := f153.keep Kq25 (ninS ne_ob9_ob18 nin0)
                  have f155 : Fld Z T136.heap ob9 "corro/core/Order" "next" "Lcorro/core/Order;" .null := f154.keep Kq136 (ninS ne_ob9_ob12 nin0)
                  have f156 : Fld Z h12 ob9 "corro/core/Order" "quantity" "J" (.long q1) := p11_4.ext E12
                  have f157 : Fld Z T17.heap ob9 "corro/core/Order" "quantity" "J" (.long q1) := f156.keep Kq17 (ninS ne_ob9_ob12 nin0)
                  have f158 : Fld Z h18 ob9 "corro/core/Order" "quantity" "J" (.long q1) := f157.ext E18
                  have f159 : Fld Z T25.heap ob9 "corro/core/Order" "quantity" "J" (.long q1) := f158.keep Kq25 (ninS ne_ob9_ob18 nin0)
                  have f160 : Fld Z T136.heap ob9 "corro/core/Order" "quantity" "J" (.long q1) := f159.keep Kq136 (ninS ne_ob9_ob12 nin0)
                  have f161 : Fld Z h12 ob9 "corro/core/Order" "price" "J" (.long q2) := p11_5.ext E12
                  have f162 : Fld Z T17.heap ob9 "corro/core/Order" "price" "J" (.long q2) := f161.keep Kq17 (ninS ne_ob9_ob12 nin0)
                  have f163 : Fld Z h18 ob9 "corro/core/Order" "price" "J" (.long q2) := f162.ext E18
                  have f164 : Fld Z T25.heap ob9 "corro/core/Order" "price" "J" (.long q2) := f163.keep Kq25 (ninS ne_ob9_ob18 nin0)
                  have f165 : Fld Z T136.heap ob9 "corro/core/Order" "price" "J" (.long q2) := f164.keep Kq136 (ninS ne_ob9_ob12 nin0)
                  obtain ⟨cq166, kq166, q166a, q166b, q166c⟩ := isOf hZ e137 f140
                  obtain ⟨_, _, ⟨T166, zL166, zk166, zn166⟩, -, X166, ⟨Lc166, hQ166, l166, y166, z166⟩, st166⟩ := X137.virtualBack hx (y := (⟨"corro/core/Order", "join", "(Lcorro/core/Level;Lcorro/core/Order;)V"⟩ : MethodName)) (z := (⟨"corro/core/Order", "join", "(Lcorro/core/Level;Lcorro/core/Order;)V"⟩ : MethodName)) hown (mvT hZ (wd_28 hw)) (mvT hZ (wd_29 hw)) (notFace_of_selects (args := #[]) (mvT hZ (wd_31 hw))) (mvT hZ (wd_31 hw)) (mvT hZ (wd_30 hw)) (by decide) (backOf (W := 0) (rmJN l Z a0 hw [] ob9 t14 .null .null .null q1 q2 T136.heap n0 Zp136 f140 f145 f150 f155 f160 f165 g_ob9) hZ (wd_32 hw) (wd_11 hw) (by decide) (by decide)) q166a q166c (g := (mkF m 184 #[.val (.int p0), .val (.long q1), .second, .val (.long q2), .second, .val (.int (0 : Int32)), .val (.int (0 : Int32)), .val (.int (1 : Int32)), .val (.int z8), .val (.ref ob5), .val (.ref ob7), .val (.ref ob9), .val (.ref ob12), .val (.ref ob18), .val (.ref t14), .val .null, .unset] [.null, (.ref t14), (.ref ob9)])) rfl (by rw [hml]; rfl) (Steps.refl _) (argsL := [(.ref t14), .null]) (rest := []) (lenOf pd_2 rfl) rfl (by show 2 * 0 + _ ≤ _; exact Nat.le_of_eq rfl) (hb hby at_184) (fun _ _ => ⟨rfl, e137, (by decide : 5 + 0 ≤ _), (by decide : 40 + 0 ≤ _)⟩)
                  dsimp only [Pt.U, Pt.locs, Pt.cells, Pt.slots] at X166 l166 y166 z166 st166 hQ166
                  subst l166 y166 z166
                  obtain ⟨rfl, N166q, Kq166, p166_0, p166_1, p166_2, p166_3, p166_4, p166_5⟩ := hQ166
                  have N166 := Fr.app N136 N166q
                  refine own_on st166 ?_
                  have Zp166 : n0 ≤ T166.heap.size := Nat.le_trans Zp136 Kq166.1
                  show own_G p e below Φ T166 (mkF m 187 #[.val (.int p0), .val (.long q1), .second, .val (.long q2), .second, .val (.int (0 : Int32)), .val (.int (0 : Int32)), .val (.int (1 : Int32)), .val (.int z8), .val (.ref ob5), .val (.ref ob7), .val (.ref ob9), .val (.ref ob12), .val (.ref ob18), .val (.ref t14), .val .null, .unset] [])
                  refine own_go (fun _ => XS.aload X166.here hx rfl (hb hby at_187) rfl rfl) ?_
                  show own_G p e below Φ T166 (mkF m 189 #[.val (.int p0), .val (.long q1), .second, .val (.long q2), .second, .val (.int (0 : Int32)), .val (.int (0 : Int32)), .val (.int (1 : Int32)), .val (.int z8), .val (.ref ob5), .val (.ref ob7), .val (.ref ob9), .val (.ref ob12), .val (.ref ob18), .val (.ref t14), .val .null, .unset] [(.ref ob9)])
                  obtain ⟨cq167, kq167, q167a, q167b, q167c⟩ := isOf hZ rfl p166_0
                  obtain ⟨_, _, ⟨T167, zL167, zk167, zn167⟩, -, X167, ⟨Lc167, hQ167, l167, y167, z167⟩, st167⟩ := X166.virtualBack hx (y := (⟨"corro/core/Order", "level", "()Lcorro/core/Level;"⟩ : MethodName)) (z := (⟨"corro/core/Order", "level", "()Lcorro/core/Level;"⟩ : MethodName)) hown (mvT hZ (wd_39 hw)) (mvT hZ (wd_40 hw)) (notFace_of_selects (args := #[]) (mvT hZ (wd_42 hw))) (mvT hZ (wd_42 hw)) (mvT hZ (wd_41 hw)) (by decide) (backOf (W := 0) (rmGlevel l Z a0 hw [] ob9 (.ref t14) T166.heap n0 Zp166 p166_1 rfl) hZ (wd_43 hw) (wd_11 hw) (by decide) (by decide)) q167a q167c (g := (mkF m 189 #[.val (.int p0), .val (.long q1), .second, .val (.long q2), .second, .val (.int (0 : Int32)), .val (.int (0 : Int32)), .val (.int (1 : Int32)), .val (.int z8), .val (.ref ob5), .val (.ref ob7), .val (.ref ob9), .val (.ref ob12), .val (.ref ob18), .val (.ref t14), .val .null, .unset] [(.ref ob9)])) rfl (by rw [hml]; rfl) (Steps.refl _) (argsL := []) (rest := []) (lenOf pd_3 rfl) rfl (by show 2 * 0 + _ ≤ _; exact Nat.le_of_eq rfl) (hb hby at_189) (fun _ _ => ⟨rfl, rfl, (by decide : 5 + 0 ≤ _), (by decide : 40 + 0 ≤ _)⟩)
                  dsimp only [Pt.U, Pt.locs, Pt.cells, Pt.slots] at X167 l167 y167 z167 st167 hQ167
                  subst l167 y167 z167
                  obtain ⟨rfl, N167q, hs167⟩ := hQ167
                  have N167 := Fr.app N166 N167q
                  refine own_on st167 ?_
                  show own_G p e below Φ T167 (mkF m 192 #[.val (.int p0), .val (.long q1), .second, .val (.long q2), .second, .val (.int (0 : Int32)), .val (.int (0 : Int32)), .val (.int (1 : Int32)), .val (.int z8), .val (.ref ob5), .val (.ref ob7), .val (.ref ob9), .val (.ref ob12), .val (.ref ob18), .val (.ref t14), .val .null, .unset] [(.ref t14)])
                  refine own_go (fun _ => XS.aload X167.here hx rfl (hb hby at_192) rfl rfl) ?_
                  show own_G p e below Φ T167 (mkF m 194 #[.val (.int p0), .val (.long q1), .second, .val (.long q2), .second, .val (.int (0 : Int32)), .val (.int (0 : Int32)), .val (.int (1 : Int32)), .val (.int z8), .val (.ref ob5), .val (.ref ob7), .val (.ref ob9), .val (.ref ob12), .val (.ref ob18), .val (.ref t14), .val .null, .unset] [(.ref t14), (.ref t14)])
                  refine own_go (fun _ => Jvm.RoadKit.acmp (g := (mkF m 194 #[.val (.int p0), .val (.long q1), .second, .val (.long q2), .second, .val (.int (0 : Int32)), .val (.int (0 : Int32)), .val (.int (1 : Int32)), .val (.int z8), .val (.ref ob5), .val (.ref ob7), .val (.ref ob9), .val (.ref ob12), .val (.ref ob18), .val (.ref t14), .val .null, .unset] [(.ref t14), (.ref t14)])) X167 hx rfl rfl rfl (pc0 := 194) (pc' := 197) (same := true) rfl (hb hby at_194) rfl (decide_eq_true rfl) (by decide) (by decide)) ?_
                  show own_G p e below Φ T167 (mkF m 197 #[.val (.int p0), .val (.long q1), .second, .val (.long q2), .second, .val (.int (0 : Int32)), .val (.int (0 : Int32)), .val (.int (1 : Int32)), .val (.int z8), .val (.ref ob5), .val (.ref ob7), .val (.ref ob9), .val (.ref ob12), .val (.ref ob18), .val (.ref t14), .val .null, .unset] [])
                  refine own_go (fun _ => XS.aload X167.here hx rfl (hb hby at_197) rfl rfl) ?_
                  show own_G p e below Φ T167 (mkF m 199 #[.val (.int p0), .val (.long q1), .second, .val (.long q2), .second, .val (.int (0 : Int32)), .val (.int (0 : Int32)), .val (.int (1 : Int32)), .val (.int z8), .val (.ref ob5), .val (.ref ob7), .val (.ref ob9), .val (.ref ob12), .val (.ref ob18), .val (.ref t14), .val .null, .unset] [(.ref ob9)])
                  obtain ⟨cq168, kq168, q168a, q168b, q168c⟩ := isOf hZ hs167 p166_0
                  obtain ⟨_, _, ⟨T168, zL168, zk168, zn168⟩, -, X168, ⟨Lc168, hQ168, l168, y168, z168⟩, st168⟩ := X167.virtualBack hx (y := (⟨"corro/core/Order", "previous", "()Lcorro/core/Order;"⟩ : MethodName)) (z := (⟨"corro/core/Order", "previous", "()Lcorro/core/Order;"⟩ : MethodName)) hown (mvT hZ (wd_44 hw)) (mvT hZ (wd_45 hw)) (notFace_of_selects (args := #[]) (mvT hZ (wd_47 hw))) (mvT hZ (wd_47 hw)) (mvT hZ (wd_46 hw)) (by decide) (backOf (W := 0) (rmGprevious l Z a0 hw [] ob9 .null T166.heap n0 Zp166 p166_2 rfl) hZ (wd_48 hw) (wd_11 hw) (by decide) (by decide)) q168a q168c (g := (mkF m 199 #[.val (.int p0), .val (.long q1), .second, .val (.long q2), .second, .val (.int (0 : Int32)), .val (.int (0 : Int32)), .val (.int (1 : Int32)), .val (.int z8), .val (.ref ob5), .val (.ref ob7), .val (.ref ob9), .val (.ref ob12), .val (.ref ob18), .val (.ref t14), .val .null, .unset] [(.ref ob9)])) rfl (by rw [hml]; rfl) (Steps.refl _) (argsL := []) (rest := []) (lenOf pd_4 rfl) rfl (by show 2 * 0 + _ ≤ _; exact Nat.le_of_eq rfl) (hb hby at_199) (fun _ _ => ⟨rfl, hs167, (by decide : 5 + 0 ≤ _), (by decide : 40 + 0 ≤ _)⟩)
                  dsimp only [Pt.U, Pt.locs, Pt.cells, Pt.slots] at X168 l168 y168 z168 st168 hQ168
                  subst l168 y168 z168
                  obtain ⟨rfl, N168q, hs168⟩ := hQ168
                  have N168 := Fr.app N167 N168q
                  refine own_on st168 ?_
                  show own_G p e below Φ T168 (mkF m 202 #[.val (.int p0), .val (.long q1), .second, .val (.long q2), .second, .val (.int (0 : Int32)), .val (.int (0 : Int32)), .val (.int (1 : Int32)), .val (.int z8), .val (.ref ob5), .val (.ref ob7), .val (.ref ob9), .val (.ref ob12), .val (.ref ob18), .val (.ref t14), .val .null, .unset] [.null])
                  refine own_go (fun _ => XS.aload X168.here hx rfl (hb hby at_202) rfl rfl) ?_
                  show own_G p e below Φ T168 (mkF m 204 #[.val (.int p0), .val (.long q1), .second, .val (.long q2), .second, .val (.int (0 : Int32)), .val (.int (0 : Int32)), .val (.int (1 : Int32)), .val (.int z8), .val (.ref ob5), .val (.ref ob7), .val (.ref ob9), .val (.ref ob12), .val (.ref ob18), .val (.ref t14), .val .null, .unset] [.null, .null])
                  refine own_go (fun _ => Jvm.RoadKit.acmp (g := (mkF m 204 #[.val (.int p0), .val (.long q1), .second, .val (.long q2), .second, .val (.int (0 : Int32)), .val (.int (0 : Int32)), .val (.int (1 : Int32)), .val (.int z8), .val (.ref ob5), .val (.ref ob7), .val (.ref ob9), .val (.ref ob12), .val (.ref ob18), .val (.ref t14), .val .null, .unset] [.null, .null])) X168 hx rfl rfl rfl (pc0 := 204) (pc' := 207) (same := true) rfl (hb hby at_204) rfl (decide_eq_true rfl) (by decide) (by decide)) ?_
                  show own_G p e below Φ T168 (mkF m 207 #[.val (.int p0), .val (.long q1), .second, .val (.long q2), .second, .val (.int (0 : Int32)), .val (.int (0 : Int32)), .val (.int (1 : Int32)), .val (.int z8), .val (.ref ob5), .val (.ref ob7), .val (.ref ob9), .val (.ref ob12), .val (.ref ob18), .val (.ref t14), .val .null, .unset] [])
                  refine own_go (fun _ => XS.aload X168.here hx rfl (hb hby at_207) rfl rfl) ?_
                  show own_G p e below Φ T168 (mkF m 209 #[.val (.int p0), .val (.long q1), .second, .val (.long q2), .second, .val (.int (0 : Int32)), .val (.int (0 : Int32)), .val (.int (1 : Int32)), .val (.int z8), .val (.ref ob5), .val (.ref ob7), .val (.ref ob9), .val (.ref ob12), .val (.ref ob18), .val (.ref t14), .val .null, .unset] [(.ref ob9)])
                  obtain ⟨cq169, kq169, q169a, q169b, q169c⟩ := isOf hZ hs168 p166_0
                  obtain ⟨_, _, ⟨T169, zL169, zk169, zn169⟩, -, X169, ⟨Lc169, hQ169, l169, y169, z169⟩, st169⟩ := X168.virtualBack hx (y := (⟨"corro/core/Order", "next", "()Lcorro/core/Order;"⟩ : MethodName)) (z := (⟨"corro/core/Order", "next", "()Lcorro/core/Order;"⟩ : MethodName)) hown (mvT hZ (wd_49 hw)) (mvT hZ (wd_50 hw)) (notFace_of_selects (args := #[]) (mvT hZ (wd_52 hw))) (mvT hZ (wd_52 hw)) (mvT hZ (wd_51 hw)) (by decide) (backOf (W := 0) (rmGnext l Z a0 hw [] ob9 .null T166.heap n0 Zp166 p166_3 rfl) hZ (wd_53 hw) (wd_11 hw) (by decide) (by decide)) q169a q169c (g := (mkF m 209 #[.val (.int p0), .val (.long q1), .second, .val (.long q2), .second, .val (.int (0 : Int32)), .val (.int (0 : Int32)), .val (.int (1 : Int32)), .val (.int z8), .val (.ref ob5), .val (.ref ob7), .val (.ref ob9), .val (.ref ob12), .val (.ref ob18), .val (.ref t14), .val .null, .unset] [(.ref ob9)])) rfl (by rw [hml]; rfl) (Steps.refl _) (argsL := []) (rest := []) (lenOf pd_4 rfl) rfl (by show 2 * 0 + _ ≤ _; exact Nat.le_of_eq rfl) (hb hby at_209) (fun _ _ => ⟨rfl, hs168, (by decide : 5 + 0 ≤ _), (by decide : 40 + 0 ≤ _)⟩)
                  dsimp only [Pt.U, Pt.locs, Pt.cells, Pt.slots] at X169 l169 y169 z169 st169 hQ169
                  subst l169 y169 z169
                  obtain ⟨rfl, N169q, hs169⟩ := hQ169
                  have N169 := Fr.app N168 N169q
                  refine own_on st169 ?_
                  show own_G p e below Φ T169 (mkF m 212 #[.val (.int p0), .val (.long q1), .second, .val (.long q2), .second, .val (.int (0 : Int32)), .val (.int (0 : Int32)), .val (.int (1 : Int32)), .val (.int z8), .val (.ref ob5), .val (.ref ob7), .val (.ref ob9), .val (.ref ob12), .val (.ref ob18), .val (.ref t14), .val .null, .unset] [.null])
                  refine own_go (fun _ => XS.ifnonnullNo X169.here hx rfl (hb hby at_212) rfl) ?_
                  show own_G p e below Φ T169 (mkF m 215 #[.val (.int p0), .val (.long q1), .second, .val (.long q2), .second, .val (.int (0 : Int32)), .val (.int (0 : Int32)), .val (.int (1 : Int32)), .val (.int z8), .val (.ref ob5), .val (.ref ob7), .val (.ref ob9), .val (.ref ob12), .val (.ref ob18), .val (.ref t14), .val .null, .unset] [])
                  refine own_go (fun _ => XS.iconst X169.here hx rfl (hb hby at_215)) ?_
                  show own_G p e below Φ T169 (mkF m 216 #[.val (.int p0), .val (.long q1), .second, .val (.long q2), .second, .val (.int (0 : Int32)), .val (.int (0 : Int32)), .val (.int (1 : Int32)), .val (.int z8), .val (.ref ob5), .val (.ref ob7), .val (.ref ob9), .val (.ref ob12), .val (.ref ob18), .val (.ref t14), .val .null, .unset] [(.int (1 : Int32))])
                  refine own_go (fun _ => XS.goto X169.here hx rfl (pc0 := 216) (pc' := 220) rfl (hb hby at_216) (by decide) (by decide)) ?_
                  show own_G p e below Φ T169 (mkF m 220 #[.val (.int p0), .val (.long q1), .second, .val (.long q2), .second, .val (.int (0 : Int32)), .val (.int (0 : Int32)), .val (.int (1 : Int32)), .val (.int z8), .val (.ref ob5), .val (.ref ob7), .val (.ref ob9), .val (.ref ob12), .val (.ref ob18), .val (.ref t14), .val .null, .unset] [(.int (1 : Int32))])
                  refine own_go (fun _ => XS.istore X169.here hx rfl (hb hby at_220) rfl (l' := #[.val (.int p0), .val (.long q1), .second, .val (.long q2), .second, .val (.int (0 : Int32)), .val (.int (0 : Int32)), .val (.int (1 : Int32)), .val (.int z8), .val (.ref ob5), .val (.ref ob7), .val (.ref ob9), .val (.ref ob12), .val (.ref ob18), .val (.ref t14), .val .null, .val (.int (1 : Int32))]) rfl) ?_
                  show own_G p e below Φ T169 (mkF m 222 #[.val (.int p0), .val (.long q1), .second, .val (.long q2), .second, .val (.int (0 : Int32)), .val (.int (0 : Int32)), .val (.int (1 : Int32)), .val (.int z8), .val (.ref ob5), .val (.ref ob7), .val (.ref ob9), .val (.ref ob12), .val (.ref ob18), .val (.ref t14), .val .null, .val (.int (1 : Int32))] [])
                  refine own_go (fun _ => XS.iload X169.here hx rfl (hb hby at_222) rfl) ?_
                  show own_G p e below Φ T169 (mkF m 224 #[.val (.int p0), .val (.long q1), .second, .val (.long q2), .second, .val (.int (0 : Int32)), .val (.int (0 : Int32)), .val (.int (1 : Int32)), .val (.int z8), .val (.ref ob5), .val (.ref ob7), .val (.ref ob9), .val (.ref ob12), .val (.ref ob18), .val (.ref t14), .val .null, .val (.int (1 : Int32))] [(.int (1 : Int32))])
                  refine own_go (fun _ => XS.ifNo X169.here hx rfl (hb hby at_224) rfl (Jvm.Free.XT.i0_eq_f (by decide : ¬ ((1 : Int32) = (0 : Int32))))) ?_
                  show own_G p e below Φ T169 (mkF m 227 #[.val (.int p0), .val (.long q1), .second, .val (.long q2), .second, .val (.int (0 : Int32)), .val (.int (0 : Int32)), .val (.int (1 : Int32)), .val (.int z8), .val (.ref ob5), .val (.ref ob7), .val (.ref ob9), .val (.ref ob12), .val (.ref ob18), .val (.ref t14), .val .null, .val (.int (1 : Int32))] [])
                  refine own_go (fun _ => XS.aload X169.here hx rfl (hb hby at_227) rfl rfl) ?_
                  show own_G p e below Φ T169 (mkF m 229 #[.val (.int p0), .val (.long q1), .second, .val (.long q2), .second, .val (.int (0 : Int32)), .val (.int (0 : Int32)), .val (.int (1 : Int32)), .val (.int z8), .val (.ref ob5), .val (.ref ob7), .val (.ref ob9), .val (.ref ob12), .val (.ref ob18), .val (.ref t14), .val .null, .val (.int (1 : Int32))] [(.ref ob12)])
                  have f170 : Fld Z T166.heap ob12 "corro/core/Order" "next" "Lcorro/core/Order;" .null := p136_3.keep Kq166 (ninS (Ne.symm ne_ob9_ob12) nin0)
                  have f172 : Exa Z T166.heap ob12 "corro/core/Order" := p136_0.keep Kq166
                  obtain ⟨cq171, kq171, q171a, q171b, q171c⟩ := isOf hZ hs169 f172
                  obtain ⟨_, _, ⟨T171, zL171, zk171, zn171⟩, -, X171, ⟨Lc171, hQ171, l171, y171, z171⟩, st171⟩ := X169.virtualBack hx (y := (⟨"corro/core/Order", "next", "()Lcorro/core/Order;"⟩ : MethodName)) (z := (⟨"corro/core/Order", "next", "()Lcorro/core/Order;"⟩ : MethodName)) hown (mvT hZ (wd_49 hw)) (mvT hZ (wd_50 hw)) (notFace_of_selects (args := #[]) (mvT hZ (wd_52 hw))) (mvT hZ (wd_52 hw)) (mvT hZ (wd_51 hw)) (by decide) (backOf (W := 0) (rmGnext l Z a0 hw [] ob12 .null T166.heap n0 Zp166 f170 rfl) hZ (wd_53 hw) (wd_11 hw) (by decide) (by decide)) q171a q171c (g := (mkF m 229 #[.val (.int p0), .val (.long q1), .second, .val (.long q2), .second, .val (.int (0 : Int32)), .val (.int (0 : Int32)), .val (.int (1 : Int32)), .val (.int z8), .val (.ref ob5), .val (.ref ob7), .val (.ref ob9), .val (.ref ob12), .val (.ref ob18), .val (.ref t14), .val .null, .val (.int (1 : Int32))] [(.ref ob12)])) rfl (by rw [hml]; rfl) (Steps.refl _) (argsL := []) (rest := []) (lenOf pd_4 rfl) rfl (by show 2 * 0 + _ ≤ _; exact Nat.le_of_eq rfl) (hb hby at_229) (fun _ _ => ⟨rfl, hs169, (by decide : 5 + 0 ≤ _), (by decide : 40 + 0 ≤ _)⟩)
                  dsimp only [Pt.U, Pt.locs, Pt.cells, Pt.slots] at X171 l171 y171 z171 st171 hQ171
                  subst l171 y171 z171
                  obtain ⟨rfl, N171q, hs171⟩ := hQ171
                  have N171 := Fr.app N169 N171q
                  refine own_on st171 ?_
                  show own_G p e below Φ T171 (mkF m 232 #[.val (.int p0), .val (.long q1), .second, .val (.long q2), .second, .val (.int (0 : Int32)), .val (.int (0 : Int32)), .val (.int (1 : Int32)), .val (.int z8), .val (.ref ob5), .val (.ref ob7), .val (.ref ob9), .val (.ref ob12), .val (.ref ob18), .val (.ref t14), .val .null, .val (.int (1 : Int32))] [.null])
                  refine own_go (fun _ => XS.iload X171.here hx rfl (hb hby at_232) rfl) ?_
                  show own_G p e below Φ T171 (mkF m 234 #[.val (.int p0), .val (.long q1), .second, .val (.long q2), .second, .val (.int (0 : Int32)), .val (.int (0 : Int32)), .val (.int (1 : Int32)), .val (.int z8), .val (.ref ob5), .val (.ref ob7), .val (.ref ob9), .val (.ref ob12), .val (.ref ob18), .val (.ref t14), .val .null, .val (.int (1 : Int32))] [(.int (0 : Int32)), .null])
                  refine own_go (fun _ => XS.ifYes X171.here hx rfl (pc0 := 234) (pc' := 242) rfl (hb hby at_234) rfl (Jvm.Free.XT.i0_eq_t (by decide : ((0 : Int32) = (0 : Int32)))) (by decide) (by decide)) ?_
                  show own_G p e below Φ T171 (mkF m 242 #[.val (.int p0), .val (.long q1), .second, .val (.long q2), .second, .val (.int (0 : Int32)), .val (.int (0 : Int32)), .val (.int (1 : Int32)), .val (.int z8), .val (.ref ob5), .val (.ref ob7), .val (.ref ob9), .val (.ref ob12), .val (.ref ob18), .val (.ref t14), .val .null, .val (.int (1 : Int32))] [.null])
                  refine own_go (fun _ => XS.aconstNull X171.here hx rfl (hb hby at_242)) ?_
                  show own_G p e below Φ T171 (mkF m 243 #[.val (.int p0), .val (.long q1), .second, .val (.long q2), .second, .val (.int (0 : Int32)), .val (.int (0 : Int32)), .val (.int (1 : Int32)), .val (.int z8), .val (.ref ob5), .val (.ref ob7), .val (.ref ob9), .val (.ref ob12), .val (.ref ob18), .val (.ref t14), .val .null, .val (.int (1 : Int32))] [.null, .null])
                  refine own_go (fun _ => Jvm.RoadKit.acmp (g := (mkF m 243 #[.val (.int p0), .val (.long q1), .second, .val (.long q2), .second, .val (.int (0 : Int32)), .val (.int (0 : Int32)), .val (.int (1 : Int32)), .val (.int z8), .val (.ref ob5), .val (.ref ob7), .val (.ref ob9), .val (.ref ob12), .val (.ref ob18), .val (.ref t14), .val .null, .val (.int (1 : Int32))] [.null, .null])) X171 hx rfl rfl rfl (pc0 := 243) (pc' := 246) (same := true) rfl (hb hby at_243) rfl (decide_eq_true rfl) (by decide) (by decide)) ?_
                  show own_G p e below Φ T171 (mkF m 246 #[.val (.int p0), .val (.long q1), .second, .val (.long q2), .second, .val (.int (0 : Int32)), .val (.int (0 : Int32)), .val (.int (1 : Int32)), .val (.int z8), .val (.ref ob5), .val (.ref ob7), .val (.ref ob9), .val (.ref ob12), .val (.ref ob18), .val (.ref t14), .val .null, .val (.int (1 : Int32))] [])
                  refine own_go (fun _ => XS.iconst X171.here hx rfl (hb hby at_246)) ?_
                  show own_G p e below Φ T171 (mkF m 247 #[.val (.int p0), .val (.long q1), .second, .val (.long q2), .second, .val (.int (0 : Int32)), .val (.int (0 : Int32)), .val (.int (1 : Int32)), .val (.int z8), .val (.ref ob5), .val (.ref ob7), .val (.ref ob9), .val (.ref ob12), .val (.ref ob18), .val (.ref t14), .val .null, .val (.int (1 : Int32))] [(.int (1 : Int32))])
                  refine own_go (fun _ => XS.goto X171.here hx rfl (pc0 := 247) (pc' := 251) rfl (hb hby at_247) (by decide) (by decide)) ?_
                  show own_G p e below Φ T171 (mkF m 251 #[.val (.int p0), .val (.long q1), .second, .val (.long q2), .second, .val (.int (0 : Int32)), .val (.int (0 : Int32)), .val (.int (1 : Int32)), .val (.int z8), .val (.ref ob5), .val (.ref ob7), .val (.ref ob9), .val (.ref ob12), .val (.ref ob18), .val (.ref t14), .val .null, .val (.int (1 : Int32))] [(.int (1 : Int32))])
                  refine own_go (fun _ => XS.istore X171.here hx rfl (hb hby at_251) rfl (l' := #[.val (.int p0), .val (.long q1), .second, .val (.long q2), .second, .val (.int (0 : Int32)), .val (.int (0 : Int32)), .val (.int (1 : Int32)), .val (.int z8), .val (.ref ob5), .val (.ref ob7), .val (.ref ob9), .val (.ref ob12), .val (.ref ob18), .val (.ref t14), .val .null, .val (.int (1 : Int32))]) rfl) ?_
                  show own_G p e below Φ T171 (mkF m 253 #[.val (.int p0), .val (.long q1), .second, .val (.long q2), .second, .val (.int (0 : Int32)), .val (.int (0 : Int32)), .val (.int (1 : Int32)), .val (.int z8), .val (.ref ob5), .val (.ref ob7), .val (.ref ob9), .val (.ref ob12), .val (.ref ob18), .val (.ref t14), .val .null, .val (.int (1 : Int32))] [])
                  refine own_go (fun _ => XS.iload X171.here hx rfl (hb hby at_253) rfl) ?_
                  show own_G p e below Φ T171 (mkF m 255 #[.val (.int p0), .val (.long q1), .second, .val (.long q2), .second, .val (.int (0 : Int32)), .val (.int (0 : Int32)), .val (.int (1 : Int32)), .val (.int z8), .val (.ref ob5), .val (.ref ob7), .val (.ref ob9), .val (.ref ob12), .val (.ref ob18), .val (.ref t14), .val .null, .val (.int (1 : Int32))] [(.int (1 : Int32))])
                  refine own_go (fun _ => XS.ifNo X171.here hx rfl (hb hby at_255) rfl (Jvm.Free.XT.i0_eq_f (by decide : ¬ ((1 : Int32) = (0 : Int32))))) ?_
                  show own_G p e below Φ T171 (mkF m 258 #[.val (.int p0), .val (.long q1), .second, .val (.long q2), .second, .val (.int (0 : Int32)), .val (.int (0 : Int32)), .val (.int (1 : Int32)), .val (.int z8), .val (.ref ob5), .val (.ref ob7), .val (.ref ob9), .val (.ref ob12), .val (.ref ob18), .val (.ref t14), .val .null, .val (.int (1 : Int32))] [])
                  refine own_go (fun _ => XS.aload X171.here hx rfl (hb hby at_258) rfl rfl) ?_
                  show own_G p e below Φ T171 (mkF m 260 #[.val (.int p0), .val (.long q1), .second, .val (.long q2), .second, .val (.int (0 : Int32)), .val (.int (0 : Int32)), .val (.int (1 : Int32)), .val (.int z8), .val (.ref ob5), .val (.ref ob7), .val (.ref ob9), .val (.ref ob12), .val (.ref ob18), .val (.ref t14), .val .null, .val (.int (1 : Int32))] [(.ref ob12)])
                  have f173 : Fld Z T166.heap ob12 "corro/core/Order" "previous" "Lcorro/core/Order;" .null := p136_2.keep Kq166 (ninS (Ne.symm ne_ob9_ob12) nin0)
                  obtain ⟨cq174, kq174, q174a, q174b, q174c⟩ := isOf hZ hs171 f172
                  obtain ⟨_, _, ⟨T174, zL174, zk174, zn174⟩, -, X174, ⟨Lc174, hQ174, l174, y174, z174⟩, st174⟩ := X171.virtualBack hx (y := (⟨"corro/core/Order", "previous", "()Lcorro/core/Order;"⟩ : MethodName)) (z := (⟨"corro/core/Order", "previous", "()Lcorro/core/Order;"⟩ : MethodName)) hown (mvT hZ (wd_44 hw)) (mvT hZ (wd_45 hw)) (notFace_of_selects (args := #[]) (mvT hZ (wd_47 hw))) (mvT hZ (wd_47 hw)) (mvT hZ (wd_46 hw)) (by decide) (backOf (W := 0) (rmGprevious l Z a0 hw [] ob12 .null T166.heap n0 Zp166 f173 rfl) hZ (wd_48 hw) (wd_11 hw) (by decide) (by decide)) q174a q174c (g := (mkF m 260 #[.val (.int p0), .val (.long q1), .second, .val (.long q2), .second, .val (.int (0 : Int32)), .val (.int (0 : Int32)), .val (.int (1 : Int32)), .val (.int z8), .val (.ref ob5), .val (.ref ob7), .val (.ref ob9), .val (.ref ob12), .val (.ref ob18), .val (.ref t14), .val .null, .val (.int (1 : Int32))] [(.ref ob12)])) rfl (by rw [hml]; rfl) (Steps.refl _) (argsL := []) (rest := []) (lenOf pd_4 rfl) rfl (by show 2 * 0 + _ ≤ _; exact Nat.le_of_eq rfl) (hb hby at_260) (fun _ _ => ⟨rfl, hs171, (by decide : 5 + 0 ≤ _), (by decide : 40 + 0 ≤ _)⟩)
                  dsimp only [Pt.U, Pt.locs, Pt.cells, Pt.slots] at X174 l174 y174 z174 st174 hQ174
                  subst l174 y174 z174
                  obtain ⟨rfl, N174q, hs174⟩ := hQ174
                  have N174 := Fr.app N171 N174q
                  refine own_on st174 ?_
                  show own_G p e below Φ T174 (mkF m 263 #[.val (.int p0), .val (.long q1), .second, .val (.long q2), .second, .val (.int (0 : Int32)), .val (.int (0 : Int32)), .val (.int (1 : Int32)), .val (.int z8), .val (.ref ob5), .val (.ref ob7), .val (.ref ob9), .val (.ref ob12), .val (.ref ob18), .val (.ref t14), .val .null, .val (.int (1 : Int32))] [.null])
                  refine own_go (fun _ => XS.ifnonnullNo X174.here hx rfl (hb hby at_263) rfl) ?_
                  show own_G p e below Φ T174 (mkF m 266 #[.val (.int p0), .val (.long q1), .second, .val (.long q2), .second, .val (.int (0 : Int32)), .val (.int (0 : Int32)), .val (.int (1 : Int32)), .val (.int z8), .val (.ref ob5), .val (.ref ob7), .val (.ref ob9), .val (.ref ob12), .val (.ref ob18), .val (.ref t14), .val .null, .val (.int (1 : Int32))] [])
                  refine own_go (fun _ => XS.aload X174.here hx rfl (hb hby at_266) rfl rfl) ?_
                  show own_G p e below Φ T174 (mkF m 268 #[.val (.int p0), .val (.long q1), .second, .val (.long q2), .second, .val (.int (0 : Int32)), .val (.int (0 : Int32)), .val (.int (1 : Int32)), .val (.int z8), .val (.ref ob5), .val (.ref ob7), .val (.ref ob9), .val (.ref ob12), .val (.ref ob18), .val (.ref t14), .val .null, .val (.int (1 : Int32))] [(.ref ob12)])
                  have f175 : Fld Z T166.heap ob12 "corro/core/Order" "level" "Lcorro/core/Level;" (.ref ob5) := p136_1.keep Kq166 (ninS (Ne.symm ne_ob9_ob12) nin0)
                  obtain ⟨cq176, kq176, q176a, q176b, q176c⟩ := isOf hZ hs174 f172
                  obtain ⟨_, _, ⟨T176, zL176, zk176, zn176⟩, -, X176, ⟨Lc176, hQ176, l176, y176, z176⟩, st176⟩ := X174.virtualBack hx (y := (⟨"corro/core/Order", "level", "()Lcorro/core/Level;"⟩ : MethodName)) (z := (⟨"corro/core/Order", "level", "()Lcorro/core/Level;"⟩ : MethodName)) hown (mvT hZ (wd_39 hw)) (mvT hZ (wd_40 hw)) (notFace_of_selects (args := #[]) (mvT hZ (wd_42 hw))) (mvT hZ (wd_42 hw)) (mvT hZ (wd_41 hw)) (by decide) (backOf (W := 0) (rmGlevel l Z a0 hw [] ob12 (.ref ob5) T166.heap n0 Zp166 f175 rfl) hZ (wd_43 hw) (wd_11 hw) (by decide) (by decide)) q176a q176c (g := (mkF m 268 #[.val (.int p0), .val (.long q1), .second, .val (.long q2), .second, .val (.int (0 : Int32)), .val (.int (0 : Int32)), .val (.int (1 : Int32)), .val (.int z8), .val (.ref ob5), .val (.ref ob7), .val (.ref ob9), .val (.ref ob12), .val (.ref ob18), .val (.ref t14), .val .null, .val (.int (1 : Int32))] [(.ref ob12)])) rfl (by rw [hml]; rfl) (Steps.refl _) (argsL := []) (rest := []) (lenOf pd_3 rfl) rfl (by show 2 * 0 + _ ≤ _; exact Nat.le_of_eq rfl) (hb hby at_268) (fun _ _ => ⟨rfl, hs174, (by decide : 5 + 0 ≤ _), (by decide : 40 + 0 ≤ _)⟩)
                  dsimp only [Pt.U, Pt.locs, Pt.cells, Pt.slots] at X176 l176 y176 z176 st176 hQ176
                  subst l176 y176 z176
                  obtain ⟨rfl, N176q, hs176⟩ := hQ176
                  have N176 := Fr.app N174 N176q
                  refine own_on st176 ?_
                  show own_G p e below Φ T176 (mkF m 271 #[.val (.int p0), .val (.long q1), .second, .val (.long q2), .second, .val (.int (0 : Int32)), .val (.int (0 : Int32)), .val (.int (1 : Int32)), .val (.int z8), .val (.ref ob5), .val (.ref ob7), .val (.ref ob9), .val (.ref ob12), .val (.ref ob18), .val (.ref t14), .val .null, .val (.int (1 : Int32))] [(.ref ob5)])
                  refine own_go (fun _ => XS.iload X176.here hx rfl (hb hby at_271) rfl) ?_
                  show own_G p e below Φ T176 (mkF m 273 #[.val (.int p0), .val (.long q1), .second, .val (.long q2), .second, .val (.int (0 : Int32)), .val (.int (0 : Int32)), .val (.int (1 : Int32)), .val (.int z8), .val (.ref ob5), .val (.ref ob7), .val (.ref ob9), .val (.ref ob12), .val (.ref ob18), .val (.ref t14), .val .null, .val (.int (1 : Int32))] [(.int (1 : Int32)), (.ref ob5)])
                  refine own_go (fun _ => XS.ifNo X176.here hx rfl (hb hby at_273) rfl (Jvm.Free.XT.i0_eq_f (by decide : ¬ ((1 : Int32) = (0 : Int32))))) ?_
                  show own_G p e below Φ T176 (mkF m 276 #[.val (.int p0), .val (.long q1), .second, .val (.long q2), .second, .val (.int (0 : Int32)), .val (.int (0 : Int32)), .val (.int (1 : Int32)), .val (.int z8), .val (.ref ob5), .val (.ref ob7), .val (.ref ob9), .val (.ref ob12), .val (.ref ob18), .val (.ref t14), .val .null, .val (.int (1 : Int32))] [(.ref ob5)])
                  refine own_go (fun _ => XS.aload X176.here hx rfl (hb hby at_276) rfl rfl) ?_
                  show own_G p e below Φ T176 (mkF m 278 #[.val (.int p0), .val (.long q1), .second, .val (.long q2), .second, .val (.int (0 : Int32)), .val (.int (0 : Int32)), .val (.int (1 : Int32)), .val (.int z8), .val (.ref ob5), .val (.ref ob7), .val (.ref ob9), .val (.ref ob12), .val (.ref ob18), .val (.ref t14), .val .null, .val (.int (1 : Int32))] [(.ref ob5), (.ref ob5)])
                  refine own_go (fun _ => XS.goto X176.here hx rfl (pc0 := 278) (pc' := 282) rfl (hb hby at_278) (by decide) (by decide)) ?_
                  show own_G p e below Φ T176 (mkF m 282 #[.val (.int p0), .val (.long q1), .second, .val (.long q2), .second, .val (.int (0 : Int32)), .val (.int (0 : Int32)), .val (.int (1 : Int32)), .val (.int z8), .val (.ref ob5), .val (.ref ob7), .val (.ref ob9), .val (.ref ob12), .val (.ref ob18), .val (.ref t14), .val .null, .val (.int (1 : Int32))] [(.ref ob5), (.ref ob5)])
                  refine own_go (fun _ => Jvm.RoadKit.acmp (g := (mkF m 282 #[.val (.int p0), .val (.long q1), .second, .val (.long q2), .second, .val (.int (0 : Int32)), .val (.int (0 : Int32)), .val (.int (1 : Int32)), .val (.int z8), .val (.ref ob5), .val (.ref ob7), .val (.ref ob9), .val (.ref ob12), .val (.ref ob18), .val (.ref t14), .val .null, .val (.int (1 : Int32))] [(.ref ob5), (.ref ob5)])) X176 hx rfl rfl rfl (pc0 := 282) (pc' := 285) (same := true) rfl (hb hby at_282) rfl (decide_eq_true rfl) (by decide) (by decide)) ?_
                  show own_G p e below Φ T176 (mkF m 285 #[.val (.int p0), .val (.long q1), .second, .val (.long q2), .second, .val (.int (0 : Int32)), .val (.int (0 : Int32)), .val (.int (1 : Int32)), .val (.int z8), .val (.ref ob5), .val (.ref ob7), .val (.ref ob9), .val (.ref ob12), .val (.ref ob18), .val (.ref t14), .val .null, .val (.int (1 : Int32))] [])
                  refine own_go (fun _ => XS.iconst X176.here hx rfl (hb hby at_285)) ?_
                  show own_G p e below Φ T176 (mkF m 286 #[.val (.int p0), .val (.long q1), .second, .val (.long q2), .second, .val (.int (0 : Int32)), .val (.int (0 : Int32)), .val (.int (1 : Int32)), .val (.int z8), .val (.ref ob5), .val (.ref ob7), .val (.ref ob9), .val (.ref ob12), .val (.ref ob18), .val (.ref t14), .val .null, .val (.int (1 : Int32))] [(.int (1 : Int32))])
                  refine own_go (fun _ => XS.goto X176.here hx rfl (pc0 := 286) (pc' := 290) rfl (hb hby at_286) (by decide) (by decide)) ?_
                  show own_G p e below Φ T176 (mkF m 290 #[.val (.int p0), .val (.long q1), .second, .val (.long q2), .second, .val (.int (0 : Int32)), .val (.int (0 : Int32)), .val (.int (1 : Int32)), .val (.int z8), .val (.ref ob5), .val (.ref ob7), .val (.ref ob9), .val (.ref ob12), .val (.ref ob18), .val (.ref t14), .val .null, .val (.int (1 : Int32))] [(.int (1 : Int32))])
                  refine own_go (fun _ => XS.istore X176.here hx rfl (hb hby at_290) rfl (l' := #[.val (.int p0), .val (.long q1), .second, .val (.long q2), .second, .val (.int (0 : Int32)), .val (.int (0 : Int32)), .val (.int (1 : Int32)), .val (.int z8), .val (.ref ob5), .val (.ref ob7), .val (.ref ob9), .val (.ref ob12), .val (.ref ob18), .val (.ref t14), .val .null, .val (.int (1 : Int32))]) rfl) ?_
                  show own_G p e below Φ T176 (mkF m 292 #[.val (.int p0), .val (.long q1), .second, .val (.long q2), .second, .val (.int (0 : Int32)), .val (.int (0 : Int32)), .val (.int (1 : Int32)), .val (.int z8), .val (.ref ob5), .val (.ref ob7), .val (.ref ob9), .val (.ref ob12), .val (.ref ob18), .val (.ref t14), .val .null, .val (.int (1 : Int32))] [])
                  refine own_go (fun _ => XS.iload X176.here hx rfl (hb hby at_292) rfl) ?_
                  show own_G p e below Φ T176 (mkF m 294 #[.val (.int p0), .val (.long q1), .second, .val (.long q2), .second, .val (.int (0 : Int32)), .val (.int (0 : Int32)), .val (.int (1 : Int32)), .val (.int z8), .val (.ref ob5), .val (.ref ob7), .val (.ref ob9), .val (.ref ob12), .val (.ref ob18), .val (.ref t14), .val .null, .val (.int (1 : Int32))] [(.int (1 : Int32))])
                  refine own_go (fun _ => XS.ifNo X176.here hx rfl (hb hby at_294) rfl (Jvm.Free.XT.i0_eq_f (by decide : ¬ ((1 : Int32) = (0 : Int32))))) ?_
                  show own_G p e below Φ T176 (mkF m 297 #[.val (.int p0), .val (.long q1), .second, .val (.long q2), .second, .val (.int (0 : Int32)), .val (.int (0 : Int32)), .val (.int (1 : Int32)), .val (.int z8), .val (.ref ob5), .val (.ref ob7), .val (.ref ob9), .val (.ref ob12), .val (.ref ob18), .val (.ref t14), .val .null, .val (.int (1 : Int32))] [])
                  refine own_go (fun _ => XS.aload X176.here hx rfl (hb hby at_297) rfl rfl) ?_
                  show own_G p e below Φ T176 (mkF m 299 #[.val (.int p0), .val (.long q1), .second, .val (.long q2), .second, .val (.int (0 : Int32)), .val (.int (0 : Int32)), .val (.int (1 : Int32)), .val (.int z8), .val (.ref ob5), .val (.ref ob7), .val (.ref ob9), .val (.ref ob12), .val (.ref ob18), .val (.ref t14), .val .null, .val (.int (1 : Int32))] [(.ref ob18)])
                  have f177 : Fld Z T136.heap ob18 "corro/core/Order" "previous" "Lcorro/core/Order;" .null := p25_2.keep Kq136 (ninS (Ne.symm ne_ob12_ob18) nin0)
                  have f178 : Fld Z T166.heap ob18 "corro/core/Order" "previous" "Lcorro/core/Order;" .null := f177.keep Kq166 (ninS (Ne.symm ne_ob9_ob18) nin0)
                  have f180 : Exa Z T136.heap ob18 "corro/core/Order" := p25_0.keep Kq136
                  have f181 : Exa Z T166.heap ob18 "corro/core/Order" := f180.keep Kq166
                  obtain ⟨cq179, kq179, q179a, q179b, q179c⟩ := isOf hZ hs176 f181
                  obtain ⟨_, _, ⟨T179, zL179, zk179, zn179⟩, -, X179, ⟨Lc179, hQ179, l179, y179, z179⟩, st179⟩ := X176.virtualBack hx (y := (⟨"corro/core/Order", "previous", "()Lcorro/core/Order;"⟩ : MethodName)) (z := (⟨"corro/core/Order", "previous", "()Lcorro/core/Order;"⟩ : MethodName)) hown (mvT hZ (wd_44 hw)) (mvT hZ (wd_45 hw)) (notFace_of_selects (args := #[]) (mvT hZ (wd_47 hw))) (mvT hZ (wd_47 hw)) (mvT hZ (wd_46 hw)) (by decide) (backOf (W := 0) (rmGprevious l Z a0 hw [] ob18 .null T166.heap n0 Zp166 f178 rfl) hZ (wd_48 hw) (wd_11 hw) (by decide) (by decide)) q179a q179c (g := (mkF m 299 #[.val (.int p0), .val (.long q1), .second, .val (.long q2), .second, .val (.int (0 : Int32)), .val (.int (0 : Int32)), .val (.int (1 : Int32)), .val (.int z8), .val (.ref ob5), .val (.ref ob7), .val (.ref ob9), .val (.ref ob12), .val (.ref ob18), .val (.ref t14), .val .null, .val (.int (1 : Int32))] [(.ref ob18)])) rfl (by rw [hml]; rfl) (Steps.refl _) (argsL := []) (rest := []) (lenOf pd_4 rfl) rfl (by show 2 * 0 + _ ≤ _; exact Nat.le_of_eq rfl) (hb hby at_299) (fun _ _ => ⟨rfl, hs176, (by decide : 5 + 0 ≤ _), (by decide : 40 + 0 ≤ _)⟩)
                  dsimp only [Pt.U, Pt.locs, Pt.cells, Pt.slots] at X179 l179 y179 z179 st179 hQ179
                  subst l179 y179 z179
                  obtain ⟨rfl, N179q, hs179⟩ := hQ179
                  have N179 := Fr.app N176 N179q
                  refine own_on st179 ?_
                  show own_G p e below Φ T179 (mkF m 302 #[.val (.int p0), .val (.long q1), .second, .val (.long q2), .second, .val (.int (0 : Int32)), .val (.int (0 : Int32)), .val (.int (1 : Int32)), .val (.int z8), .val (.ref ob5), .val (.ref ob7), .val (.ref ob9), .val (.ref ob12), .val (.ref ob18), .val (.ref t14), .val .null, .val (.int (1 : Int32))] [.null])
                  refine own_go (fun _ => XS.iload X179.here hx rfl (hb hby at_302) rfl) ?_
                  show own_G p e below Φ T179 (mkF m 304 #[.val (.int p0), .val (.long q1), .second, .val (.long q2), .second, .val (.int (0 : Int32)), .val (.int (0 : Int32)), .val (.int (1 : Int32)), .val (.int z8), .val (.ref ob5), .val (.ref ob7), .val (.ref ob9), .val (.ref ob12), .val (.ref ob18), .val (.ref t14), .val .null, .val (.int (1 : Int32))] [(.int (0 : Int32)), .null])
                  refine own_go (fun _ => XS.ifYes X179.here hx rfl (pc0 := 304) (pc' := 312) rfl (hb hby at_304) rfl (Jvm.Free.XT.i0_eq_t (by decide : ((0 : Int32) = (0 : Int32)))) (by decide) (by decide)) ?_
                  show own_G p e below Φ T179 (mkF m 312 #[.val (.int p0), .val (.long q1), .second, .val (.long q2), .second, .val (.int (0 : Int32)), .val (.int (0 : Int32)), .val (.int (1 : Int32)), .val (.int z8), .val (.ref ob5), .val (.ref ob7), .val (.ref ob9), .val (.ref ob12), .val (.ref ob18), .val (.ref t14), .val .null, .val (.int (1 : Int32))] [.null])
                  refine own_go (fun _ => XS.aconstNull X179.here hx rfl (hb hby at_312)) ?_
                  show own_G p e below Φ T179 (mkF m 313 #[.val (.int p0), .val (.long q1), .second, .val (.long q2), .second, .val (.int (0 : Int32)), .val (.int (0 : Int32)), .val (.int (1 : Int32)), .val (.int z8), .val (.ref ob5), .val (.ref ob7), .val (.ref ob9), .val (.ref ob12), .val (.ref ob18), .val (.ref t14), .val .null, .val (.int (1 : Int32))] [.null, .null])
                  refine own_go (fun _ => Jvm.RoadKit.acmp (g := (mkF m 313 #[.val (.int p0), .val (.long q1), .second, .val (.long q2), .second, .val (.int (0 : Int32)), .val (.int (0 : Int32)), .val (.int (1 : Int32)), .val (.int z8), .val (.ref ob5), .val (.ref ob7), .val (.ref ob9), .val (.ref ob12), .val (.ref ob18), .val (.ref t14), .val .null, .val (.int (1 : Int32))] [.null, .null])) X179 hx rfl rfl rfl (pc0 := 313) (pc' := 316) (same := true) rfl (hb hby at_313) rfl (decide_eq_true rfl) (by decide) (by decide)) ?_
                  show own_G p e below Φ T179 (mkF m 316 #[.val (.int p0), .val (.long q1), .second, .val (.long q2), .second, .val (.int (0 : Int32)), .val (.int (0 : Int32)), .val (.int (1 : Int32)), .val (.int z8), .val (.ref ob5), .val (.ref ob7), .val (.ref ob9), .val (.ref ob12), .val (.ref ob18), .val (.ref t14), .val .null, .val (.int (1 : Int32))] [])
                  refine own_go (fun _ => XS.aload X179.here hx rfl (hb hby at_316) rfl rfl) ?_
                  show own_G p e below Φ T179 (mkF m 318 #[.val (.int p0), .val (.long q1), .second, .val (.long q2), .second, .val (.int (0 : Int32)), .val (.int (0 : Int32)), .val (.int (1 : Int32)), .val (.int z8), .val (.ref ob5), .val (.ref ob7), .val (.ref ob9), .val (.ref ob12), .val (.ref ob18), .val (.ref t14), .val .null, .val (.int (1 : Int32))] [(.ref ob18)])
                  have f182 : Fld Z T136.heap ob18 "corro/core/Order" "next" "Lcorro/core/Order;" .null := p25_3.keep Kq136 (ninS (Ne.symm ne_ob12_ob18) nin0)
                  have f183 : Fld Z T166.heap ob18 "corro/core/Order" "next" "Lcorro/core/Order;" .null := f182.keep Kq166 (ninS (Ne.symm ne_ob9_ob18) nin0)
                  obtain ⟨cq184, kq184, q184a, q184b, q184c⟩ := isOf hZ hs179 f181
                  obtain ⟨_, _, ⟨T184, zL184, zk184, zn184⟩, -, X184, ⟨Lc184, hQ184, l184, y184, z184⟩, st184⟩ := X179.virtualBack hx (y := (⟨"corro/core/Order", "next", "()Lcorro/core/Order;"⟩ : MethodName)) (z := (⟨"corro/core/Order", "next", "()Lcorro/core/Order;"⟩ : MethodName)) hown (mvT hZ (wd_49 hw)) (mvT hZ (wd_50 hw)) (notFace_of_selects (args := #[]) (mvT hZ (wd_52 hw))) (mvT hZ (wd_52 hw)) (mvT hZ (wd_51 hw)) (by decide) (backOf (W := 0) (rmGnext l Z a0 hw [] ob18 .null T166.heap n0 Zp166 f183 rfl) hZ (wd_53 hw) (wd_11 hw) (by decide) (by decide)) q184a q184c (g := (mkF m 318 #[.val (.int p0), .val (.long q1), .second, .val (.long q2), .second, .val (.int (0 : Int32)), .val (.int (0 : Int32)), .val (.int (1 : Int32)), .val (.int z8), .val (.ref ob5), .val (.ref ob7), .val (.ref ob9), .val (.ref ob12), .val (.ref ob18), .val (.ref t14), .val .null, .val (.int (1 : Int32))] [(.ref ob18)])) rfl (by rw [hml]; rfl) (Steps.refl _) (argsL := []) (rest := []) (lenOf pd_4 rfl) rfl (by show 2 * 0 + _ ≤ _; exact Nat.le_of_eq rfl) (hb hby at_318) (fun _ _ => ⟨rfl, hs179, (by decide : 5 + 0 ≤ _), (by decide : 40 + 0 ≤ _)⟩)
                  dsimp only [Pt.U, Pt.locs, Pt.cells, Pt.slots] at X184 l184 y184 z184 st184 hQ184
                  subst l184 y184 z184
                  obtain ⟨rfl, N184q, hs184⟩ := hQ184
                  have N184 := Fr.app N179 N184q
                  refine own_on st184 ?_
                  show own_G p e below Φ T184 (mkF m 321 #[.val (.int p0), .val (.long q1), .second, .val (.long q2), .second, .val (.int (0 : Int32)), .val (.int (0 : Int32)), .val (.int (1 : Int32)), .val (.int z8), .val (.ref ob5), .val (.ref ob7), .val (.ref ob9), .val (.ref ob12), .val (.ref ob18), .val (.ref t14), .val .null, .val (.int (1 : Int32))] [.null])
                  refine own_go (fun _ => XS.ifnonnullNo X184.here hx rfl (hb hby at_321) rfl) ?_
                  show own_G p e below Φ T184 (mkF m 324 #[.val (.int p0), .val (.long q1), .second, .val (.long q2), .second, .val (.int (0 : Int32)), .val (.int (0 : Int32)), .val (.int (1 : Int32)), .val (.int z8), .val (.ref ob5), .val (.ref ob7), .val (.ref ob9), .val (.ref ob12), .val (.ref ob18), .val (.ref t14), .val .null, .val (.int (1 : Int32))] [])
                  refine own_go (fun _ => XS.iconst X184.here hx rfl (hb hby at_324)) ?_
                  show own_G p e below Φ T184 (mkF m 325 #[.val (.int p0), .val (.long q1), .second, .val (.long q2), .second, .val (.int (0 : Int32)), .val (.int (0 : Int32)), .val (.int (1 : Int32)), .val (.int z8), .val (.ref ob5), .val (.ref ob7), .val (.ref ob9), .val (.ref ob12), .val (.ref ob18), .val (.ref t14), .val .null, .val (.int (1 : Int32))] [(.int (1 : Int32))])
                  refine own_go (fun _ => XS.goto X184.here hx rfl (pc0 := 325) (pc' := 329) rfl (hb hby at_325) (by decide) (by decide)) ?_
                  show own_G p e below Φ T184 (mkF m 329 #[.val (.int p0), .val (.long q1), .second, .val (.long q2), .second, .val (.int (0 : Int32)), .val (.int (0 : Int32)), .val (.int (1 : Int32)), .val (.int z8), .val (.ref ob5), .val (.ref ob7), .val (.ref ob9), .val (.ref ob12), .val (.ref ob18), .val (.ref t14), .val .null, .val (.int (1 : Int32))] [(.int (1 : Int32))])
                  refine own_go (fun _ => XS.istore X184.here hx rfl (hb hby at_329) rfl (l' := #[.val (.int p0), .val (.long q1), .second, .val (.long q2), .second, .val (.int (0 : Int32)), .val (.int (0 : Int32)), .val (.int (1 : Int32)), .val (.int z8), .val (.ref ob5), .val (.ref ob7), .val (.ref ob9), .val (.ref ob12), .val (.ref ob18), .val (.ref t14), .val .null, .val (.int (1 : Int32))]) rfl) ?_
                  show own_G p e below Φ T184 (mkF m 331 #[.val (.int p0), .val (.long q1), .second, .val (.long q2), .second, .val (.int (0 : Int32)), .val (.int (0 : Int32)), .val (.int (1 : Int32)), .val (.int z8), .val (.ref ob5), .val (.ref ob7), .val (.ref ob9), .val (.ref ob12), .val (.ref ob18), .val (.ref t14), .val .null, .val (.int (1 : Int32))] [])
                  refine own_go (fun _ => XS.iload X184.here hx rfl (hb hby at_331) rfl) ?_
                  show own_G p e below Φ T184 (mkF m 333 #[.val (.int p0), .val (.long q1), .second, .val (.long q2), .second, .val (.int (0 : Int32)), .val (.int (0 : Int32)), .val (.int (1 : Int32)), .val (.int z8), .val (.ref ob5), .val (.ref ob7), .val (.ref ob9), .val (.ref ob12), .val (.ref ob18), .val (.ref t14), .val .null, .val (.int (1 : Int32))] [(.int (1 : Int32))])
                  refine own_go (fun _ => XS.ifNo X184.here hx rfl (hb hby at_333) rfl (Jvm.Free.XT.i0_eq_f (by decide : ¬ ((1 : Int32) = (0 : Int32))))) ?_
                  show own_G p e below Φ T184 (mkF m 336 #[.val (.int p0), .val (.long q1), .second, .val (.long q2), .second, .val (.int (0 : Int32)), .val (.int (0 : Int32)), .val (.int (1 : Int32)), .val (.int z8), .val (.ref ob5), .val (.ref ob7), .val (.ref ob9), .val (.ref ob12), .val (.ref ob18), .val (.ref t14), .val .null, .val (.int (1 : Int32))] [])
                  refine own_go (fun _ => XS.aload X184.here hx rfl (hb hby at_336) rfl rfl) ?_
                  show own_G p e below Φ T184 (mkF m 338 #[.val (.int p0), .val (.long q1), .second, .val (.long q2), .second, .val (.int (0 : Int32)), .val (.int (0 : Int32)), .val (.int (1 : Int32)), .val (.int z8), .val (.ref ob5), .val (.ref ob7), .val (.ref ob9), .val (.ref ob12), .val (.ref ob18), .val (.ref t14), .val .null, .val (.int (1 : Int32))] [(.ref ob9)])
                  obtain ⟨cq185, kq185, q185a, q185b, q185c⟩ := isOf hZ hs184 p166_0
                  obtain ⟨_, _, ⟨T185, zL185, zk185, zn185⟩, -, X185, ⟨Lc185, hQ185, l185, y185, z185⟩, st185⟩ := X184.virtualBack hx (y := (⟨"corro/core/Order", "quantity", "()J"⟩ : MethodName)) (z := (⟨"corro/core/Order", "quantity", "()J"⟩ : MethodName)) hown (mvT hZ (wd_54 hw)) (mvT hZ (wd_55 hw)) (notFace_of_selects (args := #[]) (mvT hZ (wd_57 hw))) (mvT hZ (wd_57 hw)) (mvT hZ (wd_56 hw)) (by decide) (backOf (W := 0) (rmGquantity l Z a0 hw [] ob9 q1 T166.heap n0 Zp166 p166_4) hZ (wd_58 hw) (wd_11 hw) (by decide) (by decide)) q185a q185c (g := (mkF m 338 #[.val (.int p0), .val (.long q1), .second, .val (.long q2), .second, .val (.int (0 : Int32)), .val (.int (0 : Int32)), .val (.int (1 : Int32)), .val (.int z8), .val (.ref ob5), .val (.ref ob7), .val (.ref ob9), .val (.ref ob12), .val (.ref ob18), .val (.ref t14), .val .null, .val (.int (1 : Int32))] [(.ref ob9)])) rfl (by rw [hml]; rfl) (Steps.refl _) (argsL := []) (rest := []) (lenOf pd_5 rfl) rfl (by show 2 * 0 + _ ≤ _; exact Nat.le_of_eq rfl) (hb hby at_338) (fun _ _ => ⟨rfl, hs184, (by decide : 5 + 0 ≤ _), (by decide : 40 + 0 ≤ _)⟩)
                  dsimp only [Pt.U, Pt.locs, Pt.cells, Pt.slots] at X185 l185 y185 z185 st185 hQ185
                  subst l185 y185 z185
                  obtain ⟨rfl, N185q, hs185⟩ := hQ185
                  have N185 := Fr.app N184 N185q
                  refine own_on st185 ?_
                  show own_G p e below Φ T185 (mkF m 341 #[.val (.int p0), .val (.long q1), .second, .val (.long q2), .second, .val (.int (0 : Int32)), .val (.int (0 : Int32)), .val (.int (1 : Int32)), .val (.int z8), .val (.ref ob5), .val (.ref ob7), .val (.ref ob9), .val (.ref ob12), .val (.ref ob18), .val (.ref t14), .val .null, .val (.int (1 : Int32))] [(.long q1)])
                  refine own_go (fun _ => XS.lloadN X185.here hx rfl (hb hby at_341) rfl) ?_
                  show own_G p e below Φ T185 (mkF m 342 #[.val (.int p0), .val (.long q1), .second, .val (.long q2), .second, .val (.int (0 : Int32)), .val (.int (0 : Int32)), .val (.int (1 : Int32)), .val (.int z8), .val (.ref ob5), .val (.ref ob7), .val (.ref ob9), .val (.ref ob12), .val (.ref ob18), .val (.ref t14), .val .null, .val (.int (1 : Int32))] [(.long q1), (.long q1)])
                  refine own_go (fun _ => XS.lcmp X185.here hx rfl (hb hby at_342) rfl) ?_
                  show own_G p e below Φ T185 (mkF m 343 #[.val (.int p0), .val (.long q1), .second, .val (.long q2), .second, .val (.int (0 : Int32)), .val (.int (0 : Int32)), .val (.int (1 : Int32)), .val (.int z8), .val (.ref ob5), .val (.ref ob7), .val (.ref ob9), .val (.ref ob12), .val (.ref ob18), .val (.ref t14), .val .null, .val (.int (1 : Int32))] [(.int (lcmpW q1 q1))])
                  refine own_go (fun _ => XS.ifNo X185.here hx rfl (hb hby at_343) rfl (Jvm.Free.XT.ll_ne_f (rfl : q1 = q1))) ?_
                  show own_G p e below Φ T185 (mkF m 346 #[.val (.int p0), .val (.long q1), .second, .val (.long q2), .second, .val (.int (0 : Int32)), .val (.int (0 : Int32)), .val (.int (1 : Int32)), .val (.int z8), .val (.ref ob5), .val (.ref ob7), .val (.ref ob9), .val (.ref ob12), .val (.ref ob18), .val (.ref t14), .val .null, .val (.int (1 : Int32))] [])
                  refine own_go (fun _ => XS.aload X185.here hx rfl (hb hby at_346) rfl rfl) ?_
                  show own_G p e below Φ T185 (mkF m 348 #[.val (.int p0), .val (.long q1), .second, .val (.long q2), .second, .val (.int (0 : Int32)), .val (.int (0 : Int32)), .val (.int (1 : Int32)), .val (.int z8), .val (.ref ob5), .val (.ref ob7), .val (.ref ob9), .val (.ref ob12), .val (.ref ob18), .val (.ref t14), .val .null, .val (.int (1 : Int32))] [(.ref ob9)])
                  obtain ⟨cq186, kq186, q186a, q186b, q186c⟩ := isOf hZ hs185 p166_0
                  obtain ⟨_, _, ⟨T186, zL186, zk186, zn186⟩, -, X186, ⟨Lc186, hQ186, l186, y186, z186⟩, st186⟩ := X185.virtualBack hx (y := (⟨"corro/core/Order", "price", "()J"⟩ : MethodName)) (z := (⟨"corro/core/Order", "price", "()J"⟩ : MethodName)) hown (mvT hZ (wd_59 hw)) (mvT hZ (wd_60 hw)) (notFace_of_selects (args := #[]) (mvT hZ (wd_62 hw))) (mvT hZ (wd_62 hw)) (mvT hZ (wd_61 hw)) (by decide) (backOf (W := 0) (rmGprice l Z a0 hw [] ob9 q2 T166.heap n0 Zp166 p166_5) hZ (wd_63 hw) (wd_11 hw) (by decide) (by decide)) q186a q186c (g := (mkF m 348 #[.val (.int p0), .val (.long q1), .second, .val (.long q2), .second, .val (.int (0 : Int32)), .val (.int (0 : Int32)), .val (.int (1 : Int32)), .val (.int z8), .val (.ref ob5), .val (.ref ob7), .val (.ref ob9), .val (.ref ob12), .val (.ref ob18), .val (.ref t14), .val .null, .val (.int (1 : Int32))] [(.ref ob9)])) rfl (by rw [hml]; rfl) (Steps.refl _) (argsL := []) (rest := []) (lenOf pd_5 rfl) rfl (by show 2 * 0 + _ ≤ _; exact Nat.le_of_eq rfl) (hb hby at_348) (fun _ _ => ⟨rfl, hs185, (by decide : 5 + 0 ≤ _), (by decide : 40 + 0 ≤ _)⟩)
                  dsimp only [Pt.U, Pt.locs, Pt.cells, Pt.slots] at X186 l186 y186 z186 st186 hQ186
                  subst l186 y186 z186
                  obtain ⟨rfl, N186q, hs186⟩ := hQ186
                  have N186 := Fr.app N185 N186q
                  refine own_on st186 ?_
                  show own_G p e below Φ T186 (mkF m 351 #[.val (.int p0), .val (.long q1), .second, .val (.long q2), .second, .val (.int (0 : Int32)), .val (.int (0 : Int32)), .val (.int (1 : Int32)), .val (.int z8), .val (.ref ob5), .val (.ref ob7), .val (.ref ob9), .val (.ref ob12), .val (.ref ob18), .val (.ref t14), .val .null, .val (.int (1 : Int32))] [(.long q2)])
                  refine own_go (fun _ => XS.lloadN X186.here hx rfl (hb hby at_351) rfl) ?_
                  show own_G p e below Φ T186 (mkF m 352 #[.val (.int p0), .val (.long q1), .second, .val (.long q2), .second, .val (.int (0 : Int32)), .val (.int (0 : Int32)), .val (.int (1 : Int32)), .val (.int z8), .val (.ref ob5), .val (.ref ob7), .val (.ref ob9), .val (.ref ob12), .val (.ref ob18), .val (.ref t14), .val .null, .val (.int (1 : Int32))] [(.long q2), (.long q2)])
                  refine own_go (fun _ => XS.lcmp X186.here hx rfl (hb hby at_352) rfl) ?_
                  show own_G p e below Φ T186 (mkF m 353 #[.val (.int p0), .val (.long q1), .second, .val (.long q2), .second, .val (.int (0 : Int32)), .val (.int (0 : Int32)), .val (.int (1 : Int32)), .val (.int z8), .val (.ref ob5), .val (.ref ob7), .val (.ref ob9), .val (.ref ob12), .val (.ref ob18), .val (.ref t14), .val .null, .val (.int (1 : Int32))] [(.int (lcmpW q2 q2))])
                  refine own_go (fun _ => XS.ifNo X186.here hx rfl (hb hby at_353) rfl (Jvm.Free.XT.ll_ne_f (rfl : q2 = q2))) ?_
                  show own_G p e below Φ T186 (mkF m 356 #[.val (.int p0), .val (.long q1), .second, .val (.long q2), .second, .val (.int (0 : Int32)), .val (.int (0 : Int32)), .val (.int (1 : Int32)), .val (.int z8), .val (.ref ob5), .val (.ref ob7), .val (.ref ob9), .val (.ref ob12), .val (.ref ob18), .val (.ref t14), .val .null, .val (.int (1 : Int32))] [])
                  refine own_go (fun _ => XS.iconst X186.here hx rfl (hb hby at_356)) ?_
                  show own_G p e below Φ T186 (mkF m 357 #[.val (.int p0), .val (.long q1), .second, .val (.long q2), .second, .val (.int (0 : Int32)), .val (.int (0 : Int32)), .val (.int (1 : Int32)), .val (.int z8), .val (.ref ob5), .val (.ref ob7), .val (.ref ob9), .val (.ref ob12), .val (.ref ob18), .val (.ref t14), .val .null, .val (.int (1 : Int32))] [(.int (1 : Int32))])
                  refine own_go (fun _ => XS.goto X186.here hx rfl (pc0 := 357) (pc' := 361) rfl (hb hby at_357) (by decide) (by decide)) ?_
                  show own_G p e below Φ T186 (mkF m 361 #[.val (.int p0), .val (.long q1), .second, .val (.long q2), .second, .val (.int (0 : Int32)), .val (.int (0 : Int32)), .val (.int (1 : Int32)), .val (.int z8), .val (.ref ob5), .val (.ref ob7), .val (.ref ob9), .val (.ref ob12), .val (.ref ob18), .val (.ref t14), .val .null, .val (.int (1 : Int32))] [(.int (1 : Int32))])
                  refine own_go (fun _ => XS.istore X186.here hx rfl (hb hby at_361) rfl (l' := #[.val (.int p0), .val (.long q1), .second, .val (.long q2), .second, .val (.int (0 : Int32)), .val (.int (0 : Int32)), .val (.int (1 : Int32)), .val (.int z8), .val (.ref ob5), .val (.ref ob7), .val (.ref ob9), .val (.ref ob12), .val (.ref ob18), .val (.ref t14), .val .null, .val (.int (1 : Int32))]) rfl) ?_
                  show own_G p e below Φ T186 (mkF m 363 #[.val (.int p0), .val (.long q1), .second, .val (.long q2), .second, .val (.int (0 : Int32)), .val (.int (0 : Int32)), .val (.int (1 : Int32)), .val (.int z8), .val (.ref ob5), .val (.ref ob7), .val (.ref ob9), .val (.ref ob12), .val (.ref ob18), .val (.ref t14), .val .null, .val (.int (1 : Int32))] [])
                  refine own_go (fun _ => XS.iload X186.here hx rfl (hb hby at_363) rfl) ?_
                  show own_G p e below Φ T186 (mkF m 365 #[.val (.int p0), .val (.long q1), .second, .val (.long q2), .second, .val (.int (0 : Int32)), .val (.int (0 : Int32)), .val (.int (1 : Int32)), .val (.int z8), .val (.ref ob5), .val (.ref ob7), .val (.ref ob9), .val (.ref ob12), .val (.ref ob18), .val (.ref t14), .val .null, .val (.int (1 : Int32))] [(.int (1 : Int32))])
                  rw [hΦ]
                  refine own_ret X186 (v := some (.int (1 : Int32))) (fun h => by rw [Bd.returns] at h; cases h) (BodyLoose.notSynchronized Bd) (fun fs hr => retN X186 hx (t := .boolean) Bd.returns (by simp) (hb hby at_365) hr) ?_ (by decide) (by decide)
                  rw [hs186]
                  exact ⟨rfl, N186⟩
                · show own_G p e below Φ T137 (mkF m 165 #[.val (.int p0), .val (.long q1), .second, .val (.long q2), .second, .val (.int (1 : Int32)), .val (.int (0 : Int32)), .val (.int (1 : Int32)), .val (.int z8), .val (.ref ob5), .val (.ref ob7), .val (.ref ob9), .val (.ref ob12), .val (.ref ob18), .val (.ref t14), .unset, .unset] [])
                  refine own_go (fun _ => XS.iload X137.here hx rfl (hb hby at_165) rfl) ?_
                  show own_G p e below Φ T137 (mkF m 167 #[.val (.int p0), .val (.long q1), .second, .val (.long q2), .second, .val (.int (1 : Int32)), .val (.int (0 : Int32)), .val (.int (1 : Int32)), .val (.int z8), .val (.ref ob5), .val (.ref ob7), .val (.ref ob9), .val (.ref ob12), .val (.ref ob18), .val (.ref t14), .unset, .unset] [(.int (1 : Int32))])
                  refine own_go (fun _ => XS.ifNo X137.here hx rfl (hb hby at_167) rfl (Jvm.Free.XT.i0_eq_f (by decide : ¬ ((1 : Int32) = (0 : Int32))))) ?_
                  show own_G p e below Φ T137 (mkF m 170 #[.val (.int p0), .val (.long q1), .second, .val (.long q2), .second, .val (.int (1 : Int32)), .val (.int (0 : Int32)), .val (.int (1 : Int32)), .val (.int z8), .val (.ref ob5), .val (.ref ob7), .val (.ref ob9), .val (.ref ob12), .val (.ref ob18), .val (.ref t14), .unset, .unset] [])
                  refine own_go (fun _ => XS.aload X137.here hx rfl (hb hby at_170) rfl rfl) ?_
                  show own_G p e below Φ T137 (mkF m 172 #[.val (.int p0), .val (.long q1), .second, .val (.long q2), .second, .val (.int (1 : Int32)), .val (.int (0 : Int32)), .val (.int (1 : Int32)), .val (.int z8), .val (.ref ob5), .val (.ref ob7), .val (.ref ob9), .val (.ref ob12), .val (.ref ob18), .val (.ref t14), .unset, .unset] [(.ref ob12)])
                  refine own_go (fun _ => XS.goto X137.here hx rfl (pc0 := 172) (pc' := 176) rfl (hb hby at_172) (by decide) (by decide)) ?_
                  show own_G p e below Φ T137 (mkF m 176 #[.val (.int p0), .val (.long q1), .second, .val (.long q2), .second, .val (.int (1 : Int32)), .val (.int (0 : Int32)), .val (.int (1 : Int32)), .val (.int z8), .val (.ref ob5), .val (.ref ob7), .val (.ref ob9), .val (.ref ob12), .val (.ref ob18), .val (.ref t14), .unset, .unset] [(.ref ob12)])
                  refine own_go (fun _ => XS.astore X137.here hx rfl (hb hby at_176) rfl rfl (l' := #[.val (.int p0), .val (.long q1), .second, .val (.long q2), .second, .val (.int (1 : Int32)), .val (.int (0 : Int32)), .val (.int (1 : Int32)), .val (.int z8), .val (.ref ob5), .val (.ref ob7), .val (.ref ob9), .val (.ref ob12), .val (.ref ob18), .val (.ref t14), .val (.ref ob12), .unset]) rfl) ?_
                  show own_G p e below Φ T137 (mkF m 178 #[.val (.int p0), .val (.long q1), .second, .val (.long q2), .second, .val (.int (1 : Int32)), .val (.int (0 : Int32)), .val (.int (1 : Int32)), .val (.int z8), .val (.ref ob5), .val (.ref ob7), .val (.ref ob9), .val (.ref ob12), .val (.ref ob18), .val (.ref t14), .val (.ref ob12), .unset] [])
                  refine own_go (fun _ => XS.aload X137.here hx rfl (hb hby at_178) rfl rfl) ?_
                  show own_G p e below Φ T137 (mkF m 180 #[.val (.int p0), .val (.long q1), .second, .val (.long q2), .second, .val (.int (1 : Int32)), .val (.int (0 : Int32)), .val (.int (1 : Int32)), .val (.int z8), .val (.ref ob5), .val (.ref ob7), .val (.ref ob9), .val (.ref ob12), .val (.ref ob18), .val (.ref t14), .val (.ref ob12), .unset] [(.ref ob9)])
                  refine own_go (fun _ => XS.aload X137.here hx rfl (hb hby at_180) rfl rfl) ?_
                  show own_G p e below Φ T137 (mkF m 182 #[.val (.int p0), .val (.long q1), .second, .val (.long q2), .second, .val (.int (1 : Int32)), .val (.int (0 : Int32)), .val (.int (1 : Int32)), .val (.int z8), .val (.ref ob5), .val (.ref ob7), .val (.ref ob9), .val (.ref ob12), .val (.ref ob18), .val (.ref t14), .val (.ref ob12), .unset] [(.ref t14), (.ref ob9)])
                  refine own_go (fun _ => XS.aload X137.here hx rfl (hb hby at_182) rfl rfl) ?_
                  show own_G p e below Φ T137 (mkF m 184 #[.val (.int p0), .val (.long q1), .second, .val (.long q2), .second, .val (.int (1 : Int32)), .val (.int (0 : Int32)), .val (.int (1 : Int32)), .val (.int z8), .val (.ref ob5), .val (.ref ob7), .val (.ref ob9), .val (.ref ob12), .val (.ref ob18), .val (.ref t14), .val (.ref ob12), .unset] [(.ref ob12), (.ref t14), (.ref ob9)])
                  have f187 : Exa Z h18 ob9 "corro/core/Order" := f24.ext E18
                  have f188 : Exa Z T25.heap ob9 "corro/core/Order" := f187.keep Kq25
                  have f189 : Exa Z T136.heap ob9 "corro/core/Order" := f188.keep Kq136
                  have f190 : Fld Z h12 ob9 "corro/core/Order" "level" "Lcorro/core/Level;" .null := p11_1.ext E12
                  have f191 : Fld Z T17.heap ob9 "corro/core/Order" "level" "Lcorro/core/Level;" .null := f190.keep Kq17 (ninS ne_ob9_ob12 nin0)
                  have f192 : Fld Z h18 ob9 "corro/core/Order" "level" "Lcorro/core/Level;" .null := f191.ext E18
                  have f193 : Fld Z T25.heap ob9 "corro/core/Order" "level" "Lcorro/core/Level;" .null := f192.keep Kq25 (ninS ne_ob9_ob18 nin0)
                  have f194 : Fld Z T136.heap ob9 "corro/core/Order" "level" "Lcorro/core/Level;" .null := f193.keep Kq136 (ninS ne_ob9_ob12 nin0)
                  have f195 : Fld Z h12 ob9 "corro/core/Order" "previous" "Lcorro/core/Order;" .null := p11_2.ext E12
                  have f196 : Fld Z T17.heap ob9 "corro/core/Order" "previous" "Lcorro/core/Order;" .null := f195.keep Kq17 (ninS ne_ob9_ob12 nin0)
                  have f197 : Fld Z h18 ob9 "corro/core/Order" "previous" "Lcorro/core/Order;" .null := f196.ext E18
                  have f198 : Fld Z T25.heap ob9 "corro/core/Order" "previous" "Lcorro/core/Order;" .null := f197.keep Kq25 (ninS ne_ob9_ob18 nin0)
                  have f199 : Fld Z T136.heap ob9 "corro/core/Order" "previous" "Lcorro/core/Order;" .null := f198.keep Kq136 (ninS ne_ob9_ob12 nin0)
                  have f200 : Fld Z h12 ob9 "corro/core/Order" "next" "Lcorro/core/Order;" .null := p11_3.ext E12
                  have f201 : Fld Z T17.heap ob9 "corro/core/Order" "next" "Lcorro/core/Order;" .null := f200.keep Kq17 (ninS ne_ob9_ob12 nin0)
                  have f202 : Fld Z h18 ob9 "corro/core/Order" "next" "Lcorro/core/Order;" .null := f201.ext E18
                  have f203 : Fld Z T25.heap ob9 "corro/core/Order" "next" "Lcorro/core/Order;" .null := f202.keep Kq25 (ninS ne_ob9_ob18 nin0)
                  have f204 : Fld Z T136.heap ob9 "corro/core/Order" "next" "Lcorro/core/Order;" .null := f203.keep Kq136 (ninS ne_ob9_ob12 nin0)
                  have f205 : Fld Z h12 ob9 "corro/core/Order" "quantity" "J" (.long q1) := p11_4.ext E12
                  have f206 : Fld Z T17.heap ob9 "corro/core/Order" "quantity" "J" (.long q1) := f205.keep Kq17 (ninS ne_ob9_ob12 nin0)
                  have f207 : Fld Z h18 ob9 "corro/core/Order" "quantity" "J" (.long q1) := f206.ext E18
                  have f208 : Fld Z T25.heap ob9 "corro/core/Order" "quantity" "J" (.long q1) := f207.keep Kq25 (ninS ne_ob9_ob18 nin0)
                  have f209 : Fld Z T136.heap ob9 "corro/core/Order" "quantity" "J" (.long q1) := f208.keep Kq136 (ninS ne_ob9_ob12 nin0)
                  have f210 : Fld Z h12 ob9 "corro/core/Order" "price" "J" (.long q2) := p11_5.ext E12
                  have f211 : Fld Z T17.heap ob9 "corro/core/Order" "price" "J" (.long q2) := f210.keep Kq17 (ninS ne_ob9_ob12 nin0)
                  have f212 : Fld Z h18 ob9 "corro/core/Order" "price" "J" (.long q2) := f211.ext E18
                  have f213 : Fld Z T25.heap ob9 "corro/core/Order" "price" "J" (.long q2) := f212.keep Kq25 (ninS ne_ob9_ob18 nin0)
                  have f214 : Fld Z T136.heap ob9 "corro/core/Order" "price" "J" (.long q2) := f213.keep Kq136 (ninS ne_ob9_ob12 nin0)
                  obtain ⟨cq215, kq215, q215a, q215b, q215c⟩ := isOf hZ e137 f189
                  obtain ⟨_, _, ⟨T215, zL215, zk215, zn215⟩, -, X215, ⟨Lc215, hQ215, l215, y215, z215⟩, st215⟩ := X137.virtualBack hx (y := (⟨"corro/core/Order", "join", "(Lcorro/core/Level;Lcorro/core/Order;)V"⟩ : MethodName)) (z := (⟨"corro/core/Order", "join", "(Lcorro/core/Level;Lcorro/core/Order;)V"⟩ : MethodName)) hown (mvT hZ (wd_28 hw)) (mvT hZ (wd_29 hw)) (notFace_of_selects (args := #[]) (mvT hZ (wd_31 hw))) (mvT hZ (wd_31 hw)) (mvT hZ (wd_30 hw)) (by decide) (backOf (W := 0) (rmJO l Z a0 hw [] ob9 t14 ob12 .null .null .null (.ref ob5) .null .null q1 q2 q1 q2 T136.heap n0 Zp136 f189 p136_0 f194 f199 f204 f209 f214 p136_1 p136_2 p136_3 p136_4 p136_5 g_ob9 g_ob12 ne_ob9_ob12) hZ (wd_32 hw) (wd_11 hw) (by decide) (by decide)) q215a q215c (g := (mkF m 184 #[.val (.int p0), .val (.long q1), .second, .val (.long q2), .second, .val (.int (1 : Int32)), .val (.int (0 : Int32)), .val (.int (1 : Int32)), .val (.int z8), .val (.ref ob5), .val (.ref ob7), .val (.ref ob9), .val (.ref ob12), .val (.ref ob18), .val (.ref t14), .val (.ref ob12), .unset] [(.ref ob12), (.ref t14), (.ref ob9)])) rfl (by rw [hml]; rfl) (Steps.refl _) (argsL := [(.ref t14), (.ref ob12)]) (rest := []) (lenOf pd_2 rfl) rfl (by show 2 * 0 + _ ≤ _; exact Nat.le_of_eq rfl) (hb hby at_184) (fun _ _ => ⟨rfl, e137, (by decide : 5 + 0 ≤ _), (by decide : 40 + 0 ≤ _)⟩)
                  dsimp only [Pt.U, Pt.locs, Pt.cells, Pt.slots] at X215 l215 y215 z215 st215 hQ215
                  subst l215 y215 z215
                  obtain ⟨rfl, N215q, Kq215, p215_0, p215_1, p215_2, p215_3, p215_4, p215_5, p215_6, p215_7, p215_8, p215_9, p215_10⟩ := hQ215
                  have N215 := Fr.app N136 N215q
                  refine own_on st215 ?_
                  have Zp215 : n0 ≤ T215.heap.size := Nat.le_trans Zp136 Kq215.1
                  show own_G p e below Φ T215 (mkF m 187 #[.val (.int p0), .val (.long q1), .second, .val (.long q2), .second, .val (.int (1 : Int32)), .val (.int (0 : Int32)), .val (.int (1 : Int32)), .val (.int z8), .val (.ref ob5), .val (.ref ob7), .val (.ref ob9), .val (.ref ob12), .val (.ref ob18), .val (.ref t14), .val (.ref ob12), .unset] [])
                  refine own_go (fun _ => XS.aload X215.here hx rfl (hb hby at_187) rfl rfl) ?_
                  show own_G p e below Φ T215 (mkF m 189 #[.val (.int p0), .val (.long q1), .second, .val (.long q2), .second, .val (.int (1 : Int32)), .val (.int (0 : Int32)), .val (.int (1 : Int32)), .val (.int z8), .val (.ref ob5), .val (.ref ob7), .val (.ref ob9), .val (.ref ob12), .val (.ref ob18), .val (.ref t14), .val (.ref ob12), .unset] [(.ref ob9)])
                  obtain ⟨cq216, kq216, q216a, q216b, q216c⟩ := isOf hZ rfl p215_0
                  obtain ⟨_, _, ⟨T216, zL216, zk216, zn216⟩, -, X216, ⟨Lc216, hQ216, l216, y216, z216⟩, st216⟩ := X215.virtualBack hx (y := (⟨"corro/core/Order", "level", "()Lcorro/core/Level;"⟩ : MethodName)) (z := (⟨"corro/core/Order", "level", "()Lcorro/core/Level;"⟩ : MethodName)) hown (mvT hZ (wd_39 hw)) (mvT hZ (wd_40 hw)) (notFace_of_selects (args := #[]) (mvT hZ (wd_42 hw))) (mvT hZ (wd_42 hw)) (mvT hZ (wd_41 hw)) (by decide) (backOf (W := 0) (rmGlevel l Z a0 hw [] ob9 (.ref t14) T215.heap n0 Zp215 p215_1 rfl) hZ (wd_43 hw) (wd_11 hw) (by decide) (by decide)) q216a q216c (g := (mkF m 189 #[.val (.int p0), .val (.long q1), .second, .val (.long q2), .second, .val (.int (1 : Int32)), .val (.int (0 : Int32)), .val (.int (1 : Int32)), .val (.int z8), .val (.ref ob5), .val (.ref ob7), .val (.ref ob9), .val (.ref ob12), .val (.ref ob18), .val (.ref t14), .val (.ref ob12), .unset] [(.ref ob9)])) rfl (by rw [hml]; rfl) (Steps.refl _) (argsL := []) (rest := []) (lenOf pd_3 rfl) rfl (by show 2 * 0 + _ ≤ _; exact Nat.le_of_eq rfl) (hb hby at_189) (fun _ _ => ⟨rfl, rfl, (by decide : 5 + 0 ≤ _), (by decide : 40 + 0 ≤ _)⟩)
                  dsimp only [Pt.U, Pt.locs, Pt.cells, Pt.slots] at X216 l216 y216 z216 st216 hQ216
                  subst l216 y216 z216
                  obtain ⟨rfl, N216q, hs216⟩ := hQ216
                  have N216 := Fr.app N215 N216q
                  refine own_on st216 ?_
                  show own_G p e below Φ T216 (mkF m 192 #[.val (.int p0), .val (.long q1), .second, .val (.long q2), .second, .val (.int (1 : Int32)), .val (.int (0 : Int32)), .val (.int (1 : Int32)), .val (.int z8), .val (.ref ob5), .val (.ref ob7), .val (.ref ob9), .val (.ref ob12), .val (.ref ob18), .val (.ref t14), .val (.ref ob12), .unset] [(.ref t14)])
                  refine own_go (fun _ => XS.aload X216.here hx rfl (hb hby at_192) rfl rfl) ?_
                  show own_G p e below Φ T216 (mkF m 194 #[.val (.int p0), .val (.long q1), .second, .val (.long q2), .second, .val (.int (1 : Int32)), .val (.int (0 : Int32)), .val (.int (1 : Int32)), .val (.int z8), .val (.ref ob5), .val (.ref ob7), .val (.ref ob9), .val (.ref ob12), .val (.ref ob18), .val (.ref t14), .val (.ref ob12), .unset] [(.ref t14), (.ref t14)])
                  refine own_go (fun _ => Jvm.RoadKit.acmp (g := (mkF m 194 #[.val (.int p0), .val (.long q1), .second, .val (.long q2), .second, .val (.int (1 : Int32)), .val (.int (0 : Int32)), .val (.int (1 : Int32)), .val (.int z8), .val (.ref ob5), .val (.ref ob7), .val (.ref ob9), .val (.ref ob12), .val (.ref ob18), .val (.ref t14), .val (.ref ob12), .unset] [(.ref t14), (.ref t14)])) X216 hx rfl rfl rfl (pc0 := 194) (pc' := 197) (same := true) rfl (hb hby at_194) rfl (decide_eq_true rfl) (by decide) (by decide)) ?_
                  show own_G p e below Φ T216 (mkF m 197 #[.val (.int p0), .val (.long q1), .second, .val (.long q2), .second, .val (.int (1 : Int32)), .val (.int (0 : Int32)), .val (.int (1 : Int32)), .val (.int z8), .val (.ref ob5), .val (.ref ob7), .val (.ref ob9), .val (.ref ob12), .val (.ref ob18), .val (.ref t14), .val (.ref ob12), .unset] [])
                  refine own_go (fun _ => XS.aload X216.here hx rfl (hb hby at_197) rfl rfl) ?_
                  show own_G p e below Φ T216 (mkF m 199 #[.val (.int p0), .val (.long q1), .second, .val (.long q2), .second, .val (.int (1 : Int32)), .val (.int (0 : Int32)), .val (.int (1 : Int32)), .val (.int z8), .val (.ref ob5), .val (.ref ob7), .val (.ref ob9), .val (.ref ob12), .val (.ref ob18), .val (.ref t14), .val (.ref ob12), .unset] [(.ref ob9)])
                  obtain ⟨cq217, kq217, q217a, q217b, q217c⟩ := isOf hZ hs216 p215_0
                  obtain ⟨_, _, ⟨T217, zL217, zk217, zn217⟩, -, X217, ⟨Lc217, hQ217, l217, y217, z217⟩, st217⟩ := X216.virtualBack hx (y := (⟨"corro/core/Order", "previous", "()Lcorro/core/Order;"⟩ : MethodName)) (z := (⟨"corro/core/Order", "previous", "()Lcorro/core/Order;"⟩ : MethodName)) hown (mvT hZ (wd_44 hw)) (mvT hZ (wd_45 hw)) (notFace_of_selects (args := #[]) (mvT hZ (wd_47 hw))) (mvT hZ (wd_47 hw)) (mvT hZ (wd_46 hw)) (by decide) (backOf (W := 0) (rmGprevious l Z a0 hw [] ob9 (.ref ob12) T215.heap n0 Zp215 p215_2 rfl) hZ (wd_48 hw) (wd_11 hw) (by decide) (by decide)) q217a q217c (g := (mkF m 199 #[.val (.int p0), .val (.long q1), .second, .val (.long q2), .second, .val (.int (1 : Int32)), .val (.int (0 : Int32)), .val (.int (1 : Int32)), .val (.int z8), .val (.ref ob5), .val (.ref ob7), .val (.ref ob9), .val (.ref ob12), .val (.ref ob18), .val (.ref t14), .val (.ref ob12), .unset] [(.ref ob9)])) rfl (by rw [hml]; rfl) (Steps.refl _) (argsL := []) (rest := []) (lenOf pd_4 rfl) rfl (by show 2 * 0 + _ ≤ _; exact Nat.le_of_eq rfl) (hb hby at_199) (fun _ _ => ⟨rfl, hs216, (by decide : 5 + 0 ≤ _), (by decide : 40 + 0 ≤ _)⟩)
                  dsimp only [Pt.U, Pt.locs, Pt.cells, Pt.slots] at X217 l217 y217 z217 st217 hQ217
                  subst l217 y217 z217
                  obtain ⟨rfl, N217q, hs217⟩ := hQ217
                  have N217 := Fr.app N216 N217q
                  refine own_on st217 ?_
                  show own_G p e below Φ T217 (mkF m 202 #[.val (.int p0), .val (.long q1), .second, .val (.long q2), .second, .val (.int (1 : Int32)), .val (.int (0 : Int32)), .val (.int (1 : Int32)), .val (.int z8), .val (.ref ob5), .val (.ref ob7), .val (.ref ob9), .val (.ref ob12), .val (.ref ob18), .val (.ref t14), .val (.ref ob12), .unset] [(.ref ob12)])
                  refine own_go (fun _ => XS.aload X217.here hx rfl (hb hby at_202) rfl rfl) ?_
                  show own_G p e below Φ T217 (mkF m 204 #[.val (.int p0), .val (.long q1), .second, .val (.long q2), .second, .val (.int (1 : Int32)), .val (.int (0 : Int32)), .val (.int (1 : Int32)), .val (.int z8), .val (.ref ob5), .val (.ref ob7), .val (.ref ob9), .val (.ref ob12), .val (.ref ob18), .val (.ref t14), .val (.ref ob12), .unset] [(.ref ob12), (.ref ob12)])
                  refine own_go (fun _ => Jvm.RoadKit.acmp (g := (mkF m 204 #[.val (.int p0), .val (.long q1), .second, .val (.long q2), .second, .val (.int (1 : Int32)), .val (.int (0 : Int32)), .val (.int (1 : Int32)), .val (.int z8), .val (.ref ob5), .val (.ref ob7), .val (.ref ob9), .val (.ref ob12), .val (.ref ob18), .val (.ref t14), .val (.ref ob12), .unset] [(.ref ob12), (.ref ob12)])) X217 hx rfl rfl rfl (pc0 := 204) (pc' := 207) (same := true) rfl (hb hby at_204) rfl (decide_eq_true rfl) (by decide) (by decide)) ?_
                  show own_G p e below Φ T217 (mkF m 207 #[.val (.int p0), .val (.long q1), .second, .val (.long q2), .second, .val (.int (1 : Int32)), .val (.int (0 : Int32)), .val (.int (1 : Int32)), .val (.int z8), .val (.ref ob5), .val (.ref ob7), .val (.ref ob9), .val (.ref ob12), .val (.ref ob18), .val (.ref t14), .val (.ref ob12), .unset] [])
                  refine own_go (fun _ => XS.aload X217.here hx rfl (hb hby at_207) rfl rfl) ?_
                  show own_G p e below Φ T217 (mkF m 209 #[.val (.int p0), .val (.long q1), .second, .val (.long q2), .second, .val (.int (1 : Int32)), .val (.int (0 : Int32)), .val (.int (1 : Int32)), .val (.int z8), .val (.ref ob5), .val (.ref ob7), .val (.ref ob9), .val (.ref ob12), .val (.ref ob18), .val (.ref t14), .val (.ref ob12), .unset] [(.ref ob9)])
                  obtain ⟨cq218, kq218, q218a, q218b, q218c⟩ := isOf hZ hs217 p215_0
                  obtain ⟨_, _, ⟨T218, zL218, zk218, zn218⟩, -, X218, ⟨Lc218, hQ218, l218, y218, z218⟩, st218⟩ := X217.virtualBack hx (y := (⟨"corro/core/Order", "next", "()Lcorro/core/Order;"⟩ : MethodName)) (z := (⟨"corro/core/Order", "next", "()Lcorro/core/Order;"⟩ : MethodName)) hown (mvT hZ (wd_49 hw)) (mvT hZ (wd_50 hw)) (notFace_of_selects (args := #[]) (mvT hZ (wd_52 hw))) (mvT hZ (wd_52 hw)) (mvT hZ (wd_51 hw)) (by decide) (backOf (W := 0) (rmGnext l Z a0 hw [] ob9 .null T215.heap n0 Zp215 p215_3 rfl) hZ (wd_53 hw) (wd_11 hw) (by decide) (by decide)) q218a q218c (g := (mkF m 209 #[.val (.int p0), .val (.long q1), .second, .val (.long q2), .second, .val (.int (1 : Int32)), .val (.int (0 : Int32)), .val (.int (1 : Int32)), .val (.int z8), .val (.ref ob5), .val (.ref ob7), .val (.ref ob9), .val (.ref ob12), .val (.ref ob18), .val (.ref t14), .val (.ref ob12), .unset] [(.ref ob9)])) rfl (by rw [hml]; rfl) (Steps.refl _) (argsL := []) (rest := []) (lenOf pd_4 rfl) rfl (by show 2 * 0 + _ ≤ _; exact Nat.le_of_eq rfl) (hb hby at_209) (fun _ _ => ⟨rfl, hs217, (by decide : 5 + 0 ≤ _), (by decide : 40 + 0 ≤ _)⟩)
                  dsimp only [Pt.U, Pt.locs, Pt.cells, Pt.slots] at X218 l218 y218 z218 st218 hQ218
                  subst l218 y218 z218
                  obtain ⟨rfl, N218q, hs218⟩ := hQ218
                  have N218 := Fr.app N217 N218q
                  refine own_on st218 ?_
                  show own_G p e below Φ T218 (mkF m 212 #[.val (.int p0), .val (.long q1), .second, .val (.long q2), .second, .val (.int (1 : Int32)), .val (.int (0 : Int32)), .val (.int (1 : Int32)), .val (.int z8), .val (.ref ob5), .val (.ref ob7), .val (.ref ob9), .val (.ref ob12), .val (.ref ob18), .val (.ref t14), .val (.ref ob12), .unset] [.null])
                  refine own_go (fun _ => XS.ifnonnullNo X218.here hx rfl (hb hby at_212) rfl) ?_
                  show own_G p e below Φ T218 (mkF m 215 #[.val (.int p0), .val (.long q1), .second, .val (.long q2), .second, .val (.int (1 : Int32)), .val (.int (0 : Int32)), .val (.int (1 : Int32)), .val (.int z8), .val (.ref ob5), .val (.ref ob7), .val (.ref ob9), .val (.ref ob12), .val (.ref ob18), .val (.ref t14), .val (.ref ob12), .unset] [])
                  refine own_go (fun _ => XS.iconst X218.here hx rfl (hb hby at_215)) ?_
                  show own_G p e below Φ T218 (mkF m 216 #[.val (.int p0), .val (.long q1), .second, .val (.long q2), .second, .val (.int (1 : Int32)), .val (.int (0 : Int32)), .val (.int (1 : Int32)), .val (.int z8), .val (.ref ob5), .val (.ref ob7), .val (.ref ob9), .val (.ref ob12), .val (.ref ob18), .val (.ref t14), .val (.ref ob12), .unset] [(.int (1 : Int32))])
                  refine own_go (fun _ => XS.goto X218.here hx rfl (pc0 := 216) (pc' := 220) rfl (hb hby at_216) (by decide) (by decide)) ?_
                  show own_G p e below Φ T218 (mkF m 220 #[.val (.int p0), .val (.long q1), .second, .val (.long q2), .second, .val (.int (1 : Int32)), .val (.int (0 : Int32)), .val (.int (1 : Int32)), .val (.int z8), .val (.ref ob5), .val (.ref ob7), .val (.ref ob9), .val (.ref ob12), .val (.ref ob18), .val (.ref t14), .val (.ref ob12), .unset] [(.int (1 : Int32))])
                  refine own_go (fun _ => XS.istore X218.here hx rfl (hb hby at_220) rfl (l' := #[.val (.int p0), .val (.long q1), .second, .val (.long q2), .second, .val (.int (1 : Int32)), .val (.int (0 : Int32)), .val (.int (1 : Int32)), .val (.int z8), .val (.ref ob5), .val (.ref ob7), .val (.ref ob9), .val (.ref ob12), .val (.ref ob18), .val (.ref t14), .val (.ref ob12), .val (.int (1 : Int32))]) rfl) ?_
                  show own_G p e below Φ T218 (mkF m 222 #[.val (.int p0), .val (.long q1), .second, .val (.long q2), .second, .val (.int (1 : Int32)), .val (.int (0 : Int32)), .val (.int (1 : Int32)), .val (.int z8), .val (.ref ob5), .val (.ref ob7), .val (.ref ob9), .val (.ref ob12), .val (.ref ob18), .val (.ref t14), .val (.ref ob12), .val (.int (1 : Int32))] [])
                  refine own_go (fun _ => XS.iload X218.here hx rfl (hb hby at_222) rfl) ?_
                  show own_G p e below Φ T218 (mkF m 224 #[.val (.int p0), .val (.long q1), .second, .val (.long q2), .second, .val (.int (1 : Int32)), .val (.int (0 : Int32)), .val (.int (1 : Int32)), .val (.int z8), .val (.ref ob5), .val (.ref ob7), .val (.ref ob9), .val (.ref ob12), .val (.ref ob18), .val (.ref t14), .val (.ref ob12), .val (.int (1 : Int32))] [(.int (1 : Int32))])
                  refine own_go (fun _ => XS.ifNo X218.here hx rfl (hb hby at_224) rfl (Jvm.Free.XT.i0_eq_f (by decide : ¬ ((1 : Int32) = (0 : Int32))))) ?_
                  show own_G p e below Φ T218 (mkF m 227 #[.val (.int p0), .val (.long q1), .second, .val (.long q2), .second, .val (.int (1 : Int32)), .val (.int (0 : Int32)), .val (.int (1 : Int32)), .val (.int z8), .val (.ref ob5), .val (.ref ob7), .val (.ref ob9), .val (.ref ob12), .val (.ref ob18), .val (.ref t14), .val (.ref ob12), .val (.int (1 : Int32))] [])
                  refine own_go (fun _ => XS.aload X218.here hx rfl (hb hby at_227) rfl rfl) ?_
                  show own_G p e below Φ T218 (mkF m 229 #[.val (.int p0), .val (.long q1), .second, .val (.long q2), .second, .val (.int (1 : Int32)), .val (.int (0 : Int32)), .val (.int (1 : Int32)), .val (.int z8), .val (.ref ob5), .val (.ref ob7), .val (.ref ob9), .val (.ref ob12), .val (.ref ob18), .val (.ref t14), .val (.ref ob12), .val (.int (1 : Int32))] [(.ref ob12)])
                  have f220 : Exa Z T215.heap ob12 "corro/core/Order" := p136_0.keep Kq215
                  obtain ⟨cq219, kq219, q219a, q219b, q219c⟩ := isOf hZ hs218 f220
                  obtain ⟨_, _, ⟨T219, zL219, zk219, zn219⟩, -, X219, ⟨Lc219, hQ219, l219, y219, z219⟩, st219⟩ := X218.virtualBack hx (y := (⟨"corro/core/Order", "next", "()Lcorro/core/Order;"⟩ : MethodName)) (z := (⟨"corro/core/Order", "next", "()Lcorro/core/Order;"⟩ : MethodName)) hown (mvT hZ (wd_49 hw)) (mvT hZ (wd_50 hw)) (notFace_of_selects (args := #[]) (mvT hZ (wd_52 hw))) (mvT hZ (wd_52 hw)) (mvT hZ (wd_51 hw)) (by decide) (backOf (W := 0) (rmGnext l Z a0 hw [] ob12 (.ref ob9) T215.heap n0 Zp215 p215_6 rfl) hZ (wd_53 hw) (wd_11 hw) (by decide) (by decide)) q219a q219c (g := (mkF m 229 #[.val (.int p0), .val (.long q1), .second, .val (.long q2), .second, .val (.int (1 : Int32)), .val (.int (0 : Int32)), .val (.int (1 : Int32)), .val (.int z8), .val (.ref ob5), .val (.ref ob7), .val (.ref ob9), .val (.ref ob12), .val (.ref ob18), .val (.ref t14), .val (.ref ob12), .val (.int (1 : Int32))] [(.ref ob12)])) rfl (by rw [hml]; rfl) (Steps.refl _) (argsL := []) (rest := []) (lenOf pd_4 rfl) rfl (by show 2 * 0 + _ ≤ _; exact Nat.le_of_eq rfl) (hb hby at_229) (fun _ _ => ⟨rfl, hs218, (by decide : 5 + 0 ≤ _), (by decide : 40 + 0 ≤ _)⟩)
                  dsimp only [Pt.U, Pt.locs, Pt.cells, Pt.slots] at X219 l219 y219 z219 st219 hQ219
                  subst l219 y219 z219
                  obtain ⟨rfl, N219q, hs219⟩ := hQ219
                  have N219 := Fr.app N218 N219q
                  refine own_on st219 ?_
                  show own_G p e below Φ T219 (mkF m 232 #[.val (.int p0), .val (.long q1), .second, .val (.long q2), .second, .val (.int (1 : Int32)), .val (.int (0 : Int32)), .val (.int (1 : Int32)), .val (.int z8), .val (.ref ob5), .val (.ref ob7), .val (.ref ob9), .val (.ref ob12), .val (.ref ob18), .val (.ref t14), .val (.ref ob12), .val (.int (1 : Int32))] [(.ref ob9)])
                  refine own_go (fun _ => XS.iload X219.here hx rfl (hb hby at_232) rfl) ?_
                  show own_G p e below Φ T219 (mkF m 234 #[.val (.int p0), .val (.long q1), .second, .val (.long q2), .second, .val (.int (1 : Int32)), .val (.int (0 : Int32)), .val (.int (1 : Int32)), .val (.int z8), .val (.ref ob5), .val (.ref ob7), .val (.ref ob9), .val (.ref ob12), .val (.ref ob18), .val (.ref t14), .val (.ref ob12), .val (.int (1 : Int32))] [(.int (1 : Int32)), (.ref ob9)])
                  refine own_go (fun _ => XS.ifNo X219.here hx rfl (hb hby at_234) rfl (Jvm.Free.XT.i0_eq_f (by decide : ¬ ((1 : Int32) = (0 : Int32))))) ?_
                  show own_G p e below Φ T219 (mkF m 237 #[.val (.int p0), .val (.long q1), .second, .val (.long q2), .second, .val (.int (1 : Int32)), .val (.int (0 : Int32)), .val (.int (1 : Int32)), .val (.int z8), .val (.ref ob5), .val (.ref ob7), .val (.ref ob9), .val (.ref ob12), .val (.ref ob18), .val (.ref t14), .val (.ref ob12), .val (.int (1 : Int32))] [(.ref ob9)])
                  refine own_go (fun _ => XS.aload X219.here hx rfl (hb hby at_237) rfl rfl) ?_
                  show own_G p e below Φ T219 (mkF m 239 #[.val (.int p0), .val (.long q1), .second, .val (.long q2), .second, .val (.int (1 : Int32)), .val (.int (0 : Int32)), .val (.int (1 : Int32)), .val (.int z8), .val (.ref ob5), .val (.ref ob7), .val (.ref ob9), .val (.ref ob12), .val (.ref ob18), .val (.ref t14), .val (.ref ob12), .val (.int (1 : Int32))] [(.ref ob9), (.ref ob9)])
                  refine own_go (fun _ => XS.goto X219.here hx rfl (pc0 := 239) (pc' := 243) rfl (hb hby at_239) (by decide) (by decide)) ?_
                  show own_G p e below Φ T219 (mkF m 243 #[.val (.int p0), .val (.long q1), .second, .val (.long q2), .second, .val (.int (1 : Int32)), .val (.int (0 : Int32)), .val (.int (1 : Int32)), .val (.int z8), .val (.ref ob5), .val (.ref ob7), .val (.ref ob9), .val (.ref ob12), .val (.ref ob18), .val (.ref t14), .val (.ref ob12), .val (.int (1 : Int32))] [(.ref ob9), (.ref ob9)])
                  refine own_go (fun _ => Jvm.RoadKit.acmp (g := (mkF m 243 #[.val (.int p0), .val (.long q1), .second, .val (.long q2), .second, .val (.int (1 : Int32)), .val (.int (0 : Int32)), .val (.int (1 : Int32)), .val (.int z8), .val (.ref ob5), .val (.ref ob7), .val (.ref ob9), .val (.ref ob12), .val (.ref ob18), .val (.ref t14), .val (.ref ob12), .val (.int (1 : Int32))] [(.ref ob9), (.ref ob9)])) X219 hx rfl rfl rfl (pc0 := 243) (pc' := 246) (same := true) rfl (hb hby at_243) rfl (decide_eq_true rfl) (by decide) (by decide)) ?_
                  show own_G p e below Φ T219 (mkF m 246 #[.val (.int p0), .val (.long q1), .second, .val (.long q2), .second, .val (.int (1 : Int32)), .val (.int (0 : Int32)), .val (.int (1 : Int32)), .val (.int z8), .val (.ref ob5), .val (.ref ob7), .val (.ref ob9), .val (.ref ob12), .val (.ref ob18), .val (.ref t14), .val (.ref ob12), .val (.int (1 : Int32))] [])
                  refine own_go (fun _ => XS.iconst X219.here hx rfl (hb hby at_246)) ?_
                  show own_G p e below Φ T219 (mkF m 247 #[.val (.int p0), .val (.long q1), .second, .val (.long q2), .second, .val (.int (1 : Int32)), .val (.int (0 : Int32)), .val (.int (1 : Int32)), .val (.int z8), .val (.ref ob5), .val (.ref ob7), .val (.ref ob9), .val (.ref ob12), .val (.ref ob18), .val (.ref t14), .val (.ref ob12), .val (.int (1 : Int32))] [(.int (1 : Int32))])
                  refine own_go (fun _ => XS.goto X219.here hx rfl (pc0 := 247) (pc' := 251) rfl (hb hby at_247) (by decide) (by decide)) ?_
                  show own_G p e below Φ T219 (mkF m 251 #[.val (.int p0), .val (.long q1), .second, .val (.long q2), .second, .val (.int (1 : Int32)), .val (.int (0 : Int32)), .val (.int (1 : Int32)), .val (.int z8), .val (.ref ob5), .val (.ref ob7), .val (.ref ob9), .val (.ref ob12), .val (.ref ob18), .val (.ref t14), .val (.ref ob12), .val (.int (1 : Int32))] [(.int (1 : Int32))])
                  refine own_go (fun _ => XS.istore X219.here hx rfl (hb hby at_251) rfl (l' := #[.val (.int p0), .val (.long q1), .second, .val (.long q2), .second, .val (.int (1 : Int32)), .val (.int (0 : Int32)), .val (.int (1 : Int32)), .val (.int z8), .val (.ref ob5), .val (.ref ob7), .val (.ref ob9), .val (.ref ob12), .val (.ref ob18), .val (.ref t14), .val (.ref ob12), .val (.int (1 : Int32))]) rfl) ?_
                  show own_G p e below Φ T219 (mkF m 253 #[.val (.int p0), .val (.long q1), .second, .val (.long q2), .second, .val (.int (1 : Int32)), .val (.int (0 : Int32)), .val (.int (1 : Int32)), .val (.int z8), .val (.ref ob5), .val (.ref ob7), .val (.ref ob9), .val (.ref ob12), .val (.ref ob18), .val (.ref t14), .val (.ref ob12), .val (.int (1 : Int32))] [])
                  refine own_go (fun _ => XS.iload X219.here hx rfl (hb hby at_253) rfl) ?_
                  show own_G p e below Φ T219 (mkF m 255 #[.val (.int p0), .val (.long q1), .second, .val (.long q2), .second, .val (.int (1 : Int32)), .val (.int (0 : Int32)), .val (.int (1 : Int32)), .val (.int z8), .val (.ref ob5), .val (.ref ob7), .val (.ref ob9), .val (.ref ob12), .val (.ref ob18), .val (.ref t14), .val (.ref ob12), .val (.int (1 : Int32))] [(.int (1 : Int32))])
                  refine own_go (fun _ => XS.ifNo X219.here hx rfl (hb hby at_255) rfl (Jvm.Free.XT.i0_eq_f (by decide : ¬ ((1 : Int32) = (0 : Int32))))) ?_
                  show own_G p e below Φ T219 (mkF m 258 #[.val (.int p0), .val (.long q1), .second, .val (.long q2), .second, .val (.int (1 : Int32)), .val (.int (0 : Int32)), .val (.int (1 : Int32)), .val (.int z8), .val (.ref ob5), .val (.ref ob7), .val (.ref ob9), .val (.ref ob12), .val (.ref ob18), .val (.ref t14), .val (.ref ob12), .val (.int (1 : Int32))] [])
                  refine own_go (fun _ => XS.aload X219.here hx rfl (hb hby at_258) rfl rfl) ?_
                  show own_G p e below Φ T219 (mkF m 260 #[.val (.int p0), .val (.long q1), .second, .val (.long q2), .second, .val (.int (1 : Int32)), .val (.int (0 : Int32)), .val (.int (1 : Int32)), .val (.int z8), .val (.ref ob5), .val (.ref ob7), .val (.ref ob9), .val (.ref ob12), .val (.ref ob18), .val (.ref t14), .val (.ref ob12), .val (.int (1 : Int32))] [(.ref ob12)])
                  obtain ⟨cq221, kq221, q221a, q221b, q221c⟩ := isOf hZ hs219 f220
                  obtain ⟨_, _, ⟨T221, zL221, zk221, zn221⟩, -, X221, ⟨Lc221, hQ221, l221, y221, z221⟩, st221⟩ := X219.virtualBack hx (y := (⟨"corro/core/Order", "previous", "()Lcorro/core/Order;"⟩ : MethodName)) (z := (⟨"corro/core/Order", "previous", "()Lcorro/core/Order;"⟩ : MethodName)) hown (mvT hZ (wd_44 hw)) (mvT hZ (wd_45 hw)) (notFace_of_selects (args := #[]) (mvT hZ (wd_47 hw))) (mvT hZ (wd_47 hw)) (mvT hZ (wd_46 hw)) (by decide) (backOf (W := 0) (rmGprevious l Z a0 hw [] ob12 .null T215.heap n0 Zp215 p215_5 rfl) hZ (wd_48 hw) (wd_11 hw) (by decide) (by decide)) q221a q221c (g := (mkF m 260 #[.val (.int p0), .val (.long q1), .second, .val (.long q2), .second, .val (.int (1 : Int32)), .val (.int (0 : Int32)), .val (.int (1 : Int32)), .val (.int z8), .val (.ref ob5), .val (.ref ob7), .val (.ref ob9), .val (.ref ob12), .val (.ref ob18), .val (.ref t14), .val (.ref ob12), .val (.int (1 : Int32))] [(.ref ob12)])) rfl (by rw [hml]; rfl) (Steps.refl _) (argsL := []) (rest := []) (lenOf pd_4 rfl) rfl (by show 2 * 0 + _ ≤ _; exact Nat.le_of_eq rfl) (hb hby at_260) (fun _ _ => ⟨rfl, hs219, (by decide : 5 + 0 ≤ _), (by decide : 40 + 0 ≤ _)⟩)
                  dsimp only [Pt.U, Pt.locs, Pt.cells, Pt.slots] at X221 l221 y221 z221 st221 hQ221
                  subst l221 y221 z221
                  obtain ⟨rfl, N221q, hs221⟩ := hQ221
                  have N221 := Fr.app N219 N221q
                  refine own_on st221 ?_
                  show own_G p e below Φ T221 (mkF m 263 #[.val (.int p0), .val (.long q1), .second, .val (.long q2), .second, .val (.int (1 : Int32)), .val (.int (0 : Int32)), .val (.int (1 : Int32)), .val (.int z8), .val (.ref ob5), .val (.ref ob7), .val (.ref ob9), .val (.ref ob12), .val (.ref ob18), .val (.ref t14), .val (.ref ob12), .val (.int (1 : Int32))] [.null])
                  refine own_go (fun _ => XS.ifnonnullNo X221.here hx rfl (hb hby at_263) rfl) ?_
                  show own_G p e below Φ T221 (mkF m 266 #[.val (.int p0), .val (.long q1), .second, .val (.long q2), .second, .val (.int (1 : Int32)), .val (.int (0 : Int32)), .val (.int (1 : Int32)), .val (.int z8), .val (.ref ob5), .val (.ref ob7), .val (.ref ob9), .val (.ref ob12), .val (.ref ob18), .val (.ref t14), .val (.ref ob12), .val (.int (1 : Int32))] [])
                  refine own_go (fun _ => XS.aload X221.here hx rfl (hb hby at_266) rfl rfl) ?_
                  show own_G p e below Φ T221 (mkF m 268 #[.val (.int p0), .val (.long q1), .second, .val (.long q2), .second, .val (.int (1 : Int32)), .val (.int (0 : Int32)), .val (.int (1 : Int32)), .val (.int z8), .val (.ref ob5), .val (.ref ob7), .val (.ref ob9), .val (.ref ob12), .val (.ref ob18), .val (.ref t14), .val (.ref ob12), .val (.int (1 : Int32))] [(.ref ob12)])
                  obtain ⟨cq222, kq222, q222a, q222b, q222c⟩ := isOf hZ hs221 f220
                  obtain ⟨_, _, ⟨T222, zL222, zk222, zn222⟩, -, X222, ⟨Lc222, hQ222, l222, y222, z222⟩, st222⟩ := X221.virtualBack hx (y := (⟨"corro/core/Order", "level", "()Lcorro/core/Level;"⟩ : MethodName)) (z := (⟨"corro/core/Order", "level", "()Lcorro/core/Level;"⟩ : MethodName)) hown (mvT hZ (wd_39 hw)) (mvT hZ (wd_40 hw)) (notFace_of_selects (args := #[]) (mvT hZ (wd_42 hw))) (mvT hZ (wd_42 hw)) (mvT hZ (wd_41 hw)) (by decide) (backOf (W := 0) (rmGlevel l Z a0 hw [] ob12 (.ref ob5) T215.heap n0 Zp215 p215_4 rfl) hZ (wd_43 hw) (wd_11 hw) (by decide) (by decide)) q222a q222c (g := (mkF m 268 #[.val (.int p0), .val (.long q1), .second, .val (.long q2), .second, .val (.int (1 : Int32)), .val (.int (0 : Int32)), .val (.int (1 : Int32)), .val (.int z8), .val (.ref ob5), .val (.ref ob7), .val (.ref ob9), .val (.ref ob12), .val (.ref ob18), .val (.ref t14), .val (.ref ob12), .val (.int (1 : Int32))] [(.ref ob12)])) rfl (by rw [hml]; rfl) (Steps.refl _) (argsL := []) (rest := []) (lenOf pd_3 rfl) rfl (by show 2 * 0 + _ ≤ _; exact Nat.le_of_eq rfl) (hb hby at_268) (fun _ _ => ⟨rfl, hs221, (by decide : 5 + 0 ≤ _), (by decide : 40 + 0 ≤ _)⟩)
                  dsimp only [Pt.U, Pt.locs, Pt.cells, Pt.slots] at X222 l222 y222 z222 st222 hQ222
                  subst l222 y222 z222
                  obtain ⟨rfl, N222q, hs222⟩ := hQ222
                  have N222 := Fr.app N221 N222q
                  refine own_on st222 ?_
                  show own_G p e below Φ T222 (mkF m 271 #[.val (.int p0), .val (.long q1), .second, .val (.long q2), .second, .val (.int (1 : Int32)), .val (.int (0 : Int32)), .val (.int (1 : Int32)), .val (.int z8), .val (.ref ob5), .val (.ref ob7), .val (.ref ob9), .val (.ref ob12), .val (.ref ob18), .val (.ref t14), .val (.ref ob12), .val (.int (1 : Int32))] [(.ref ob5)])
                  refine own_go (fun _ => XS.iload X222.here hx rfl (hb hby at_271) rfl) ?_
                  show own_G p e below Φ T222 (mkF m 273 #[.val (.int p0), .val (.long q1), .second, .val (.long q2), .second, .val (.int (1 : Int32)), .val (.int (0 : Int32)), .val (.int (1 : Int32)), .val (.int z8), .val (.ref ob5), .val (.ref ob7), .val (.ref ob9), .val (.ref ob12), .val (.ref ob18), .val (.ref t14), .val (.ref ob12), .val (.int (1 : Int32))] [(.int (1 : Int32)), (.ref ob5)])
                  refine own_go (fun _ => XS.ifNo X222.here hx rfl (hb hby at_273) rfl (Jvm.Free.XT.i0_eq_f (by decide : ¬ ((1 : Int32) = (0 : Int32))))) ?_
                  show own_G p e below Φ T222 (mkF m 276 #[.val (.int p0), .val (.long q1), .second, .val (.long q2), .second, .val (.int (1 : Int32)), .val (.int (0 : Int32)), .val (.int (1 : Int32)), .val (.int z8), .val (.ref ob5), .val (.ref ob7), .val (.ref ob9), .val (.ref ob12), .val (.ref ob18), .val (.ref t14), .val (.ref ob12), .val (.int (1 : Int32))] [(.ref ob5)])
                  refine own_go (fun _ => XS.aload X222.here hx rfl (hb hby at_276) rfl rfl) ?_
                  show own_G p e below Φ T222 (mkF m 278 #[.val (.int p0), .val (.long q1), .second, .val (.long q2), .second, .val (.int (1 : Int32)), .val (.int (0 : Int32)), .val (.int (1 : Int32)), .val (.int z8), .val (.ref ob5), .val (.ref ob7), .val (.ref ob9), .val (.ref ob12), .val (.ref ob18), .val (.ref t14), .val (.ref ob12), .val (.int (1 : Int32))] [(.ref ob5), (.ref ob5)])
                  refine own_go (fun _ => XS.goto X222.here hx rfl (pc0 := 278) (pc' := 282) rfl (hb hby at_278) (by decide) (by decide)) ?_
                  show own_G p e below Φ T222 (mkF m 282 #[.val (.int p0), .val (.long q1), .second, .val (.long q2), .second, .val (.int (1 : Int32)), .val (.int (0 : Int32)), .val (.int (1 : Int32)), .val (.int z8), .val (.ref ob5), .val (.ref ob7), .val (.ref ob9), .val (.ref ob12), .val (.ref ob18), .val (.ref t14), .val (.ref ob12), .val (.int (1 : Int32))] [(.ref ob5), (.ref ob5)])
                  refine own_go (fun _ => Jvm.RoadKit.acmp (g := (mkF m 282 #[.val (.int p0), .val (.long q1), .second, .val (.long q2), .second, .val (.int (1 : Int32)), .val (.int (0 : Int32)), .val (.int (1 : Int32)), .val (.int z8), .val (.ref ob5), .val (.ref ob7), .val (.ref ob9), .val (.ref ob12), .val (.ref ob18), .val (.ref t14), .val (.ref ob12), .val (.int (1 : Int32))] [(.ref ob5), (.ref ob5)])) X222 hx rfl rfl rfl (pc0 := 282) (pc' := 285) (same := true) rfl (hb hby at_282) rfl (decide_eq_true rfl) (by decide) (by decide)) ?_
                  show own_G p e below Φ T222 (mkF m 285 #[.val (.int p0), .val (.long q1), .second, .val (.long q2), .second, .val (.int (1 : Int32)), .val (.int (0 : Int32)), .val (.int (1 : Int32)), .val (.int z8), .val (.ref ob5), .val (.ref ob7), .val (.ref ob9), .val (.ref ob12), .val (.ref ob18), .val (.ref t14), .val (.ref ob12), .val (.int (1 : Int32))] [])
                  refine own_go (fun _ => XS.iconst X222.here hx rfl (hb hby at_285)) ?_
                  show own_G p e below Φ T222 (mkF m 286 #[.val (.int p0), .val (.long q1), .second, .val (.long q2), .second, .val (.int (1 : Int32)), .val (.int (0 : Int32)), .val (.int (1 : Int32)), .val (.int z8), .val (.ref ob5), .val (.ref ob7), .val (.ref ob9), .val (.ref ob12), .val (.ref ob18), .val (.ref t14), .val (.ref ob12), .val (.int (1 : Int32))] [(.int (1 : Int32))])
                  refine own_go (fun _ => XS.goto X222.here hx rfl (pc0 := 286) (pc' := 290) rfl (hb hby at_286) (by decide) (by decide)) ?_
                  show own_G p e below Φ T222 (mkF m 290 #[.val (.int p0), .val (.long q1), .second, .val (.long q2), .second, .val (.int (1 : Int32)), .val (.int (0 : Int32)), .val (.int (1 : Int32)), .val (.int z8), .val (.ref ob5), .val (.ref ob7), .val (.ref ob9), .val (.ref ob12), .val (.ref ob18), .val (.ref t14), .val (.ref ob12), .val (.int (1 : Int32))] [(.int (1 : Int32))])
                  refine own_go (fun _ => XS.istore X222.here hx rfl (hb hby at_290) rfl (l' := #[.val (.int p0), .val (.long q1), .second, .val (.long q2), .second, .val (.int (1 : Int32)), .val (.int (0 : Int32)), .val (.int (1 : Int32)), .val (.int z8), .val (.ref ob5), .val (.ref ob7), .val (.ref ob9), .val (.ref ob12), .val (.ref ob18), .val (.ref t14), .val (.ref ob12), .val (.int (1 : Int32))]) rfl) ?_
                  show own_G p e below Φ T222 (mkF m 292 #[.val (.int p0), .val (.long q1), .second, .val (.long q2), .second, .val (.int (1 : Int32)), .val (.int (0 : Int32)), .val (.int (1 : Int32)), .val (.int z8), .val (.ref ob5), .val (.ref ob7), .val (.ref ob9), .val (.ref ob12), .val (.ref ob18), .val (.ref t14), .val (.ref ob12), .val (.int (1 : Int32))] [])
                  refine own_go (fun _ => XS.iload X222.here hx rfl (hb hby at_292) rfl) ?_
                  show own_G p e below Φ T222 (mkF m 294 #[.val (.int p0), .val (.long q1), .second, .val (.long q2), .second, .val (.int (1 : Int32)), .val (.int (0 : Int32)), .val (.int (1 : Int32)), .val (.int z8), .val (.ref ob5), .val (.ref ob7), .val (.ref ob9), .val (.ref ob12), .val (.ref ob18), .val (.ref t14), .val (.ref ob12), .val (.int (1 : Int32))] [(.int (1 : Int32))])
                  refine own_go (fun _ => XS.ifNo X222.here hx rfl (hb hby at_294) rfl (Jvm.Free.XT.i0_eq_f (by decide : ¬ ((1 : Int32) = (0 : Int32))))) ?_
                  show own_G p e below Φ T222 (mkF m 297 #[.val (.int p0), .val (.long q1), .second, .val (.long q2), .second, .val (.int (1 : Int32)), .val (.int (0 : Int32)), .val (.int (1 : Int32)), .val (.int z8), .val (.ref ob5), .val (.ref ob7), .val (.ref ob9), .val (.ref ob12), .val (.ref ob18), .val (.ref t14), .val (.ref ob12), .val (.int (1 : Int32))] [])
                  refine own_go (fun _ => XS.aload X222.here hx rfl (hb hby at_297) rfl rfl) ?_
                  show own_G p e below Φ T222 (mkF m 299 #[.val (.int p0), .val (.long q1), .second, .val (.long q2), .second, .val (.int (1 : Int32)), .val (.int (0 : Int32)), .val (.int (1 : Int32)), .val (.int z8), .val (.ref ob5), .val (.ref ob7), .val (.ref ob9), .val (.ref ob12), .val (.ref ob18), .val (.ref t14), .val (.ref ob12), .val (.int (1 : Int32))] [(.ref ob18)])
                  have f223 : Fld Z T136.heap ob18 "corro/core/Order" "previous" "Lcorro/core/Order;" .null := p25_2.keep Kq136 (ninS (Ne.symm ne_ob12_ob18) nin0)
                  have f224 : Fld Z T215.heap ob18 "corro/core/Order" "previous" "Lcorro/core/Order;" .null := f223.keep Kq215 (ninS (Ne.symm ne_ob9_ob18) (ninS (Ne.symm ne_ob12_ob18) nin0))
                  have f226 : Exa Z T136.heap ob18 "corro/core/Order" := p25_0.keep Kq136
                  have f227 : Exa Z T215.heap ob18 "corro/core/Order" := f226.keep Kq215
                  obtain ⟨cq225, kq225, q225a, q225b, q225c⟩ := isOf hZ hs222 f227
                  obtain ⟨_, _, ⟨T225, zL225, zk225, zn225⟩, -, X225, ⟨Lc225, hQ225, l225, y225, z225⟩, st225⟩ := X222.virtualBack hx (y := (⟨"corro/core/Order", "previous", "()Lcorro/core/Order;"⟩ : MethodName)) (z := (⟨"corro/core/Order", "previous", "()Lcorro/core/Order;"⟩ : MethodName)) hown (mvT hZ (wd_44 hw)) (mvT hZ (wd_45 hw)) (notFace_of_selects (args := #[]) (mvT hZ (wd_47 hw))) (mvT hZ (wd_47 hw)) (mvT hZ (wd_46 hw)) (by decide) (backOf (W := 0) (rmGprevious l Z a0 hw [] ob18 .null T215.heap n0 Zp215 f224 rfl) hZ (wd_48 hw) (wd_11 hw) (by decide) (by decide)) q225a q225c (g := (mkF m 299 #[.val (.int p0), .val (.long q1), .second, .val (.long q2), .second, .val (.int (1 : Int32)), .val (.int (0 : Int32)), .val (.int (1 : Int32)), .val (.int z8), .val (.ref ob5), .val (.ref ob7), .val (.ref ob9), .val (.ref ob12), .val (.ref ob18), .val (.ref t14), .val (.ref ob12), .val (.int (1 : Int32))] [(.ref ob18)])) rfl (by rw [hml]; rfl) (Steps.refl _) (argsL := []) (rest := []) (lenOf pd_4 rfl) rfl (by show 2 * 0 + _ ≤ _; exact Nat.le_of_eq rfl) (hb hby at_299) (fun _ _ => ⟨rfl, hs222, (by decide : 5 + 0 ≤ _), (by decide : 40 + 0 ≤ _)⟩)
                  dsimp only [Pt.U, Pt.locs, Pt.cells, Pt.slots] at X225 l225 y225 z225 st225 hQ225
                  subst l225 y225 z225
                  obtain ⟨rfl, N225q, hs225⟩ := hQ225
                  have N225 := Fr.app N222 N225q
                  refine own_on st225 ?_
                  show own_G p e below Φ T225 (mkF m 302 #[.val (.int p0), .val (.long q1), .second, .val (.long q2), .second, .val (.int (1 : Int32)), .val (.int (0 : Int32)), .val (.int (1 : Int32)), .val (.int z8), .val (.ref ob5), .val (.ref ob7), .val (.ref ob9), .val (.ref ob12), .val (.ref ob18), .val (.ref t14), .val (.ref ob12), .val (.int (1 : Int32))] [.null])
                  refine own_go (fun _ => XS.iload X225.here hx rfl (hb hby at_302) rfl) ?_
                  show own_G p e below Φ T225 (mkF m 304 #[.val (.int p0), .val (.long q1), .second, .val (.long q2), .second, .val (.int (1 : Int32)), .val (.int (0 : Int32)), .val (.int (1 : Int32)), .val (.int z8), .val (.ref ob5), .val (.ref ob7), .val (.ref ob9), .val (.ref ob12), .val (.ref ob18), .val (.ref t14), .val (.ref ob12), .val (.int (1 : Int32))] [(.int (0 : Int32)), .null])
                  refine own_go (fun _ => XS.ifYes X225.here hx rfl (pc0 := 304) (pc' := 312) rfl (hb hby at_304) rfl (Jvm.Free.XT.i0_eq_t (by decide : ((0 : Int32) = (0 : Int32)))) (by decide) (by decide)) ?_
                  show own_G p e below Φ T225 (mkF m 312 #[.val (.int p0), .val (.long q1), .second, .val (.long q2), .second, .val (.int (1 : Int32)), .val (.int (0 : Int32)), .val (.int (1 : Int32)), .val (.int z8), .val (.ref ob5), .val (.ref ob7), .val (.ref ob9), .val (.ref ob12), .val (.ref ob18), .val (.ref t14), .val (.ref ob12), .val (.int (1 : Int32))] [.null])
                  refine own_go (fun _ => XS.aconstNull X225.here hx rfl (hb hby at_312)) ?_
                  show own_G p e below Φ T225 (mkF m 313 #[.val (.int p0), .val (.long q1), .second, .val (.long q2), .second, .val (.int (1 : Int32)), .val (.int (0 : Int32)), .val (.int (1 : Int32)), .val (.int z8), .val (.ref ob5), .val (.ref ob7), .val (.ref ob9), .val (.ref ob12), .val (.ref ob18), .val (.ref t14), .val (.ref ob12), .val (.int (1 : Int32))] [.null, .null])
                  refine own_go (fun _ => Jvm.RoadKit.acmp (g := (mkF m 313 #[.val (.int p0), .val (.long q1), .second, .val (.long q2), .second, .val (.int (1 : Int32)), .val (.int (0 : Int32)), .val (.int (1 : Int32)), .val (.int z8), .val (.ref ob5), .val (.ref ob7), .val (.ref ob9), .val (.ref ob12), .val (.ref ob18), .val (.ref t14), .val (.ref ob12), .val (.int (1 : Int32))] [.null, .null])) X225 hx rfl rfl rfl (pc0 := 313) (pc' := 316) (same := true) rfl (hb hby at_313) rfl (decide_eq_true rfl) (by decide) (by decide)) ?_
                  show own_G p e below Φ T225 (mkF m 316 #[.val (.int p0), .val (.long q1), .second, .val (.long q2), .second, .val (.int (1 : Int32)), .val (.int (0 : Int32)), .val (.int (1 : Int32)), .val (.int z8), .val (.ref ob5), .val (.ref ob7), .val (.ref ob9), .val (.ref ob12), .val (.ref ob18), .val (.ref t14), .val (.ref ob12), .val (.int (1 : Int32))] [])
                  refine own_go (fun _ => XS.aload X225.here hx rfl (hb hby at_316) rfl rfl) ?_
                  show own_G p e below Φ T225 (mkF m 318 #[.val (.int p0), .val (.long q1), .second, .val (.long q2), .second, .val (.int (1 : Int32)), .val (.int (0 : Int32)), .val (.int (1 : Int32)), .val (.int z8), .val (.ref ob5), .val (.ref ob7), .val (.ref ob9), .val (.ref ob12), .val (.ref ob18), .val (.ref t14), .val (.ref ob12), .val (.int (1 : Int32))] [(.ref ob18)])
                  have f228 : Fld Z T136.heap ob18 "corro/core/Order" "next" "Lcorro/core/Order;" .null := p25_3.keep Kq136 (ninS (Ne.symm ne_ob12_ob18) nin0)
                  have f229 : Fld Z T215.heap ob18 "corro/core/Order" "next" "Lcorro/core/Order;" .null := f228.keep Kq215 (ninS (Ne.symm ne_ob9_ob18) (ninS (Ne.symm ne_ob12_ob18) nin0))
                  obtain ⟨cq230, kq230, q230a, q230b, q230c⟩ := isOf hZ hs225 f227
                  obtain ⟨_, _, ⟨T230, zL230, zk230, zn230⟩, -, X230, ⟨Lc230, hQ230, l230, y230, z230⟩, st230⟩ := X225.virtualBack hx (y := (⟨"corro/core/Order", "next", "()Lcorro/core/Order;"⟩ : MethodName)) (z := (⟨"corro/core/Order", "next", "()Lcorro/core/Order;"⟩ : MethodName)) hown (mvT hZ (wd_49 hw)) (mvT hZ (wd_50 hw)) (notFace_of_selects (args := #[]) (mvT hZ (wd_52 hw))) (mvT hZ (wd_52 hw)) (mvT hZ (wd_51 hw)) (by decide) (backOf (W := 0) (rmGnext l Z a0 hw [] ob18 .null T215.heap n0 Zp215 f229 rfl) hZ (wd_53 hw) (wd_11 hw) (by decide) (by decide)) q230a q230c (g := (mkF m 318 #[.val (.int p0), .val (.long q1), .second, .val (.long q2), .second, .val (.int (1 : Int32)), .val (.int (0 : Int32)), .val (.int (1 : Int32)), .val (.int z8), .val (.ref ob5), .val (.ref ob7), .val (.ref ob9), .val (.ref ob12), .val (.ref ob18), .val (.ref t14), .val (.ref ob12), .val (.int (1 : Int32))] [(.ref ob18)])) rfl (by rw [hml]; rfl) (Steps.refl _) (argsL := []) (rest := []) (lenOf pd_4 rfl) rfl (by show 2 * 0 + _ ≤ _; exact Nat.le_of_eq rfl) (hb hby at_318) (fun _ _ => ⟨rfl, hs225, (by decide : 5 + 0 ≤ _), (by decide : 40 + 0 ≤ _)⟩)
                  dsimp only [Pt.U, Pt.locs, Pt.cells, Pt.slots] at X230 l230 y230 z230 st230 hQ230
                  subst l230 y230 z230
                  obtain ⟨rfl, N230q, hs230⟩ := hQ230
                  have N230 := Fr.app N225 N230q
                  refine own_on st230 ?_
                  show own_G p e below Φ T230 (mkF m 321 #[.val (.int p0), .val (.long q1), .second, .val (.long q2), .second, .val (.int (1 : Int32)), .val (.int (0 : Int32)), .val (.int (1 : Int32)), .val (.int z8), .val (.ref ob5), .val (.ref ob7), .val (.ref ob9), .val (.ref ob12), .val (.ref ob18), .val (.ref t14), .val (.ref ob12), .val (.int (1 : Int32))] [.null])
                  refine own_go (fun _ => XS.ifnonnullNo X230.here hx rfl (hb hby at_321) rfl) ?_
                  show own_G p e below Φ T230 (mkF m 324 #[.val (.int p0), .val (.long q1), .second, .val (.long q2), .second, .val (.int (1 : Int32)), .val (.int (0 : Int32)), .val (.int (1 : Int32)), .val (.int z8), .val (.ref ob5), .val (.ref ob7), .val (.ref ob9), .val (.ref ob12), .val (.ref ob18), .val (.ref t14), .val (.ref ob12), .val (.int (1 : Int32))] [])
                  refine own_go (fun _ => XS.iconst X230.here hx rfl (hb hby at_324)) ?_
                  show own_G p e below Φ T230 (mkF m 325 #[.val (.int p0), .val (.long q1), .second, .val (.long q2), .second, .val (.int (1 : Int32)), .val (.int (0 : Int32)), .val (.int (1 : Int32)), .val (.int z8), .val (.ref ob5), .val (.ref ob7), .val (.ref ob9), .val (.ref ob12), .val (.ref ob18), .val (.ref t14), .val (.ref ob12), .val (.int (1 : Int32))] [(.int (1 : Int32))])
                  refine own_go (fun _ => XS.goto X230.here hx rfl (pc0 := 325) (pc' := 329) rfl (hb hby at_325) (by decide) (by decide)) ?_
                  show own_G p e below Φ T230 (mkF m 329 #[.val (.int p0), .val (.long q1), .second, .val (.long q2), .second, .val (.int (1 : Int32)), .val (.int (0 : Int32)), .val (.int (1 : Int32)), .val (.int z8), .val (.ref ob5), .val (.ref ob7), .val (.ref ob9), .val (.ref ob12), .val (.ref ob18), .val (.ref t14), .val (.ref ob12), .val (.int (1 : Int32))] [(.int (1 : Int32))])
                  refine own_go (fun _ => XS.istore X230.here hx rfl (hb hby at_329) rfl (l' := #[.val (.int p0), .val (.long q1), .second, .val (.long q2), .second, .val (.int (1 : Int32)), .val (.int (0 : Int32)), .val (.int (1 : Int32)), .val (.int z8), .val (.ref ob5), .val (.ref ob7), .val (.ref ob9), .val (.ref ob12), .val (.ref ob18), .val (.ref t14), .val (.ref ob12), .val (.int (1 : Int32))]) rfl) ?_
                  show own_G p e below Φ T230 (mkF m 331 #[.val (.int p0), .val (.long q1), .second, .val (.long q2), .second, .val (.int (1 : Int32)), .val (.int (0 : Int32)), .val (.int (1 : Int32)), .val (.int z8), .val (.ref ob5), .val (.ref ob7), .val (.ref ob9), .val (.ref ob12), .val (.ref ob18), .val (.ref t14), .val (.ref ob12), .val (.int (1 : Int32))] [])
                  refine own_go (fun _ => XS.iload X230.here hx rfl (hb hby at_331) rfl) ?_
                  show own_G p e below Φ T230 (mkF m 333 #[.val (.int p0), .val (.long q1), .second, .val (.long q2), .second, .val (.int (1 : Int32)), .val (.int (0 : Int32)), .val (.int (1 : Int32)), .val (.int z8), .val (.ref ob5), .val (.ref ob7), .val (.ref ob9), .val (.ref ob12), .val (.ref ob18), .val (.ref t14), .val (.ref ob12), .val (.int (1 : Int32))] [(.int (1 : Int32))])
                  refine own_go (fun _ => XS.ifNo X230.here hx rfl (hb hby at_333) rfl (Jvm.Free.XT.i0_eq_f (by decide : ¬ ((1 : Int32) = (0 : Int32))))) ?_
                  show own_G p e below Φ T230 (mkF m 336 #[.val (.int p0), .val (.long q1), .second, .val (.long q2), .second, .val (.int (1 : Int32)), .val (.int (0 : Int32)), .val (.int (1 : Int32)), .val (.int z8), .val (.ref ob5), .val (.ref ob7), .val (.ref ob9), .val (.ref ob12), .val (.ref ob18), .val (.ref t14), .val (.ref ob12), .val (.int (1 : Int32))] [])
                  refine own_go (fun _ => XS.aload X230.here hx rfl (hb hby at_336) rfl rfl) ?_
                  show own_G p e below Φ T230 (mkF m 338 #[.val (.int p0), .val (.long q1), .second, .val (.long q2), .second, .val (.int (1 : Int32)), .val (.int (0 : Int32)), .val (.int (1 : Int32)), .val (.int z8), .val (.ref ob5), .val (.ref ob7), .val (.ref ob9), .val (.ref ob12), .val (.ref ob18), .val (.ref t14), .val (.ref ob12), .val (.int (1 : Int32))] [(.ref ob9)])
                  obtain ⟨cq231, kq231, q231a, q231b, q231c⟩ := isOf hZ hs230 p215_0
                  obtain ⟨_, _, ⟨T231, zL231, zk231, zn231⟩, -, X231, ⟨Lc231, hQ231, l231, y231, z231⟩, st231⟩ := X230.virtualBack hx (y := (⟨"corro/core/Order", "quantity", "()J"⟩ : MethodName)) (z := (⟨"corro/core/Order", "quantity", "()J"⟩ : MethodName)) hown (mvT hZ (wd_54 hw)) (mvT hZ (wd_55 hw)) (notFace_of_selects (args := #[]) (mvT hZ (wd_57 hw))) (mvT hZ (wd_57 hw)) (mvT hZ (wd_56 hw)) (by decide) (backOf (W := 0) (rmGquantity l Z a0 hw [] ob9 q1 T215.heap n0 Zp215 p215_7) hZ (wd_58 hw) (wd_11 hw) (by decide) (by decide)) q231a q231c (g := (mkF m 338 #[.val (.int p0), .val (.long q1), .second, .val (.long q2), .second, .val (.int (1 : Int32)), .val (.int (0 : Int32)), .val (.int (1 : Int32)), .val (.int z8), .val (.ref ob5), .val (.ref ob7), .val (.ref ob9), .val (.ref ob12), .val (.ref ob18), .val (.ref t14), .val (.ref ob12), .val (.int (1 : Int32))] [(.ref ob9)])) rfl (by rw [hml]; rfl) (Steps.refl _) (argsL := []) (rest := []) (lenOf pd_5 rfl) rfl (by show 2 * 0 + _ ≤ _; exact Nat.le_of_eq rfl) (hb hby at_338) (fun _ _ => ⟨rfl, hs230, (by decide : 5 + 0 ≤ _), (by decide : 40 + 0 ≤ _)⟩)
                  dsimp only [Pt.U, Pt.locs, Pt.cells, Pt.slots] at X231 l231 y231 z231 st231 hQ231
                  subst l231 y231 z231
                  obtain ⟨rfl, N231q, hs231⟩ := hQ231
                  have N231 := Fr.app N230 N231q
                  refine own_on st231 ?_
                  show own_G p e below Φ T231 (mkF m 341 #[.val (.int p0), .val (.long q1), .second, .val (.long q2), .second, .val (.int (1 : Int32)), .val (.int (0 : Int32)), .val (.int (1 : Int32)), .val (.int z8), .val (.ref ob5), .val (.ref ob7), .val (.ref ob9), .val (.ref ob12), .val (.ref ob18), .val (.ref t14), .val (.ref ob12), .val (.int (1 : Int32))] [(.long q1)])
                  refine own_go (fun _ => XS.lloadN X231.here hx rfl (hb hby at_341) rfl) ?_
                  show own_G p e below Φ T231 (mkF m 342 #[.val (.int p0), .val (.long q1), .second, .val (.long q2), .second, .val (.int (1 : Int32)), .val (.int (0 : Int32)), .val (.int (1 : Int32)), .val (.int z8), .val (.ref ob5), .val (.ref ob7), .val (.ref ob9), .val (.ref ob12), .val (.ref ob18), .val (.ref t14), .val (.ref ob12), .val (.int (1 : Int32))] [(.long q1), (.long q1)])
                  refine own_go (fun _ => XS.lcmp X231.here hx rfl (hb hby at_342) rfl) ?_
                  show own_G p e below Φ T231 (mkF m 343 #[.val (.int p0), .val (.long q1), .second, .val (.long q2), .second, .val (.int (1 : Int32)), .val (.int (0 : Int32)), .val (.int (1 : Int32)), .val (.int z8), .val (.ref ob5), .val (.ref ob7), .val (.ref ob9), .val (.ref ob12), .val (.ref ob18), .val (.ref t14), .val (.ref ob12), .val (.int (1 : Int32))] [(.int (lcmpW q1 q1))])
                  refine own_go (fun _ => XS.ifNo X231.here hx rfl (hb hby at_343) rfl (Jvm.Free.XT.ll_ne_f (rfl : q1 = q1))) ?_
                  show own_G p e below Φ T231 (mkF m 346 #[.val (.int p0), .val (.long q1), .second, .val (.long q2), .second, .val (.int (1 : Int32)), .val (.int (0 : Int32)), .val (.int (1 : Int32)), .val (.int z8), .val (.ref ob5), .val (.ref ob7), .val (.ref ob9), .val (.ref ob12), .val (.ref ob18), .val (.ref t14), .val (.ref ob12), .val (.int (1 : Int32))] [])
                  refine own_go (fun _ => XS.aload X231.here hx rfl (hb hby at_346) rfl rfl) ?_
                  show own_G p e below Φ T231 (mkF m 348 #[.val (.int p0), .val (.long q1), .second, .val (.long q2), .second, .val (.int (1 : Int32)), .val (.int (0 : Int32)), .val (.int (1 : Int32)), .val (.int z8), .val (.ref ob5), .val (.ref ob7), .val (.ref ob9), .val (.ref ob12), .val (.ref ob18), .val (.ref t14), .val (.ref ob12), .val (.int (1 : Int32))] [(.ref ob9)])
                  obtain ⟨cq232, kq232, q232a, q232b, q232c⟩ := isOf hZ hs231 p215_0
                  obtain ⟨_, _, ⟨T232, zL232, zk232, zn232⟩, -, X232, ⟨Lc232, hQ232, l232, y232, z232⟩, st232⟩ := X231.virtualBack hx (y := (⟨"corro/core/Order", "price", "()J"⟩ : MethodName)) (z := (⟨"corro/core/Order", "price", "()J"⟩ : MethodName)) hown (mvT hZ (wd_59 hw)) (mvT hZ (wd_60 hw)) (notFace_of_selects (args := #[]) (mvT hZ (wd_62 hw))) (mvT hZ (wd_62 hw)) (mvT hZ (wd_61 hw)) (by decide) (backOf (W := 0) (rmGprice l Z a0 hw [] ob9 q2 T215.heap n0 Zp215 p215_8) hZ (wd_63 hw) (wd_11 hw) (by decide) (by decide)) q232a q232c (g := (mkF m 348 #[.val (.int p0), .val (.long q1), .second, .val (.long q2), .second, .val (.int (1 : Int32)), .val (.int (0 : Int32)), .val (.int (1 : Int32)), .val (.int z8), .val (.ref ob5), .val (.ref ob7), .val (.ref ob9), .val (.ref ob12), .val (.ref ob18), .val (.ref t14), .val (.ref ob12), .val (.int (1 : Int32))] [(.ref ob9)])) rfl (by rw [hml]; rfl) (Steps.refl _) (argsL := []) (rest := []) (lenOf pd_5 rfl) rfl (by show 2 * 0 + _ ≤ _; exact Nat.le_of_eq rfl) (hb hby at_348) (fun _ _ => ⟨rfl, hs231, (by decide : 5 + 0 ≤ _), (by decide : 40 + 0 ≤ _)⟩)
                  dsimp only [Pt.U, Pt.locs, Pt.cells, Pt.slots] at X232 l232 y232 z232 st232 hQ232
                  subst l232 y232 z232
                  obtain ⟨rfl, N232q, hs232⟩ := hQ232
                  have N232 := Fr.app N231 N232q
                  refine own_on st232 ?_
                  show own_G p e below Φ T232 (mkF m 351 #[.val (.int p0), .val (.long q1), .second, .val (.long q2), .second, .val (.int (1 : Int32)), .val (.int (0 : Int32)), .val (.int (1 : Int32)), .val (.int z8), .val (.ref ob5), .val (.ref ob7), .val (.ref ob9), .val (.ref ob12), .val (.ref ob18), .val (.ref t14), .val (.ref ob12), .val (.int (1 : Int32))] [(.long q2)])
                  refine own_go (fun _ => XS.lloadN X232.here hx rfl (hb hby at_351) rfl) ?_
                  show own_G p e below Φ T232 (mkF m 352 #[.val (.int p0), .val (.long q1), .second, .val (.long q2), .second, .val (.int (1 : Int32)), .val (.int (0 : Int32)), .val (.int (1 : Int32)), .val (.int z8), .val (.ref ob5), .val (.ref ob7), .val (.ref ob9), .val (.ref ob12), .val (.ref ob18), .val (.ref t14), .val (.ref ob12), .val (.int (1 : Int32))] [(.long q2), (.long q2)])
                  refine own_go (fun _ => XS.lcmp X232.here hx rfl (hb hby at_352) rfl) ?_
                  show own_G p e below Φ T232 (mkF m 353 #[.val (.int p0), .val (.long q1), .second, .val (.long q2), .second, .val (.int (1 : Int32)), .val (.int (0 : Int32)), .val (.int (1 : Int32)), .val (.int z8), .val (.ref ob5), .val (.ref ob7), .val (.ref ob9), .val (.ref ob12), .val (.ref ob18), .val (.ref t14), .val (.ref ob12), .val (.int (1 : Int32))] [(.int (lcmpW q2 q2))])
                  refine own_go (fun _ => XS.ifNo X232.here hx rfl (hb hby at_353) rfl (Jvm.Free.XT.ll_ne_f (rfl : q2 = q2))) ?_
                  show own_G p e below Φ T232 (mkF m 356 #[.val (.int p0), .val (.long q1), .second, .val (.long q2), .second, .val (.int (1 : Int32)), .val (.int (0 : Int32)), .val (.int (1 : Int32)), .val (.int z8), .val (.ref ob5), .val (.ref ob7), .val (.ref ob9), .val (.ref ob12), .val (.ref ob18), .val (.ref t14), .val (.ref ob12), .val (.int (1 : Int32))] [])
                  refine own_go (fun _ => XS.iconst X232.here hx rfl (hb hby at_356)) ?_
                  show own_G p e below Φ T232 (mkF m 357 #[.val (.int p0), .val (.long q1), .second, .val (.long q2), .second, .val (.int (1 : Int32)), .val (.int (0 : Int32)), .val (.int (1 : Int32)), .val (.int z8), .val (.ref ob5), .val (.ref ob7), .val (.ref ob9), .val (.ref ob12), .val (.ref ob18), .val (.ref t14), .val (.ref ob12), .val (.int (1 : Int32))] [(.int (1 : Int32))])
                  refine own_go (fun _ => XS.goto X232.here hx rfl (pc0 := 357) (pc' := 361) rfl (hb hby at_357) (by decide) (by decide)) ?_
                  show own_G p e below Φ T232 (mkF m 361 #[.val (.int p0), .val (.long q1), .second, .val (.long q2), .second, .val (.int (1 : Int32)), .val (.int (0 : Int32)), .val (.int (1 : Int32)), .val (.int z8), .val (.ref ob5), .val (.ref ob7), .val (.ref ob9), .val (.ref ob12), .val (.ref ob18), .val (.ref t14), .val (.ref ob12), .val (.int (1 : Int32))] [(.int (1 : Int32))])
                  refine own_go (fun _ => XS.istore X232.here hx rfl (hb hby at_361) rfl (l' := #[.val (.int p0), .val (.long q1), .second, .val (.long q2), .second, .val (.int (1 : Int32)), .val (.int (0 : Int32)), .val (.int (1 : Int32)), .val (.int z8), .val (.ref ob5), .val (.ref ob7), .val (.ref ob9), .val (.ref ob12), .val (.ref ob18), .val (.ref t14), .val (.ref ob12), .val (.int (1 : Int32))]) rfl) ?_
                  show own_G p e below Φ T232 (mkF m 363 #[.val (.int p0), .val (.long q1), .second, .val (.long q2), .second, .val (.int (1 : Int32)), .val (.int (0 : Int32)), .val (.int (1 : Int32)), .val (.int z8), .val (.ref ob5), .val (.ref ob7), .val (.ref ob9), .val (.ref ob12), .val (.ref ob18), .val (.ref t14), .val (.ref ob12), .val (.int (1 : Int32))] [])
                  refine own_go (fun _ => XS.iload X232.here hx rfl (hb hby at_363) rfl) ?_
                  show own_G p e below Φ T232 (mkF m 365 #[.val (.int p0), .val (.long q1), .second, .val (.long q2), .second, .val (.int (1 : Int32)), .val (.int (0 : Int32)), .val (.int (1 : Int32)), .val (.int z8), .val (.ref ob5), .val (.ref ob7), .val (.ref ob9), .val (.ref ob12), .val (.ref ob18), .val (.ref t14), .val (.ref ob12), .val (.int (1 : Int32))] [(.int (1 : Int32))])
                  rw [hΦ]
                  refine own_ret X232 (v := some (.int (1 : Int32))) (fun h => by rw [Bd.returns] at h; cases h) (BodyLoose.notSynchronized Bd) (fun fs hr => retN X232 hx (t := .boolean) Bd.returns (by simp) (hb hby at_365) hr) ?_ (by decide) (by decide)
                  rw [hs232]
                  exact ⟨rfl, N232⟩
              by_cases hc153 : z8 = (0 : Int32)
              · refine own_go (fun _ => XS.ifYes X136.here hx rfl (pc0 := 153) (pc' := 161) rfl (hb hby at_153) rfl (Jvm.Free.XT.i0_eq_t hc153) (by decide) (by decide)) ?_
                show own_G p e below Φ T136 (mkF m 161 #[.val (.int p0), .val (.long q1), .second, .val (.long q2), .second, .val (.int z5), .val (.int (0 : Int32)), .val (.int (1 : Int32)), .val (.int z8), .val (.ref ob5), .val (.ref ob7), .val (.ref ob9), .val (.ref ob12), .val (.ref ob18), .unset, .unset, .unset] [])
                refine own_go (fun _ => XS.aload X136.here hx rfl (hb hby at_161) rfl rfl) ?_
                exact hJ163_137 _ X136 rfl _ 
              · refine own_go (fun _ => XS.ifNo X136.here hx rfl (hb hby at_153) rfl (Jvm.Free.XT.i0_eq_f hc153)) ?_
                show own_G p e below Φ T136 (mkF m 156 #[.val (.int p0), .val (.long q1), .second, .val (.long q2), .second, .val (.int z5), .val (.int (0 : Int32)), .val (.int (1 : Int32)), .val (.int z8), .val (.ref ob5), .val (.ref ob7), .val (.ref ob9), .val (.ref ob12), .val (.ref ob18), .unset, .unset, .unset] [])
                refine own_go (fun _ => XS.aload X136.here hx rfl (hb hby at_156) rfl rfl) ?_
                show own_G p e below Φ T136 (mkF m 158 #[.val (.int p0), .val (.long q1), .second, .val (.long q2), .second, .val (.int z5), .val (.int (0 : Int32)), .val (.int (1 : Int32)), .val (.int z8), .val (.ref ob5), .val (.ref ob7), .val (.ref ob9), .val (.ref ob12), .val (.ref ob18), .unset, .unset, .unset] [(.ref ob5)])
                refine own_go (fun _ => XS.goto X136.here hx rfl (pc0 := 158) (pc' := 163) rfl (hb hby at_158) (by decide) (by decide)) ?_
                exact hJ163_137 _ X136 rfl _ 
          · show own_G p e below Φ T25 (mkF m 116 #[.val (.int p0), .val (.long q1), .second, .val (.long q2), .second, .val (.int z5), .val (.int (1 : Int32)), .val (.int z7), .val (.int z8), .val (.ref ob5), .val (.ref ob7), .val (.ref ob9), .val (.ref ob12), .val (.ref ob18), .unset, .unset, .unset] [])
            refine own_go (fun _ => XS.iload X25.here hx rfl (hb hby at_116) rfl) ?_
            show own_G p e below Φ T25 (mkF m 118 #[.val (.int p0), .val (.long q1), .second, .val (.long q2), .second, .val (.int z5), .val (.int (1 : Int32)), .val (.int z7), .val (.int z8), .val (.ref ob5), .val (.ref ob7), .val (.ref ob9), .val (.ref ob12), .val (.ref ob18), .unset, .unset, .unset] [(.int (1 : Int32))])
            refine own_go (fun _ => XS.ifNo X25.here hx rfl (hb hby at_118) rfl (Jvm.Free.XT.i0_eq_f (by decide : ¬ ((1 : Int32) = (0 : Int32))))) ?_
            show own_G p e below Φ T25 (mkF m 121 #[.val (.int p0), .val (.long q1), .second, .val (.long q2), .second, .val (.int z5), .val (.int (1 : Int32)), .val (.int z7), .val (.int z8), .val (.ref ob5), .val (.ref ob7), .val (.ref ob9), .val (.ref ob12), .val (.ref ob18), .unset, .unset, .unset] [])
            refine own_go (fun _ => XS.aload X25.here hx rfl (hb hby at_121) rfl rfl) ?_
            show own_G p e below Φ T25 (mkF m 123 #[.val (.int p0), .val (.long q1), .second, .val (.long q2), .second, .val (.int z5), .val (.int (1 : Int32)), .val (.int z7), .val (.int z8), .val (.ref ob5), .val (.ref ob7), .val (.ref ob9), .val (.ref ob12), .val (.ref ob18), .unset, .unset, .unset] [(.ref ob9)])
            refine own_go (fun _ => XS.aload X25.here hx rfl (hb hby at_123) rfl rfl) ?_
            show own_G p e below Φ T25 (mkF m 125 #[.val (.int p0), .val (.long q1), .second, .val (.long q2), .second, .val (.int z5), .val (.int (1 : Int32)), .val (.int z7), .val (.int z8), .val (.ref ob5), .val (.ref ob7), .val (.ref ob9), .val (.ref ob12), .val (.ref ob18), .unset, .unset, .unset] [(.ref ob5), (.ref ob9)])
            refine own_go (fun _ => XS.aconstNull X25.here hx rfl (hb hby at_125)) ?_
            show own_G p e below Φ T25 (mkF m 126 #[.val (.int p0), .val (.long q1), .second, .val (.long q2), .second, .val (.int z5), .val (.int (1 : Int32)), .val (.int z7), .val (.int z8), .val (.ref ob5), .val (.ref ob7), .val (.ref ob9), .val (.ref ob12), .val (.ref ob18), .unset, .unset, .unset] [.null, (.ref ob5), (.ref ob9)])
            have f233 : Exa Z h18 ob9 "corro/core/Order" := f24.ext E18
            have f234 : Exa Z T25.heap ob9 "corro/core/Order" := f233.keep Kq25
            have f235 : Fld Z h12 ob9 "corro/core/Order" "level" "Lcorro/core/Level;" .null := p11_1.ext E12
            have f236 : Fld Z T17.heap ob9 "corro/core/Order" "level" "Lcorro/core/Level;" .null := f235.keep Kq17 (ninS ne_ob9_ob12 nin0)
            have f237 : Fld Z h18 ob9 "corro/core/Order" "level" "Lcorro/core/Level;" .null := f236.ext E18
            have f238 : Fld Z T25.heap ob9 "corro/core/Order" "level" "Lcorro/core/Level;" .null := f237.keep Kq25 (ninS ne_ob9_ob18 nin0)
            have f239 : Fld Z h12 ob9 "corro/core/Order" "previous" "Lcorro/core/Order;" .null := p11_2.ext E12
            have f240 : Fld Z T17.heap ob9 "corro/core/Order" "previous" "Lcorro/core/Order;" .null := f239.keep Kq17 (ninS ne_ob9_ob12 nin0)
            have f241 : Fld Z h18 ob9 "corro/core/Order" "previous" "Lcorro/core/Order;" .null := f240.ext E18
            have f242 : Fld Z T25.heap ob9 "corro/core/Order" "previous" "Lcorro/core/Order;" .null := f241.keep Kq25 (ninS ne_ob9_ob18 nin0)
            have f243 : Fld Z h12 ob9 "corro/core/Order" "next" "Lcorro/core/Order;" .null := p11_3.ext E12
            have f244 : Fld Z T17.heap ob9 "corro/core/Order" "next" "Lcorro/core/Order;" .null := f243.keep Kq17 (ninS ne_ob9_ob12 nin0)
            have f245 : Fld Z h18 ob9 "corro/core/Order" "next" "Lcorro/core/Order;" .null := f244.ext E18
            have f246 : Fld Z T25.heap ob9 "corro/core/Order" "next" "Lcorro/core/Order;" .null := f245.keep Kq25 (ninS ne_ob9_ob18 nin0)
            have f247 : Fld Z h12 ob9 "corro/core/Order" "quantity" "J" (.long q1) := p11_4.ext E12
            have f248 : Fld Z T17.heap ob9 "corro/core/Order" "quantity" "J" (.long q1) := f247.keep Kq17 (ninS ne_ob9_ob12 nin0)
            have f249 : Fld Z h18 ob9 "corro/core/Order" "quantity" "J" (.long q1) := f248.ext E18
            have f250 : Fld Z T25.heap ob9 "corro/core/Order" "quantity" "J" (.long q1) := f249.keep Kq25 (ninS ne_ob9_ob18 nin0)
            have f251 : Fld Z h12 ob9 "corro/core/Order" "price" "J" (.long q2) := p11_5.ext E12
            have f252 : Fld Z T17.heap ob9 "corro/core/Order" "price" "J" (.long q2) := f251.keep Kq17 (ninS ne_ob9_ob12 nin0)
            have f253 : Fld Z h18 ob9 "corro/core/Order" "price" "J" (.long q2) := f252.ext E18
            have f254 : Fld Z T25.heap ob9 "corro/core/Order" "price" "J" (.long q2) := f253.keep Kq25 (ninS ne_ob9_ob18 nin0)
            obtain ⟨cq255, kq255, q255a, q255b, q255c⟩ := isOf hZ rfl f234
            obtain ⟨_, _, ⟨T255, zL255, zk255, zn255⟩, -, X255, ⟨Lc255, hQ255, l255, y255, z255⟩, st255⟩ := X25.virtualBack hx (y := (⟨"corro/core/Order", "join", "(Lcorro/core/Level;Lcorro/core/Order;)V"⟩ : MethodName)) (z := (⟨"corro/core/Order", "join", "(Lcorro/core/Level;Lcorro/core/Order;)V"⟩ : MethodName)) hown (mvT hZ (wd_28 hw)) (mvT hZ (wd_29 hw)) (notFace_of_selects (args := #[]) (mvT hZ (wd_31 hw))) (mvT hZ (wd_31 hw)) (mvT hZ (wd_30 hw)) (by decide) (backOf (W := 0) (rmJN l Z a0 hw [] ob9 ob5 .null .null .null q1 q2 T25.heap n0 Zp25 f234 f238 f242 f246 f250 f254 g_ob9) hZ (wd_32 hw) (wd_11 hw) (by decide) (by decide)) q255a q255c (g := (mkF m 126 #[.val (.int p0), .val (.long q1), .second, .val (.long q2), .second, .val (.int z5), .val (.int (1 : Int32)), .val (.int z7), .val (.int z8), .val (.ref ob5), .val (.ref ob7), .val (.ref ob9), .val (.ref ob12), .val (.ref ob18), .unset, .unset, .unset] [.null, (.ref ob5), (.ref ob9)])) rfl (by rw [hml]; rfl) (Steps.refl _) (argsL := [(.ref ob5), .null]) (rest := []) (lenOf pd_2 rfl) rfl (by show 2 * 0 + _ ≤ _; exact Nat.le_of_eq rfl) (hb hby at_126) (fun _ _ => ⟨rfl, rfl, (by decide : 5 + 0 ≤ _), (by decide : 40 + 0 ≤ _)⟩)
            dsimp only [Pt.U, Pt.locs, Pt.cells, Pt.slots] at X255 l255 y255 z255 st255 hQ255
            subst l255 y255 z255
            obtain ⟨rfl, N255q, Kq255, p255_0, p255_1, p255_2, p255_3, p255_4, p255_5⟩ := hQ255
            have N255 := Fr.app N25 N255q
            refine own_on st255 ?_
            have Zp255 : n0 ≤ T255.heap.size := Nat.le_trans Zp25 Kq255.1
            show own_G p e below Φ T255 (mkF m 129 #[.val (.int p0), .val (.long q1), .second, .val (.long q2), .second, .val (.int z5), .val (.int (1 : Int32)), .val (.int z7), .val (.int z8), .val (.ref ob5), .val (.ref ob7), .val (.ref ob9), .val (.ref ob12), .val (.ref ob18), .unset, .unset, .unset] [])
            refine own_go (fun _ => XS.aload X255.here hx rfl (hb hby at_129) rfl rfl) ?_
            show own_G p e below Φ T255 (mkF m 131 #[.val (.int p0), .val (.long q1), .second, .val (.long q2), .second, .val (.int z5), .val (.int (1 : Int32)), .val (.int z7), .val (.int z8), .val (.ref ob5), .val (.ref ob7), .val (.ref ob9), .val (.ref ob12), .val (.ref ob18), .unset, .unset, .unset] [(.ref ob18)])
            refine own_go (fun _ => XS.aload X255.here hx rfl (hb hby at_131) rfl rfl) ?_
            show own_G p e below Φ T255 (mkF m 133 #[.val (.int p0), .val (.long q1), .second, .val (.long q2), .second, .val (.int z5), .val (.int (1 : Int32)), .val (.int z7), .val (.int z8), .val (.ref ob5), .val (.ref ob7), .val (.ref ob9), .val (.ref ob12), .val (.ref ob18), .unset, .unset, .unset] [(.ref ob5), (.ref ob18)])
            refine own_go (fun _ => XS.aload X255.here hx rfl (hb hby at_133) rfl rfl) ?_
            show own_G p e below Φ T255 (mkF m 135 #[.val (.int p0), .val (.long q1), .second, .val (.long q2), .second, .val (.int z5), .val (.int (1 : Int32)), .val (.int z7), .val (.int z8), .val (.ref ob5), .val (.ref ob7), .val (.ref ob9), .val (.ref ob12), .val (.ref ob18), .unset, .unset, .unset] [(.ref ob9), (.ref ob5), (.ref ob18)])
            have f256 : Exa Z T255.heap ob18 "corro/core/Order" := p25_0.keep Kq255
            have f257 : Fld Z T255.heap ob18 "corro/core/Order" "level" "Lcorro/core/Level;" .null := p25_1.keep Kq255 (ninS (Ne.symm ne_ob9_ob18) nin0)
            have f258 : Fld Z T255.heap ob18 "corro/core/Order" "previous" "Lcorro/core/Order;" .null := p25_2.keep Kq255 (ninS (Ne.symm ne_ob9_ob18) nin0)
            have f259 : Fld Z T255.heap ob18 "corro/core/Order" "next" "Lcorro/core/Order;" .null := p25_3.keep Kq255 (ninS (Ne.symm ne_ob9_ob18) nin0)
            have f260 : Fld Z T255.heap ob18 "corro/core/Order" "quantity" "J" (.long q1) := p25_4.keep Kq255 (ninS (Ne.symm ne_ob9_ob18) nin0)
            have f261 : Fld Z T255.heap ob18 "corro/core/Order" "price" "J" (.long q2) := p25_5.keep Kq255 (ninS (Ne.symm ne_ob9_ob18) nin0)
            obtain ⟨cq262, kq262, q262a, q262b, q262c⟩ := isOf hZ rfl f256
            obtain ⟨_, _, ⟨T262, zL262, zk262, zn262⟩, -, X262, ⟨Lc262, hQ262, l262, y262, z262⟩, st262⟩ := X255.virtualBack hx (y := (⟨"corro/core/Order", "join", "(Lcorro/core/Level;Lcorro/core/Order;)V"⟩ : MethodName)) (z := (⟨"corro/core/Order", "join", "(Lcorro/core/Level;Lcorro/core/Order;)V"⟩ : MethodName)) hown (mvT hZ (wd_28 hw)) (mvT hZ (wd_29 hw)) (notFace_of_selects (args := #[]) (mvT hZ (wd_31 hw))) (mvT hZ (wd_31 hw)) (mvT hZ (wd_30 hw)) (by decide) (backOf (W := 0) (rmJO l Z a0 hw [] ob18 ob5 ob9 .null .null .null (.ref ob5) .null .null q1 q2 q1 q2 T255.heap n0 Zp255 f256 p255_0 f257 f258 f259 f260 f261 p255_1 p255_2 p255_3 p255_4 p255_5 g_ob18 g_ob9 (Ne.symm ne_ob9_ob18)) hZ (wd_32 hw) (wd_11 hw) (by decide) (by decide)) q262a q262c (g := (mkF m 135 #[.val (.int p0), .val (.long q1), .second, .val (.long q2), .second, .val (.int z5), .val (.int (1 : Int32)), .val (.int z7), .val (.int z8), .val (.ref ob5), .val (.ref ob7), .val (.ref ob9), .val (.ref ob12), .val (.ref ob18), .unset, .unset, .unset] [(.ref ob9), (.ref ob5), (.ref ob18)])) rfl (by rw [hml]; rfl) (Steps.refl _) (argsL := [(.ref ob5), (.ref ob9)]) (rest := []) (lenOf pd_2 rfl) rfl (by show 2 * 0 + _ ≤ _; exact Nat.le_of_eq rfl) (hb hby at_135) (fun _ _ => ⟨rfl, rfl, (by decide : 5 + 0 ≤ _), (by decide : 40 + 0 ≤ _)⟩)
            dsimp only [Pt.U, Pt.locs, Pt.cells, Pt.slots] at X262 l262 y262 z262 st262 hQ262
            subst l262 y262 z262
            obtain ⟨rfl, N262q, Kq262, p262_0, p262_1, p262_2, p262_3, p262_4, p262_5, p262_6, p262_7, p262_8, p262_9, p262_10⟩ := hQ262
            have N262 := Fr.app N255 N262q
            refine own_on st262 ?_
            have Zp262 : n0 ≤ T262.heap.size := Nat.le_trans Zp255 Kq262.1
            show own_G p e below Φ T262 (mkF m 138 #[.val (.int p0), .val (.long q1), .second, .val (.long q2), .second, .val (.int z5), .val (.int (1 : Int32)), .val (.int z7), .val (.int z8), .val (.ref ob5), .val (.ref ob7), .val (.ref ob9), .val (.ref ob12), .val (.ref ob18), .unset, .unset, .unset] [])
            rcases h_z7 with rfl | rfl
            · show own_G p e below Φ T262 (mkF m 138 #[.val (.int p0), .val (.long q1), .second, .val (.long q2), .second, .val (.int z5), .val (.int (1 : Int32)), .val (.int (0 : Int32)), .val (.int z8), .val (.ref ob5), .val (.ref ob7), .val (.ref ob9), .val (.ref ob12), .val (.ref ob18), .unset, .unset, .unset] [])
              refine own_go (fun _ => XS.iload X262.here hx rfl (hb hby at_138) rfl) ?_
              show own_G p e below Φ T262 (mkF m 140 #[.val (.int p0), .val (.long q1), .second, .val (.long q2), .second, .val (.int z5), .val (.int (1 : Int32)), .val (.int (0 : Int32)), .val (.int z8), .val (.ref ob5), .val (.ref ob7), .val (.ref ob9), .val (.ref ob12), .val (.ref ob18), .unset, .unset, .unset] [(.int (0 : Int32))])
              refine own_go (fun _ => XS.ifYes X262.here hx rfl (pc0 := 140) (pc' := 151) rfl (hb hby at_140) rfl (Jvm.Free.XT.i0_eq_t (by decide : ((0 : Int32) = (0 : Int32)))) (by decide) (by decide)) ?_
              show own_G p e below Φ T262 (mkF m 151 #[.val (.int p0), .val (.long q1), .second, .val (.long q2), .second, .val (.int z5), .val (.int (1 : Int32)), .val (.int (0 : Int32)), .val (.int z8), .val (.ref ob5), .val (.ref ob7), .val (.ref ob9), .val (.ref ob12), .val (.ref ob18), .unset, .unset, .unset] [])
              refine own_go (fun _ => XS.iload X262.here hx rfl (hb hby at_151) rfl) ?_
              show own_G p e below Φ T262 (mkF m 153 #[.val (.int p0), .val (.long q1), .second, .val (.long q2), .second, .val (.int z5), .val (.int (1 : Int32)), .val (.int (0 : Int32)), .val (.int z8), .val (.ref ob5), .val (.ref ob7), .val (.ref ob9), .val (.ref ob12), .val (.ref ob18), .unset, .unset, .unset] [(.int z8)])
              have hJ163_263 : ∀ (T' : State), own_Al X262 T' → T'.heap = T262.heap → ∀ (t14 : Addr), own_G p e below Φ T' (mkF m 163 #[.val (.int p0), .val (.long q1), .second, .val (.long q2), .second, .val (.int z5), .val (.int (1 : Int32)), .val (.int (0 : Int32)), .val (.int z8), .val (.ref ob5), .val (.ref ob7), .val (.ref ob9), .val (.ref ob12), .val (.ref ob18), .unset, .unset, .unset] [(.ref t14)]) := by
                intro T263 X263' e263 t14
                have X263 : Stand _ _ _ _ _ _ _ _ _ _ T263 _ _ _ := X263'
                show own_G p e below Φ T263 (mkF m 163 #[.val (.int p0), .val (.long q1), .second, .val (.long q2), .second, .val (.int z5), .val (.int (1 : Int32)), .val (.int (0 : Int32)), .val (.int z8), .val (.ref ob5), .val (.ref ob7), .val (.ref ob9), .val (.ref ob12), .val (.ref ob18), .unset, .unset, .unset] [(.ref t14)])
                refine own_go (fun _ => XS.astore X263.here hx rfl (hb hby at_163) rfl rfl (l' := #[.val (.int p0), .val (.long q1), .second, .val (.long q2), .second, .val (.int z5), .val (.int (1 : Int32)), .val (.int (0 : Int32)), .val (.int z8), .val (.ref ob5), .val (.ref ob7), .val (.ref ob9), .val (.ref ob12), .val (.ref ob18), .val (.ref t14), .unset, .unset]) rfl) ?_
                show own_G p e below Φ T263 (mkF m 165 #[.val (.int p0), .val (.long q1), .second, .val (.long q2), .second, .val (.int z5), .val (.int (1 : Int32)), .val (.int (0 : Int32)), .val (.int z8), .val (.ref ob5), .val (.ref ob7), .val (.ref ob9), .val (.ref ob12), .val (.ref ob18), .val (.ref t14), .unset, .unset] [])
                rcases h_z5 with rfl | rfl
                · show own_G p e below Φ T263 (mkF m 165 #[.val (.int p0), .val (.long q1), .second, .val (.long q2), .second, .val (.int (0 : Int32)), .val (.int (1 : Int32)), .val (.int (0 : Int32)), .val (.int z8), .val (.ref ob5), .val (.ref ob7), .val (.ref ob9), .val (.ref ob12), .val (.ref ob18), .val (.ref t14), .unset, .unset] [])
                  refine own_go (fun _ => XS.iload X263.here hx rfl (hb hby at_165) rfl) ?_
                  show own_G p e below Φ T263 (mkF m 167 #[.val (.int p0), .val (.long q1), .second, .val (.long q2), .second, .val (.int (0 : Int32)), .val (.int (1 : Int32)), .val (.int (0 : Int32)), .val (.int z8), .val (.ref ob5), .val (.ref ob7), .val (.ref ob9), .val (.ref ob12), .val (.ref ob18), .val (.ref t14), .unset, .unset] [(.int (0 : Int32))])
                  refine own_go (fun _ => XS.ifYes X263.here hx rfl (pc0 := 167) (pc' := 175) rfl (hb hby at_167) rfl (Jvm.Free.XT.i0_eq_t (by decide : ((0 : Int32) = (0 : Int32)))) (by decide) (by decide)) ?_
                  show own_G p e below Φ T263 (mkF m 175 #[.val (.int p0), .val (.long q1), .second, .val (.long q2), .second, .val (.int (0 : Int32)), .val (.int (1 : Int32)), .val (.int (0 : Int32)), .val (.int z8), .val (.ref ob5), .val (.ref ob7), .val (.ref ob9), .val (.ref ob12), .val (.ref ob18), .val (.ref t14), .unset, .unset] [])
                  refine own_go (fun _ => XS.aconstNull X263.here hx rfl (hb hby at_175)) ?_
                  show own_G p e below Φ T263 (mkF m 176 #[.val (.int p0), .val (.long q1), .second, .val (.long q2), .second, .val (.int (0 : Int32)), .val (.int (1 : Int32)), .val (.int (0 : Int32)), .val (.int z8), .val (.ref ob5), .val (.ref ob7), .val (.ref ob9), .val (.ref ob12), .val (.ref ob18), .val (.ref t14), .unset, .unset] [.null])
                  refine own_go (fun _ => XS.astore X263.here hx rfl (hb hby at_176) rfl rfl (l' := #[.val (.int p0), .val (.long q1), .second, .val (.long q2), .second, .val (.int (0 : Int32)), .val (.int (1 : Int32)), .val (.int (0 : Int32)), .val (.int z8), .val (.ref ob5), .val (.ref ob7), .val (.ref ob9), .val (.ref ob12), .val (.ref ob18), .val (.ref t14), .val .null, .unset]) rfl) ?_
                  show own_G p e below Φ T263 (mkF m 178 #[.val (.int p0), .val (.long q1), .second, .val (.long q2), .second, .val (.int (0 : Int32)), .val (.int (1 : Int32)), .val (.int (0 : Int32)), .val (.int z8), .val (.ref ob5), .val (.ref ob7), .val (.ref ob9), .val (.ref ob12), .val (.ref ob18), .val (.ref t14), .val .null, .unset] [])
                  refine own_go (fun _ => XS.aload X263.here hx rfl (hb hby at_178) rfl rfl) ?_
                  show own_G p e below Φ T263 (mkF m 180 #[.val (.int p0), .val (.long q1), .second, .val (.long q2), .second, .val (.int (0 : Int32)), .val (.int (1 : Int32)), .val (.int (0 : Int32)), .val (.int z8), .val (.ref ob5), .val (.ref ob7), .val (.ref ob9), .val (.ref ob12), .val (.ref ob18), .val (.ref t14), .val .null, .unset] [(.ref ob9)])
                  refine own_go (fun _ => XS.aload X263.here hx rfl (hb hby at_180) rfl rfl) ?_
                  show own_G p e below Φ T263 (mkF m 182 #[.val (.int p0), .val (.long q1), .second, .val (.long q2), .second, .val (.int (0 : Int32)), .val (.int (1 : Int32)), .val (.int (0 : Int32)), .val (.int z8), .val (.ref ob5), .val (.ref ob7), .val (.ref ob9), .val (.ref ob12), .val (.ref ob18), .val (.ref t14), .val .null, .unset] [(.ref t14), (.ref ob9)])
                  refine own_go (fun _ => XS.aload X263.here hx rfl (hb hby at_182) rfl rfl) ?_
                  show own_G p e below Φ T263 (mkF m 184 #[.val (.int p0), .val (.long q1), .second, .val (.long q2), .second, .val (.int (0 : Int32)), .val (.int (1 : Int32)), .val (.int (0 : Int32)), .val (.int z8), .val (.ref ob5), .val (.ref ob7), .val (.ref ob9), .val (.ref ob12), .val (.ref ob18), .val (.ref t14), .val .null, .unset] [.null, (.ref t14), (.ref ob9)])
                  have f264 : Exa Z T262.heap ob9 "corro/core/Order" := p255_0.keep Kq262
                  obtain ⟨cq265, kq265, q265a, q265b, q265c⟩ := isOf hZ e263 f264
                  obtain ⟨_, _, ⟨T265, zL265, zk265, zn265⟩, -, X265, ⟨Lc265, hQ265, l265, y265, z265⟩, st265⟩ := X263.virtualBack hx (y := (⟨"corro/core/Order", "join", "(Lcorro/core/Level;Lcorro/core/Order;)V"⟩ : MethodName)) (z := (⟨"corro/core/Order", "join", "(Lcorro/core/Level;Lcorro/core/Order;)V"⟩ : MethodName)) hown (mvT hZ (wd_28 hw)) (mvT hZ (wd_29 hw)) (notFace_of_selects (args := #[]) (mvT hZ (wd_31 hw))) (mvT hZ (wd_31 hw)) (mvT hZ (wd_30 hw)) (by decide) (backOf (W := 0) (rmJN l Z a0 hw [] ob9 t14 (.ref ob5) .null (.ref ob18) q1 q2 T262.heap n0 Zp262 f264 p262_4 p262_5 p262_6 p262_9 p262_10 g_ob9) hZ (wd_32 hw) (wd_11 hw) (by decide) (by decide)) q265a q265c (g := (mkF m 184 #[.val (.int p0), .val (.long q1), .second, .val (.long q2), .second, .val (.int (0 : Int32)), .val (.int (1 : Int32)), .val (.int (0 : Int32)), .val (.int z8), .val (.ref ob5), .val (.ref ob7), .val (.ref ob9), .val (.ref ob12), .val (.ref ob18), .val (.ref t14), .val .null, .unset] [.null, (.ref t14), (.ref ob9)])) rfl (by rw [hml]; rfl) (Steps.refl _) (argsL := [(.ref t14), .null]) (rest := []) (lenOf pd_2 rfl) rfl (by show 2 * 0 + _ ≤ _; exact Nat.le_of_eq rfl) (hb hby at_184) (fun _ _ => ⟨rfl, e263, (by decide : 5 + 0 ≤ _), (by decide : 40 + 0 ≤ _)⟩)
                  dsimp only [Pt.U, Pt.locs, Pt.cells, Pt.slots] at X265 l265 y265 z265 st265 hQ265
                  subst l265 y265 z265
                  obtain ⟨rfl, N265q, Kq265, p265_0, p265_1, p265_2, p265_3, p265_4, p265_5⟩ := hQ265
                  have N265 := Fr.app N262 N265q
                  refine own_on st265 ?_
                  have Zp265 : n0 ≤ T265.heap.size := Nat.le_trans Zp262 Kq265.1
                  show own_G p e below Φ T265 (mkF m 187 #[.val (.int p0), .val (.long q1), .second, .val (.long q2), .second, .val (.int (0 : Int32)), .val (.int (1 : Int32)), .val (.int (0 : Int32)), .val (.int z8), .val (.ref ob5), .val (.ref ob7), .val (.ref ob9), .val (.ref ob12), .val (.ref ob18), .val (.ref t14), .val .null, .unset] [])
                  refine own_go (fun _ => XS.aload X265.here hx rfl (hb hby at_187) rfl rfl) ?_
                  show own_G p e below Φ T265 (mkF m 189 #[.val (.int p0), .val (.long q1), .second, .val (.long q2), .second, .val (.int (0 : Int32)), .val (.int (1 : Int32)), .val (.int (0 : Int32)), .val (.int z8), .val (.ref ob5), .val (.ref ob7), .val (.ref ob9), .val (.ref ob12), .val (.ref ob18), .val (.ref t14), .val .null, .unset] [(.ref ob9)])
                  obtain ⟨cq266, kq266, q266a, q266b, q266c⟩ := isOf hZ rfl p265_0
                  obtain ⟨_, _, ⟨T266, zL266, zk266, zn266⟩, -, X266, ⟨Lc266, hQ266, l266, y266, z266⟩, st266⟩ := X265.virtualBack hx (y := (⟨"corro/core/Order", "level", "()Lcorro/core/Level;"⟩ : MethodName)) (z := (⟨"corro/core/Order", "level", "()Lcorro/core/Level;"⟩ : MethodName)) hown (mvT hZ (wd_39 hw)) (mvT hZ (wd_40 hw)) (notFace_of_selects (args := #[]) (mvT hZ (wd_42 hw))) (mvT hZ (wd_42 hw)) (mvT hZ (wd_41 hw)) (by decide) (backOf (W := 0) (rmGlevel l Z a0 hw [] ob9 (.ref t14) T265.heap n0 Zp265 p265_1 rfl) hZ (wd_43 hw) (wd_11 hw) (by decide) (by decide)) q266a q266c (g := (mkF m 189 #[.val (.int p0), .val (.long q1), .second, .val (.long q2), .second, .val (.int (0 : Int32)), .val (.int (1 : Int32)), .val (.int (0 : Int32)), .val (.int z8), .val (.ref ob5), .val (.ref ob7), .val (.ref ob9), .val (.ref ob12), .val (.ref ob18), .val (.ref t14), .val .null, .unset] [(.ref ob9)])) rfl (by rw [hml]; rfl) (Steps.refl _) (argsL := []) (rest := []) (lenOf pd_3 rfl) rfl (by show 2 * 0 + _ ≤ _; exact Nat.le_of_eq rfl) (hb hby at_189) (fun _ _ => ⟨rfl, rfl, (by decide : 5 + 0 ≤ _), (by decide : 40 + 0 ≤ _)⟩)
                  dsimp only [Pt.U, Pt.locs, Pt.cells, Pt.slots] at X266 l266 y266 z266 st266 hQ266
                  subst l266 y266 z266
                  obtain ⟨rfl, N266q, hs266⟩ := hQ266
                  have N266 := Fr.app N265 N266q
                  refine own_on st266 ?_
                  show own_G p e below Φ T266 (mkF m 192 #[.val (.int p0), .val (.long q1), .second, .val (.long q2), .second, .val (.int (0 : Int32)), .val (.int (1 : Int32)), .val (.int (0 : Int32)), .val (.int z8), .val (.ref ob5), .val (.ref ob7), .val (.ref ob9), .val (.ref ob12), .val (.ref ob18), .val (.ref t14), .val .null, .unset] [(.ref t14)])
                  refine own_go (fun _ => XS.aload X266.here hx rfl (hb hby at_192) rfl rfl) ?_
                  show own_G p e below Φ T266 (mkF m 194 #[.val (.int p0), .val (.long q1), .second, .val (.long q2), .second, .val (.int (0 : Int32)), .val (.int (1 : Int32)), .val (.int (0 : Int32)), .val (.int z8), .val (.ref ob5), .val (.ref ob7), .val (.ref ob9), .val (.ref ob12), .val (.ref ob18), .val (.ref t14), .val .null, .unset] [(.ref t14), (.ref t14)])
                  refine own_go (fun _ => Jvm.RoadKit.acmp (g := (mkF m 194 #[.val (.int p0), .val (.long q1), .second, .val (.long q2), .second, .val (.int (0 : Int32)), .val (.int (1 : Int32)), .val (.int (0 : Int32)), .val (.int z8), .val (.ref ob5), .val (.ref ob7), .val (.ref ob9), .val (.ref ob12), .val (.ref ob18), .val (.ref t14), .val .null, .unset] [(.ref t14), (.ref t14)])) X266 hx rfl rfl rfl (pc0 := 194) (pc' := 197) (same := true) rfl (hb hby at_194) rfl (decide_eq_true rfl) (by decide) (by decide)) ?_
                  show own_G p e below Φ T266 (mkF m 197 #[.val (.int p0), .val (.long q1), .second, .val (.long q2), .second, .val (.int (0 : Int32)), .val (.int (1 : Int32)), .val (.int (0 : Int32)), .val (.int z8), .val (.ref ob5), .val (.ref ob7), .val (.ref ob9), .val (.ref ob12), .val (.ref ob18), .val (.ref t14), .val .null, .unset] [])
                  refine own_go (fun _ => XS.aload X266.here hx rfl (hb hby at_197) rfl rfl) ?_
                  show own_G p e below Φ T266 (mkF m 199 #[.val (.int p0), .val (.long q1), .second, .val (.long q2), .second, .val (.int (0 : Int32)), .val (.int (1 : Int32)), .val (.int (0 : Int32)), .val (.int z8), .val (.ref ob5), .val (.ref ob7), .val (.ref ob9), .val (.ref ob12), .val (.ref ob18), .val (.ref t14), .val .null, .unset] [(.ref ob9)])
                  obtain ⟨cq267, kq267, q267a, q267b, q267c⟩ := isOf hZ hs266 p265_0
                  obtain ⟨_, _, ⟨T267, zL267, zk267, zn267⟩, -, X267, ⟨Lc267, hQ267, l267, y267, z267⟩, st267⟩ := X266.virtualBack hx (y := (⟨"corro/core/Order", "previous", "()Lcorro/core/Order;"⟩ : MethodName)) (z := (⟨"corro/core/Order", "previous", "()Lcorro/core/Order;"⟩ : MethodName)) hown (mvT hZ (wd_44 hw)) (mvT hZ (wd_45 hw)) (notFace_of_selects (args := #[]) (mvT hZ (wd_47 hw))) (mvT hZ (wd_47 hw)) (mvT hZ (wd_46 hw)) (by decide) (backOf (W := 0) (rmGprevious l Z a0 hw [] ob9 .null T265.heap n0 Zp265 p265_2 rfl) hZ (wd_48 hw) (wd_11 hw) (by decide) (by decide)) q267a q267c (g := (mkF m 199 #[.val (.int p0), .val (.long q1), .second, .val (.long q2), .second, .val (.int (0 : Int32)), .val (.int (1 : Int32)), .val (.int (0 : Int32)), .val (.int z8), .val (.ref ob5), .val (.ref ob7), .val (.ref ob9), .val (.ref ob12), .val (.ref ob18), .val (.ref t14), .val .null, .unset] [(.ref ob9)])) rfl (by rw [hml]; rfl) (Steps.refl _) (argsL := []) (rest := []) (lenOf pd_4 rfl) rfl (by show 2 * 0 + _ ≤ _; exact Nat.le_of_eq rfl) (hb hby at_199) (fun _ _ => ⟨rfl, hs266, (by decide : 5 + 0 ≤ _), (by decide : 40 + 0 ≤ _)⟩)
                  dsimp only [Pt.U, Pt.locs, Pt.cells, Pt.slots] at X267 l267 y267 z267 st267 hQ267
                  subst l267 y267 z267
                  obtain ⟨rfl, N267q, hs267⟩ := hQ267
                  have N267 := Fr.app N266 N267q
                  refine own_on st267 ?_
                  show own_G p e below Φ T267 (mkF m 202 #[.val (.int p0), .val (.long q1), .second, .val (.long q2), .second, .val (.int (0 : Int32)), .val (.int (1 : Int32)), .val (.int (0 : Int32)), .val (.int z8), .val (.ref ob5), .val (.ref ob7), .val (.ref ob9), .val (.ref ob12), .val (.ref ob18), .val (.ref t14), .val .null, .unset] [.null])
                  refine own_go (fun _ => XS.aload X267.here hx rfl (hb hby at_202) rfl rfl) ?_
                  show own_G p e below Φ T267 (mkF m 204 #[.val (.int p0), .val (.long q1), .second, .val (.long q2), .second, .val (.int (0 : Int32)), .val (.int (1 : Int32)), .val (.int (0 : Int32)), .val (.int z8), .val (.ref ob5), .val (.ref ob7), .val (.ref ob9), .val (.ref ob12), .val (.ref ob18), .val (.ref t14), .val .null, .unset] [.null, .null])
                  refine own_go (fun _ => Jvm.RoadKit.acmp (g := (mkF m 204 #[.val (.int p0), .val (.long q1), .second, .val (.long q2), .second, .val (.int (0 : Int32)), .val (.int (1 : Int32)), .val (.int (0 : Int32)), .val (.int z8), .val (.ref ob5), .val (.ref ob7), .val (.ref ob9), .val (.ref ob12), .val (.ref ob18), .val (.ref t14), .val .null, .unset] [.null, .null])) X267 hx rfl rfl rfl (pc0 := 204) (pc' := 207) (same := true) rfl (hb hby at_204) rfl (decide_eq_true rfl) (by decide) (by decide)) ?_
                  show own_G p e below Φ T267 (mkF m 207 #[.val (.int p0), .val (.long q1), .second, .val (.long q2), .second, .val (.int (0 : Int32)), .val (.int (1 : Int32)), .val (.int (0 : Int32)), .val (.int z8), .val (.ref ob5), .val (.ref ob7), .val (.ref ob9), .val (.ref ob12), .val (.ref ob18), .val (.ref t14), .val .null, .unset] [])
                  refine own_go (fun _ => XS.aload X267.here hx rfl (hb hby at_207) rfl rfl) ?_
                  show own_G p e below Φ T267 (mkF m 209 #[.val (.int p0), .val (.long q1), .second, .val (.long q2), .second, .val (.int (0 : Int32)), .val (.int (1 : Int32)), .val (.int (0 : Int32)), .val (.int z8), .val (.ref ob5), .val (.ref ob7), .val (.ref ob9), .val (.ref ob12), .val (.ref ob18), .val (.ref t14), .val .null, .unset] [(.ref ob9)])
                  obtain ⟨cq268, kq268, q268a, q268b, q268c⟩ := isOf hZ hs267 p265_0
                  obtain ⟨_, _, ⟨T268, zL268, zk268, zn268⟩, -, X268, ⟨Lc268, hQ268, l268, y268, z268⟩, st268⟩ := X267.virtualBack hx (y := (⟨"corro/core/Order", "next", "()Lcorro/core/Order;"⟩ : MethodName)) (z := (⟨"corro/core/Order", "next", "()Lcorro/core/Order;"⟩ : MethodName)) hown (mvT hZ (wd_49 hw)) (mvT hZ (wd_50 hw)) (notFace_of_selects (args := #[]) (mvT hZ (wd_52 hw))) (mvT hZ (wd_52 hw)) (mvT hZ (wd_51 hw)) (by decide) (backOf (W := 0) (rmGnext l Z a0 hw [] ob9 .null T265.heap n0 Zp265 p265_3 rfl) hZ (wd_53 hw) (wd_11 hw) (by decide) (by decide)) q268a q268c (g := (mkF m 209 #[.val (.int p0), .val (.long q1), .second, .val (.long q2), .second, .val (.int (0 : Int32)), .val (.int (1 : Int32)), .val (.int (0 : Int32)), .val (.int z8), .val (.ref ob5), .val (.ref ob7), .val (.ref ob9), .val (.ref ob12), .val (.ref ob18), .val (.ref t14), .val .null, .unset] [(.ref ob9)])) rfl (by rw [hml]; rfl) (Steps.refl _) (argsL := []) (rest := []) (lenOf pd_4 rfl) rfl (by show 2 * 0 + _ ≤ _; exact Nat.le_of_eq rfl) (hb hby at_209) (fun _ _ => ⟨rfl, hs267, (by decide : 5 + 0 ≤ _), (by decide : 40 + 0 ≤ _)⟩)
                  dsimp only [Pt.U, Pt.locs, Pt.cells, Pt.slots] at X268 l268 y268 z268 st268 hQ268
                  subst l268 y268 z268
                  obtain ⟨rfl, N268q, hs268⟩ := hQ268
                  have N268 := Fr.app N267 N268q
                  refine own_on st268 ?_
                  show own_G p e below Φ T268 (mkF m 212 #[.val (.int p0), .val (.long q1), .second, .val (.long q2), .second, .val (.int (0 : Int32)), .val (.int (1 : Int32)), .val (.int (0 : Int32)), .val (.int z8), .val (.ref ob5), .val (.ref ob7), .val (.ref ob9), .val (.ref ob12), .val (.ref ob18), .val (.ref t14), .val .null, .unset] [.null])
                  refine own_go (fun _ => XS.ifnonnullNo X268.here hx rfl (hb hby at_212) rfl) ?_
                  show own_G p e below Φ T268 (mkF m 215 #[.val (.int p0), .val (.long q1), .second, .val (.long q2), .second, .val (.int (0 : Int32)), .val (.int (1 : Int32)), .val (.int (0 : Int32)), .val (.int z8), .val (.ref ob5), .val (.ref ob7), .val (.ref ob9), .val (.ref ob12), .val (.ref ob18), .val (.ref t14), .val .null, .unset] [])
                  refine own_go (fun _ => XS.iconst X268.here hx rfl (hb hby at_215)) ?_
                  show own_G p e below Φ T268 (mkF m 216 #[.val (.int p0), .val (.long q1), .second, .val (.long q2), .second, .val (.int (0 : Int32)), .val (.int (1 : Int32)), .val (.int (0 : Int32)), .val (.int z8), .val (.ref ob5), .val (.ref ob7), .val (.ref ob9), .val (.ref ob12), .val (.ref ob18), .val (.ref t14), .val .null, .unset] [(.int (1 : Int32))])
                  refine own_go (fun _ => XS.goto X268.here hx rfl (pc0 := 216) (pc' := 220) rfl (hb hby at_216) (by decide) (by decide)) ?_
                  show own_G p e below Φ T268 (mkF m 220 #[.val (.int p0), .val (.long q1), .second, .val (.long q2), .second, .val (.int (0 : Int32)), .val (.int (1 : Int32)), .val (.int (0 : Int32)), .val (.int z8), .val (.ref ob5), .val (.ref ob7), .val (.ref ob9), .val (.ref ob12), .val (.ref ob18), .val (.ref t14), .val .null, .unset] [(.int (1 : Int32))])
                  refine own_go (fun _ => XS.istore X268.here hx rfl (hb hby at_220) rfl (l' := #[.val (.int p0), .val (.long q1), .second, .val (.long q2), .second, .val (.int (0 : Int32)), .val (.int (1 : Int32)), .val (.int (0 : Int32)), .val (.int z8), .val (.ref ob5), .val (.ref ob7), .val (.ref ob9), .val (.ref ob12), .val (.ref ob18), .val (.ref t14), .val .null, .val (.int (1 : Int32))]) rfl) ?_
                  show own_G p e below Φ T268 (mkF m 222 #[.val (.int p0), .val (.long q1), .second, .val (.long q2), .second, .val (.int (0 : Int32)), .val (.int (1 : Int32)), .val (.int (0 : Int32)), .val (.int z8), .val (.ref ob5), .val (.ref ob7), .val (.ref ob9), .val (.ref ob12), .val (.ref ob18), .val (.ref t14), .val .null, .val (.int (1 : Int32))] [])
                  refine own_go (fun _ => XS.iload X268.here hx rfl (hb hby at_222) rfl) ?_
                  show own_G p e below Φ T268 (mkF m 224 #[.val (.int p0), .val (.long q1), .second, .val (.long q2), .second, .val (.int (0 : Int32)), .val (.int (1 : Int32)), .val (.int (0 : Int32)), .val (.int z8), .val (.ref ob5), .val (.ref ob7), .val (.ref ob9), .val (.ref ob12), .val (.ref ob18), .val (.ref t14), .val .null, .val (.int (1 : Int32))] [(.int (1 : Int32))])
                  refine own_go (fun _ => XS.ifNo X268.here hx rfl (hb hby at_224) rfl (Jvm.Free.XT.i0_eq_f (by decide : ¬ ((1 : Int32) = (0 : Int32))))) ?_
                  show own_G p e below Φ T268 (mkF m 227 #[.val (.int p0), .val (.long q1), .second, .val (.long q2), .second, .val (.int (0 : Int32)), .val (.int (1 : Int32)), .val (.int (0 : Int32)), .val (.int z8), .val (.ref ob5), .val (.ref ob7), .val (.ref ob9), .val (.ref ob12), .val (.ref ob18), .val (.ref t14), .val .null, .val (.int (1 : Int32))] [])
                  refine own_go (fun _ => XS.aload X268.here hx rfl (hb hby at_227) rfl rfl) ?_
                  show own_G p e below Φ T268 (mkF m 229 #[.val (.int p0), .val (.long q1), .second, .val (.long q2), .second, .val (.int (0 : Int32)), .val (.int (1 : Int32)), .val (.int (0 : Int32)), .val (.int z8), .val (.ref ob5), .val (.ref ob7), .val (.ref ob9), .val (.ref ob12), .val (.ref ob18), .val (.ref t14), .val .null, .val (.int (1 : Int32))] [(.ref ob12)])
                  have f269 : Fld Z h18 ob12 "corro/core/Order" "next" "Lcorro/core/Order;" .null := p17_3.ext E18
                  have f270 : Fld Z T25.heap ob12 "corro/core/Order" "next" "Lcorro/core/Order;" .null := f269.keep Kq25 (ninS ne_ob12_ob18 nin0)
                  have f271 : Fld Z T255.heap ob12 "corro/core/Order" "next" "Lcorro/core/Order;" .null := f270.keep Kq255 (ninS (Ne.symm ne_ob9_ob12) nin0)
                  have f272 : Fld Z T262.heap ob12 "corro/core/Order" "next" "Lcorro/core/Order;" .null := f271.keep Kq262 (ninS ne_ob12_ob18 (ninS (Ne.symm ne_ob9_ob12) nin0))
                  have f273 : Fld Z T265.heap ob12 "corro/core/Order" "next" "Lcorro/core/Order;" .null := f272.keep Kq265 (ninS (Ne.symm ne_ob9_ob12) nin0)
                  have f275 : Exa Z h18 ob12 "corro/core/Order" := p17_0.ext E18
                  have f276 : Exa Z T25.heap ob12 "corro/core/Order" := f275.keep Kq25
                  have f277 : Exa Z T255.heap ob12 "corro/core/Order" := f276.keep Kq255
                  have f278 : Exa Z T262.heap ob12 "corro/core/Order" := f277.keep Kq262
                  have f279 : Exa Z T265.heap ob12 "corro/core/Order" := f278.keep Kq265
                  obtain ⟨cq274, kq274, q274a, q274b, q274c⟩ := isOf hZ hs268 f279
                  obtain ⟨_, _, ⟨T274, zL274, zk274, zn274⟩, -, X274, ⟨Lc274, hQ274, l274, y274, z274⟩, st274⟩ := X268.virtualBack hx (y := (⟨"corro/core/Order", "next", "()Lcorro/core/Order;"⟩ : MethodName)) (z := (⟨"corro/core/Order", "next", "()Lcorro/core/Order;"⟩ : MethodName)) hown (mvT hZ (wd_49 hw)) (mvT hZ (wd_50 hw)) (notFace_of_selects (args := #[]) (mvT hZ (wd_52 hw))) (mvT hZ (wd_52 hw)) (mvT hZ (wd_51 hw)) (by decide) (backOf (W := 0) (rmGnext l Z a0 hw [] ob12 .null T265.heap n0 Zp265 f273 rfl) hZ (wd_53 hw) (wd_11 hw) (by decide) (by decide)) q274a q274c (g := (mkF m 229 #[.val (.int p0), .val (.long q1), .second, .val (.long q2), .second, .val (.int (0 : Int32)), .val (.int (1 : Int32)), .val (.int (0 : Int32)), .val (.int z8), .val (.ref ob5), .val (.ref ob7), .val (.ref ob9), .val (.ref ob12), .val (.ref ob18), .val (.ref t14), .val .null, .val (.int (1 : Int32))] [(.ref ob12)])) rfl (by rw [hml]; rfl) (Steps.refl _) (argsL := []) (rest := []) (lenOf pd_4 rfl) rfl (by show 2 * 0 + _ ≤ _; exact Nat.le_of_eq rfl) (hb hby at_229) (fun _ _ => ⟨rfl, hs268, (by decide : 5 + 0 ≤ _), (by decide : 40 + 0 ≤ _)⟩)
                  dsimp only [Pt.U, Pt.locs, Pt.cells, Pt.slots] at X274 l274 y274 z274 st274 hQ274
                  subst l274 y274 z274
                  obtain ⟨rfl, N274q, hs274⟩ := hQ274
                  have N274 := Fr.app N268 N274q
                  refine own_on st274 ?_
                  show own_G p e below Φ T274 (mkF m 232 #[.val (.int p0), .val (.long q1), .second, .val (.long q2), .second, .val (.int (0 : Int32)), .val (.int (1 : Int32)), .val (.int (0 : Int32)), .val (.int z8), .val (.ref ob5), .val (.ref ob7), .val (.ref ob9), .val (.ref ob12), .val (.ref ob18), .val (.ref t14), .val .null, .val (.int (1 : Int32))] [.null])
                  refine own_go (fun _ => XS.iload X274.here hx rfl (hb hby at_232) rfl) ?_
                  show own_G p e below Φ T274 (mkF m 234 #[.val (.int p0), .val (.long q1), .second, .val (.long q2), .second, .val (.int (0 : Int32)), .val (.int (1 : Int32)), .val (.int (0 : Int32)), .val (.int z8), .val (.ref ob5), .val (.ref ob7), .val (.ref ob9), .val (.ref ob12), .val (.ref ob18), .val (.ref t14), .val .null, .val (.int (1 : Int32))] [(.int (0 : Int32)), .null])
                  refine own_go (fun _ => XS.ifYes X274.here hx rfl (pc0 := 234) (pc' := 242) rfl (hb hby at_234) rfl (Jvm.Free.XT.i0_eq_t (by decide : ((0 : Int32) = (0 : Int32)))) (by decide) (by decide)) ?_
                  show own_G p e below Φ T274 (mkF m 242 #[.val (.int p0), .val (.long q1), .second, .val (.long q2), .second, .val (.int (0 : Int32)), .val (.int (1 : Int32)), .val (.int (0 : Int32)), .val (.int z8), .val (.ref ob5), .val (.ref ob7), .val (.ref ob9), .val (.ref ob12), .val (.ref ob18), .val (.ref t14), .val .null, .val (.int (1 : Int32))] [.null])
                  refine own_go (fun _ => XS.aconstNull X274.here hx rfl (hb hby at_242)) ?_
                  show own_G p e below Φ T274 (mkF m 243 #[.val (.int p0), .val (.long q1), .second, .val (.long q2), .second, .val (.int (0 : Int32)), .val (.int (1 : Int32)), .val (.int (0 : Int32)), .val (.int z8), .val (.ref ob5), .val (.ref ob7), .val (.ref ob9), .val (.ref ob12), .val (.ref ob18), .val (.ref t14), .val .null, .val (.int (1 : Int32))] [.null, .null])
                  refine own_go (fun _ => Jvm.RoadKit.acmp (g := (mkF m 243 #[.val (.int p0), .val (.long q1), .second, .val (.long q2), .second, .val (.int (0 : Int32)), .val (.int (1 : Int32)), .val (.int (0 : Int32)), .val (.int z8), .val (.ref ob5), .val (.ref ob7), .val (.ref ob9), .val (.ref ob12), .val (.ref ob18), .val (.ref t14), .val .null, .val (.int (1 : Int32))] [.null, .null])) X274 hx rfl rfl rfl (pc0 := 243) (pc' := 246) (same := true) rfl (hb hby at_243) rfl (decide_eq_true rfl) (by decide) (by decide)) ?_
                  show own_G p e below Φ T274 (mkF m 246 #[.val (.int p0), .val (.long q1), .second, .val (.long q2), .second, .val (.int (0 : Int32)), .val (.int (1 : Int32)), .val (.int (0 : Int32)), .val (.int z8), .val (.ref ob5), .val (.ref ob7), .val (.ref ob9), .val (.ref ob12), .val (.ref ob18), .val (.ref t14), .val .null, .val (.int (1 : Int32))] [])
                  refine own_go (fun _ => XS.iconst X274.here hx rfl (hb hby at_246)) ?_
                  show own_G p e below Φ T274 (mkF m 247 #[.val (.int p0), .val (.long q1), .second, .val (.long q2), .second, .val (.int (0 : Int32)), .val (.int (1 : Int32)), .val (.int (0 : Int32)), .val (.int z8), .val (.ref ob5), .val (.ref ob7), .val (.ref ob9), .val (.ref ob12), .val (.ref ob18), .val (.ref t14), .val .null, .val (.int (1 : Int32))] [(.int (1 : Int32))])
                  refine own_go (fun _ => XS.goto X274.here hx rfl (pc0 := 247) (pc' := 251) rfl (hb hby at_247) (by decide) (by decide)) ?_
                  show own_G p e below Φ T274 (mkF m 251 #[.val (.int p0), .val (.long q1), .second, .val (.long q2), .second, .val (.int (0 : Int32)), .val (.int (1 : Int32)), .val (.int (0 : Int32)), .val (.int z8), .val (.ref ob5), .val (.ref ob7), .val (.ref ob9), .val (.ref ob12), .val (.ref ob18), .val (.ref t14), .val .null, .val (.int (1 : Int32))] [(.int (1 : Int32))])
                  refine own_go (fun _ => XS.istore X274.here hx rfl (hb hby at_251) rfl (l' := #[.val (.int p0), .val (.long q1), .second, .val (.long q2), .second, .val (.int (0 : Int32)), .val (.int (1 : Int32)), .val (.int (0 : Int32)), .val (.int z8), .val (.ref ob5), .val (.ref ob7), .val (.ref ob9), .val (.ref ob12), .val (.ref ob18), .val (.ref t14), .val .null, .val (.int (1 : Int32))]) rfl) ?_
                  show own_G p e below Φ T274 (mkF m 253 #[.val (.int p0), .val (.long q1), .second, .val (.long q2), .second, .val (.int (0 : Int32)), .val (.int (1 : Int32)), .val (.int (0 : Int32)), .val (.int z8), .val (.ref ob5), .val (.ref ob7), .val (.ref ob9), .val (.ref ob12), .val (.ref ob18), .val (.ref t14), .val .null, .val (.int (1 : Int32))] [])
                  refine own_go (fun _ => XS.iload X274.here hx rfl (hb hby at_253) rfl) ?_
                  show own_G p e below Φ T274 (mkF m 255 #[.val (.int p0), .val (.long q1), .second, .val (.long q2), .second, .val (.int (0 : Int32)), .val (.int (1 : Int32)), .val (.int (0 : Int32)), .val (.int z8), .val (.ref ob5), .val (.ref ob7), .val (.ref ob9), .val (.ref ob12), .val (.ref ob18), .val (.ref t14), .val .null, .val (.int (1 : Int32))] [(.int (1 : Int32))])
                  refine own_go (fun _ => XS.ifNo X274.here hx rfl (hb hby at_255) rfl (Jvm.Free.XT.i0_eq_f (by decide : ¬ ((1 : Int32) = (0 : Int32))))) ?_
                  show own_G p e below Φ T274 (mkF m 258 #[.val (.int p0), .val (.long q1), .second, .val (.long q2), .second, .val (.int (0 : Int32)), .val (.int (1 : Int32)), .val (.int (0 : Int32)), .val (.int z8), .val (.ref ob5), .val (.ref ob7), .val (.ref ob9), .val (.ref ob12), .val (.ref ob18), .val (.ref t14), .val .null, .val (.int (1 : Int32))] [])
                  refine own_go (fun _ => XS.aload X274.here hx rfl (hb hby at_258) rfl rfl) ?_
                  show own_G p e below Φ T274 (mkF m 260 #[.val (.int p0), .val (.long q1), .second, .val (.long q2), .second, .val (.int (0 : Int32)), .val (.int (1 : Int32)), .val (.int (0 : Int32)), .val (.int z8), .val (.ref ob5), .val (.ref ob7), .val (.ref ob9), .val (.ref ob12), .val (.ref ob18), .val (.ref t14), .val .null, .val (.int (1 : Int32))] [(.ref ob12)])
                  have f280 : Fld Z h18 ob12 "corro/core/Order" "previous" "Lcorro/core/Order;" .null := p17_2.ext E18
                  have f281 : Fld Z T25.heap ob12 "corro/core/Order" "previous" "Lcorro/core/Order;" .null := f280.keep Kq25 (ninS ne_ob12_ob18 nin0)
                  have f282 : Fld Z T255.heap ob12 "corro/core/Order" "previous" "Lcorro/core/Order;" .null := f281.keep Kq255 (ninS (Ne.symm ne_ob9_ob12) nin0)
                  have f283 : Fld Z T262.heap ob12 "corro/core/Order" "previous" "Lcorro/core/Order;" .null := f282.keep Kq262 (ninS ne_ob12_ob18 (ninS (Ne.symm ne_ob9_ob12) nin0))
                  have f284 : Fld Z T265.heap ob12 "corro/core/Order" "previous" "Lcorro/core/Order;" .null := f283.keep Kq265 (ninS (Ne.symm ne_ob9_ob12) nin0)
                  obtain ⟨cq285, kq285, q285a, q285b, q285c⟩ := isOf hZ hs274 f279
                  obtain ⟨_, _, ⟨T285, zL285, zk285, zn285⟩, -, X285, ⟨Lc285, hQ285, l285, y285, z285⟩, st285⟩ := X274.virtualBack hx (y := (⟨"corro/core/Order", "previous", "()Lcorro/core/Order;"⟩ : MethodName)) (z := (⟨"corro/core/Order", "previous", "()Lcorro/core/Order;"⟩ : MethodName)) hown (mvT hZ (wd_44 hw)) (mvT hZ (wd_45 hw)) (notFace_of_selects (args := #[]) (mvT hZ (wd_47 hw))) (mvT hZ (wd_47 hw)) (mvT hZ (wd_46 hw)) (by decide) (backOf (W := 0) (rmGprevious l Z a0 hw [] ob12 .null T265.heap n0 Zp265 f284 rfl) hZ (wd_48 hw) (wd_11 hw) (by decide) (by decide)) q285a q285c (g := (mkF m 260 #[.val (.int p0), .val (.long q1), .second, .val (.long q2), .second, .val (.int (0 : Int32)), .val (.int (1 : Int32)), .val (.int (0 : Int32)), .val (.int z8), .val (.ref ob5), .val (.ref ob7), .val (.ref ob9), .val (.ref ob12), .val (.ref ob18), .val (.ref t14), .val .null, .val (.int (1 : Int32))] [(.ref ob12)])) rfl (by rw [hml]; rfl) (Steps.refl _) (argsL := []) (rest := []) (lenOf pd_4 rfl) rfl (by show 2 * 0 + _ ≤ _; exact Nat.le_of_eq rfl) (hb hby at_260) (fun _ _ => ⟨rfl, hs274, (by decide : 5 + 0 ≤ _), (by decide : 40 + 0 ≤ _)⟩)
                  dsimp only [Pt.U, Pt.locs, Pt.cells, Pt.slots] at X285 l285 y285 z285 st285 hQ285
                  subst l285 y285 z285
                  obtain ⟨rfl, N285q, hs285⟩ := hQ285
                  have N285 := Fr.app N274 N285q
                  refine own_on st285 ?_
                  show own_G p e below Φ T285 (mkF m 263 #[.val (.int p0), .val (.long q1), .second, .val (.long q2), .second, .val (.int (0 : Int32)), .val (.int (1 : Int32)), .val (.int (0 : Int32)), .val (.int z8), .val (.ref ob5), .val (.ref ob7), .val (.ref ob9), .val (.ref ob12), .val (.ref ob18), .val (.ref t14), .val .null, .val (.int (1 : Int32))] [.null])
                  refine own_go (fun _ => XS.ifnonnullNo X285.here hx rfl (hb hby at_263) rfl) ?_
                  show own_G p e below Φ T285 (mkF m 266 #[.val (.int p0), .val (.long q1), .second, .val (.long q2), .second, .val (.int (0 : Int32)), .val (.int (1 : Int32)), .val (.int (0 : Int32)), .val (.int z8), .val (.ref ob5), .val (.ref ob7), .val (.ref ob9), .val (.ref ob12), .val (.ref ob18), .val (.ref t14), .val .null, .val (.int (1 : Int32))] [])
                  refine own_go (fun _ => XS.aload X285.here hx rfl (hb hby at_266) rfl rfl) ?_
                  show own_G p e below Φ T285 (mkF m 268 #[.val (.int p0), .val (.long q1), .second, .val (.long q2), .second, .val (.int (0 : Int32)), .val (.int (1 : Int32)), .val (.int (0 : Int32)), .val (.int z8), .val (.ref ob5), .val (.ref ob7), .val (.ref ob9), .val (.ref ob12), .val (.ref ob18), .val (.ref t14), .val .null, .val (.int (1 : Int32))] [(.ref ob12)])
                  have f286 : Fld Z h18 ob12 "corro/core/Order" "level" "Lcorro/core/Level;" .null := p17_1.ext E18
                  have f287 : Fld Z T25.heap ob12 "corro/core/Order" "level" "Lcorro/core/Level;" .null := f286.keep Kq25 (ninS ne_ob12_ob18 nin0)
                  have f288 : Fld Z T255.heap ob12 "corro/core/Order" "level" "Lcorro/core/Level;" .null := f287.keep Kq255 (ninS (Ne.symm ne_ob9_ob12) nin0)
                  have f289 : Fld Z T262.heap ob12 "corro/core/Order" "level" "Lcorro/core/Level;" .null := f288.keep Kq262 (ninS ne_ob12_ob18 (ninS (Ne.symm ne_ob9_ob12) nin0))
                  have f290 : Fld Z T265.heap ob12 "corro/core/Order" "level" "Lcorro/core/Level;" .null := f289.keep Kq265 (ninS (Ne.symm ne_ob9_ob12) nin0)
                  obtain ⟨cq291, kq291, q291a, q291b, q291c⟩ := isOf hZ hs285 f279
                  obtain ⟨_, _, ⟨T291, zL291, zk291, zn291⟩, -, X291, ⟨Lc291, hQ291, l291, y291, z291⟩, st291⟩ := X285.virtualBack hx (y := (⟨"corro/core/Order", "level", "()Lcorro/core/Level;"⟩ : MethodName)) (z := (⟨"corro/core/Order", "level", "()Lcorro/core/Level;"⟩ : MethodName)) hown (mvT hZ (wd_39 hw)) (mvT hZ (wd_40 hw)) (notFace_of_selects (args := #[]) (mvT hZ (wd_42 hw))) (mvT hZ (wd_42 hw)) (mvT hZ (wd_41 hw)) (by decide) (backOf (W := 0) (rmGlevel l Z a0 hw [] ob12 .null T265.heap n0 Zp265 f290 rfl) hZ (wd_43 hw) (wd_11 hw) (by decide) (by decide)) q291a q291c (g := (mkF m 268 #[.val (.int p0), .val (.long q1), .second, .val (.long q2), .second, .val (.int (0 : Int32)), .val (.int (1 : Int32)), .val (.int (0 : Int32)), .val (.int z8), .val (.ref ob5), .val (.ref ob7), .val (.ref ob9), .val (.ref ob12), .val (.ref ob18), .val (.ref t14), .val .null, .val (.int (1 : Int32))] [(.ref ob12)])) rfl (by rw [hml]; rfl) (Steps.refl _) (argsL := []) (rest := []) (lenOf pd_3 rfl) rfl (by show 2 * 0 + _ ≤ _; exact Nat.le_of_eq rfl) (hb hby at_268) (fun _ _ => ⟨rfl, hs285, (by decide : 5 + 0 ≤ _), (by decide : 40 + 0 ≤ _)⟩)
                  dsimp only [Pt.U, Pt.locs, Pt.cells, Pt.slots] at X291 l291 y291 z291 st291 hQ291
                  subst l291 y291 z291
                  obtain ⟨rfl, N291q, hs291⟩ := hQ291
                  have N291 := Fr.app N285 N291q
                  refine own_on st291 ?_
                  show own_G p e below Φ T291 (mkF m 271 #[.val (.int p0), .val (.long q1), .second, .val (.long q2), .second, .val (.int (0 : Int32)), .val (.int (1 : Int32)), .val (.int (0 : Int32)), .val (.int z8), .val (.ref ob5), .val (.ref ob7), .val (.ref ob9), .val (.ref ob12), .val (.ref ob18), .val (.ref t14), .val .null, .val (.int (1 : Int32))] [.null])
                  refine own_go (fun _ => XS.iload X291.here hx rfl (hb hby at_271) rfl) ?_
                  show own_G p e below Φ T291 (mkF m 273 #[.val (.int p0), .val (.long q1), .second, .val (.long q2), .second, .val (.int (0 : Int32)), .val (.int (1 : Int32)), .val (.int (0 : Int32)), .val (.int z8), .val (.ref ob5), .val (.ref ob7), .val (.ref ob9), .val (.ref ob12), .val (.ref ob18), .val (.ref t14), .val .null, .val (.int (1 : Int32))] [(.int (0 : Int32)), .null])
                  refine own_go (fun _ => XS.ifYes X291.here hx rfl (pc0 := 273) (pc' := 281) rfl (hb hby at_273) rfl (Jvm.Free.XT.i0_eq_t (by decide : ((0 : Int32) = (0 : Int32)))) (by decide) (by decide)) ?_
                  show own_G p e below Φ T291 (mkF m 281 #[.val (.int p0), .val (.long q1), .second, .val (.long q2), .second, .val (.int (0 : Int32)), .val (.int (1 : Int32)), .val (.int (0 : Int32)), .val (.int z8), .val (.ref ob5), .val (.ref ob7), .val (.ref ob9), .val (.ref ob12), .val (.ref ob18), .val (.ref t14), .val .null, .val (.int (1 : Int32))] [.null])
                  refine own_go (fun _ => XS.aconstNull X291.here hx rfl (hb hby at_281)) ?_
                  show own_G p e below Φ T291 (mkF m 282 #[.val (.int p0), .val (.long q1), .second, .val (.long q2), .second, .val (.int (0 : Int32)), .val (.int (1 : Int32)), .val (.int (0 : Int32)), .val (.int z8), .val (.ref ob5), .val (.ref ob7), .val (.ref ob9), .val (.ref ob12), .val (.ref ob18), .val (.ref t14), .val .null, .val (.int (1 : Int32))] [.null, .null])
                  refine own_go (fun _ => Jvm.RoadKit.acmp (g := (mkF m 282 #[.val (.int p0), .val (.long q1), .second, .val (.long q2), .second, .val (.int (0 : Int32)), .val (.int (1 : Int32)), .val (.int (0 : Int32)), .val (.int z8), .val (.ref ob5), .val (.ref ob7), .val (.ref ob9), .val (.ref ob12), .val (.ref ob18), .val (.ref t14), .val .null, .val (.int (1 : Int32))] [.null, .null])) X291 hx rfl rfl rfl (pc0 := 282) (pc' := 285) (same := true) rfl (hb hby at_282) rfl (decide_eq_true rfl) (by decide) (by decide)) ?_
                  show own_G p e below Φ T291 (mkF m 285 #[.val (.int p0), .val (.long q1), .second, .val (.long q2), .second, .val (.int (0 : Int32)), .val (.int (1 : Int32)), .val (.int (0 : Int32)), .val (.int z8), .val (.ref ob5), .val (.ref ob7), .val (.ref ob9), .val (.ref ob12), .val (.ref ob18), .val (.ref t14), .val .null, .val (.int (1 : Int32))] [])
                  refine own_go (fun _ => XS.iconst X291.here hx rfl (hb hby at_285)) ?_
                  show own_G p e below Φ T291 (mkF m 286 #[.val (.int p0), .val (.long q1), .second, .val (.long q2), .second, .val (.int (0 : Int32)), .val (.int (1 : Int32)), .val (.int (0 : Int32)), .val (.int z8), .val (.ref ob5), .val (.ref ob7), .val (.ref ob9), .val (.ref ob12), .val (.ref ob18), .val (.ref t14), .val .null, .val (.int (1 : Int32))] [(.int (1 : Int32))])
                  refine own_go (fun _ => XS.goto X291.here hx rfl (pc0 := 286) (pc' := 290) rfl (hb hby at_286) (by decide) (by decide)) ?_
                  show own_G p e below Φ T291 (mkF m 290 #[.val (.int p0), .val (.long q1), .second, .val (.long q2), .second, .val (.int (0 : Int32)), .val (.int (1 : Int32)), .val (.int (0 : Int32)), .val (.int z8), .val (.ref ob5), .val (.ref ob7), .val (.ref ob9), .val (.ref ob12), .val (.ref ob18), .val (.ref t14), .val .null, .val (.int (1 : Int32))] [(.int (1 : Int32))])
                  refine own_go (fun _ => XS.istore X291.here hx rfl (hb hby at_290) rfl (l' := #[.val (.int p0), .val (.long q1), .second, .val (.long q2), .second, .val (.int (0 : Int32)), .val (.int (1 : Int32)), .val (.int (0 : Int32)), .val (.int z8), .val (.ref ob5), .val (.ref ob7), .val (.ref ob9), .val (.ref ob12), .val (.ref ob18), .val (.ref t14), .val .null, .val (.int (1 : Int32))]) rfl) ?_
                  show own_G p e below Φ T291 (mkF m 292 #[.val (.int p0), .val (.long q1), .second, .val (.long q2), .second, .val (.int (0 : Int32)), .val (.int (1 : Int32)), .val (.int (0 : Int32)), .val (.int z8), .val (.ref ob5), .val (.ref ob7), .val (.ref ob9), .val (.ref ob12), .val (.ref ob18), .val (.ref t14), .val .null, .val (.int (1 : Int32))] [])
                  refine own_go (fun _ => XS.iload X291.here hx rfl (hb hby at_292) rfl) ?_
                  show own_G p e below Φ T291 (mkF m 294 #[.val (.int p0), .val (.long q1), .second, .val (.long q2), .second, .val (.int (0 : Int32)), .val (.int (1 : Int32)), .val (.int (0 : Int32)), .val (.int z8), .val (.ref ob5), .val (.ref ob7), .val (.ref ob9), .val (.ref ob12), .val (.ref ob18), .val (.ref t14), .val .null, .val (.int (1 : Int32))] [(.int (1 : Int32))])
                  refine own_go (fun _ => XS.ifNo X291.here hx rfl (hb hby at_294) rfl (Jvm.Free.XT.i0_eq_f (by decide : ¬ ((1 : Int32) = (0 : Int32))))) ?_
                  show own_G p e below Φ T291 (mkF m 297 #[.val (.int p0), .val (.long q1), .second, .val (.long q2), .second, .val (.int (0 : Int32)), .val (.int (1 : Int32)), .val (.int (0 : Int32)), .val (.int z8), .val (.ref ob5), .val (.ref ob7), .val (.ref ob9), .val (.ref ob12), .val (.ref ob18), .val (.ref t14), .val .null, .val (.int (1 : Int32))] [])
                  refine own_go (fun _ => XS.aload X291.here hx rfl (hb hby at_297) rfl rfl) ?_
                  show own_G p e below Φ T291 (mkF m 299 #[.val (.int p0), .val (.long q1), .second, .val (.long q2), .second, .val (.int (0 : Int32)), .val (.int (1 : Int32)), .val (.int (0 : Int32)), .val (.int z8), .val (.ref ob5), .val (.ref ob7), .val (.ref ob9), .val (.ref ob12), .val (.ref ob18), .val (.ref t14), .val .null, .val (.int (1 : Int32))] [(.ref ob18)])
                  have f292 : Fld Z T265.heap ob18 "corro/core/Order" "previous" "Lcorro/core/Order;" (.ref ob9) := p262_2.keep Kq265 (ninS (Ne.symm ne_ob9_ob18) nin0)
                  have f294 : Exa Z T265.heap ob18 "corro/core/Order" := p262_0.keep Kq265
                  obtain ⟨cq293, kq293, q293a, q293b, q293c⟩ := isOf hZ hs291 f294
                  obtain ⟨_, _, ⟨T293, zL293, zk293, zn293⟩, -, X293, ⟨Lc293, hQ293, l293, y293, z293⟩, st293⟩ := X291.virtualBack hx (y := (⟨"corro/core/Order", "previous", "()Lcorro/core/Order;"⟩ : MethodName)) (z := (⟨"corro/core/Order", "previous", "()Lcorro/core/Order;"⟩ : MethodName)) hown (mvT hZ (wd_44 hw)) (mvT hZ (wd_45 hw)) (notFace_of_selects (args := #[]) (mvT hZ (wd_47 hw))) (mvT hZ (wd_47 hw)) (mvT hZ (wd_46 hw)) (by decide) (backOf (W := 0) (rmGprevious l Z a0 hw [] ob18 (.ref ob9) T265.heap n0 Zp265 f292 rfl) hZ (wd_48 hw) (wd_11 hw) (by decide) (by decide)) q293a q293c (g := (mkF m 299 #[.val (.int p0), .val (.long q1), .second, .val (.long q2), .second, .val (.int (0 : Int32)), .val (.int (1 : Int32)), .val (.int (0 : Int32)), .val (.int z8), .val (.ref ob5), .val (.ref ob7), .val (.ref ob9), .val (.ref ob12), .val (.ref ob18), .val (.ref t14), .val .null, .val (.int (1 : Int32))] [(.ref ob18)])) rfl (by rw [hml]; rfl) (Steps.refl _) (argsL := []) (rest := []) (lenOf pd_4 rfl) rfl (by show 2 * 0 + _ ≤ _; exact Nat.le_of_eq rfl) (hb hby at_299) (fun _ _ => ⟨rfl, hs291, (by decide : 5 + 0 ≤ _), (by decide : 40 + 0 ≤ _)⟩)
                  dsimp only [Pt.U, Pt.locs, Pt.cells, Pt.slots] at X293 l293 y293 z293 st293 hQ293
                  subst l293 y293 z293
                  obtain ⟨rfl, N293q, hs293⟩ := hQ293
                  have N293 := Fr.app N291 N293q
                  refine own_on st293 ?_
                  show own_G p e below Φ T293 (mkF m 302 #[.val (.int p0), .val (.long q1), .second, .val (.long q2), .second, .val (.int (0 : Int32)), .val (.int (1 : Int32)), .val (.int (0 : Int32)), .val (.int z8), .val (.ref ob5), .val (.ref ob7), .val (.ref ob9), .val (.ref ob12), .val (.ref ob18), .val (.ref t14), .val .null, .val (.int (1 : Int32))] [(.ref ob9)])
                  refine own_go (fun _ => XS.iload X293.here hx rfl (hb hby at_302) rfl) ?_
                  show own_G p e below Φ T293 (mkF m 304 #[.val (.int p0), .val (.long q1), .second, .val (.long q2), .second, .val (.int (0 : Int32)), .val (.int (1 : Int32)), .val (.int (0 : Int32)), .val (.int z8), .val (.ref ob5), .val (.ref ob7), .val (.ref ob9), .val (.ref ob12), .val (.ref ob18), .val (.ref t14), .val .null, .val (.int (1 : Int32))] [(.int (1 : Int32)), (.ref ob9)])
                  refine own_go (fun _ => XS.ifNo X293.here hx rfl (hb hby at_304) rfl (Jvm.Free.XT.i0_eq_f (by decide : ¬ ((1 : Int32) = (0 : Int32))))) ?_
                  show own_G p e below Φ T293 (mkF m 307 #[.val (.int p0), .val (.long q1), .second, .val (.long q2), .second, .val (.int (0 : Int32)), .val (.int (1 : Int32)), .val (.int (0 : Int32)), .val (.int z8), .val (.ref ob5), .val (.ref ob7), .val (.ref ob9), .val (.ref ob12), .val (.ref ob18), .val (.ref t14), .val .null, .val (.int (1 : Int32))] [(.ref ob9)])
                  refine own_go (fun _ => XS.aload X293.here hx rfl (hb hby at_307) rfl rfl) ?_
                  show own_G p e below Φ T293 (mkF m 309 #[.val (.int p0), .val (.long q1), .second, .val (.long q2), .second, .val (.int (0 : Int32)), .val (.int (1 : Int32)), .val (.int (0 : Int32)), .val (.int z8), .val (.ref ob5), .val (.ref ob7), .val (.ref ob9), .val (.ref ob12), .val (.ref ob18), .val (.ref t14), .val .null, .val (.int (1 : Int32))] [(.ref ob9), (.ref ob9)])
                  refine own_go (fun _ => XS.goto X293.here hx rfl (pc0 := 309) (pc' := 313) rfl (hb hby at_309) (by decide) (by decide)) ?_
                  show own_G p e below Φ T293 (mkF m 313 #[.val (.int p0), .val (.long q1), .second, .val (.long q2), .second, .val (.int (0 : Int32)), .val (.int (1 : Int32)), .val (.int (0 : Int32)), .val (.int z8), .val (.ref ob5), .val (.ref ob7), .val (.ref ob9), .val (.ref ob12), .val (.ref ob18), .val (.ref t14), .val .null, .val (.int (1 : Int32))] [(.ref ob9), (.ref ob9)])
                  refine own_go (fun _ => Jvm.RoadKit.acmp (g := (mkF m 313 #[.val (.int p0), .val (.long q1), .second, .val (.long q2), .second, .val (.int (0 : Int32)), .val (.int (1 : Int32)), .val (.int (0 : Int32)), .val (.int z8), .val (.ref ob5), .val (.ref ob7), .val (.ref ob9), .val (.ref ob12), .val (.ref ob18), .val (.ref t14), .val .null, .val (.int (1 : Int32))] [(.ref ob9), (.ref ob9)])) X293 hx rfl rfl rfl (pc0 := 313) (pc' := 316) (same := true) rfl (hb hby at_313) rfl (decide_eq_true rfl) (by decide) (by decide)) ?_
                  show own_G p e below Φ T293 (mkF m 316 #[.val (.int p0), .val (.long q1), .second, .val (.long q2), .second, .val (.int (0 : Int32)), .val (.int (1 : Int32)), .val (.int (0 : Int32)), .val (.int z8), .val (.ref ob5), .val (.ref ob7), .val (.ref ob9), .val (.ref ob12), .val (.ref ob18), .val (.ref t14), .val .null, .val (.int (1 : Int32))] [])
                  refine own_go (fun _ => XS.aload X293.here hx rfl (hb hby at_316) rfl rfl) ?_
                  show own_G p e below Φ T293 (mkF m 318 #[.val (.int p0), .val (.long q1), .second, .val (.long q2), .second, .val (.int (0 : Int32)), .val (.int (1 : Int32)), .val (.int (0 : Int32)), .val (.int z8), .val (.ref ob5), .val (.ref ob7), .val (.ref ob9), .val (.ref ob12), .val (.ref ob18), .val (.ref t14), .val .null, .val (.int (1 : Int32))] [(.ref ob18)])
                  have f295 : Fld Z T265.heap ob18 "corro/core/Order" "next" "Lcorro/core/Order;" .null := p262_3.keep Kq265 (ninS (Ne.symm ne_ob9_ob18) nin0)
                  obtain ⟨cq296, kq296, q296a, q296b, q296c⟩ := isOf hZ hs293 f294
                  obtain ⟨_, _, ⟨T296, zL296, zk296, zn296⟩, -, X296, ⟨Lc296, hQ296, l296, y296, z296⟩, st296⟩ := X293.virtualBack hx (y := (⟨"corro/core/Order", "next", "()Lcorro/core/Order;"⟩ : MethodName)) (z := (⟨"corro/core/Order", "next", "()Lcorro/core/Order;"⟩ : MethodName)) hown (mvT hZ (wd_49 hw)) (mvT hZ (wd_50 hw)) (notFace_of_selects (args := #[]) (mvT hZ (wd_52 hw))) (mvT hZ (wd_52 hw)) (mvT hZ (wd_51 hw)) (by decide) (backOf (W := 0) (rmGnext l Z a0 hw [] ob18 .null T265.heap n0 Zp265 f295 rfl) hZ (wd_53 hw) (wd_11 hw) (by decide) (by decide)) q296a q296c (g := (mkF m 318 #[.val (.int p0), .val (.long q1), .second, .val (.long q2), .second, .val (.int (0 : Int32)), .val (.int (1 : Int32)), .val (.int (0 : Int32)), .val (.int z8), .val (.ref ob5), .val (.ref ob7), .val (.ref ob9), .val (.ref ob12), .val (.ref ob18), .val (.ref t14), .val .null, .val (.int (1 : Int32))] [(.ref ob18)])) rfl (by rw [hml]; rfl) (Steps.refl _) (argsL := []) (rest := []) (lenOf pd_4 rfl) rfl (by show 2 * 0 + _ ≤ _; exact Nat.le_of_eq rfl) (hb hby at_318) (fun _ _ => ⟨rfl, hs293, (by decide : 5 + 0 ≤ _), (by decide : 40 + 0 ≤ _)⟩)
                  dsimp only [Pt.U, Pt.locs, Pt.cells, Pt.slots] at X296 l296 y296 z296 st296 hQ296
                  subst l296 y296 z296
                  obtain ⟨rfl, N296q, hs296⟩ := hQ296
                  have N296 := Fr.app N293 N296q
                  refine own_on st296 ?_
                  show own_G p e below Φ T296 (mkF m 321 #[.val (.int p0), .val (.long q1), .second, .val (.long q2), .second, .val (.int (0 : Int32)), .val (.int (1 : Int32)), .val (.int (0 : Int32)), .val (.int z8), .val (.ref ob5), .val (.ref ob7), .val (.ref ob9), .val (.ref ob12), .val (.ref ob18), .val (.ref t14), .val .null, .val (.int (1 : Int32))] [.null])
                  refine own_go (fun _ => XS.ifnonnullNo X296.here hx rfl (hb hby at_321) rfl) ?_
                  show own_G p e below Φ T296 (mkF m 324 #[.val (.int p0), .val (.long q1), .second, .val (.long q2), .second, .val (.int (0 : Int32)), .val (.int (1 : Int32)), .val (.int (0 : Int32)), .val (.int z8), .val (.ref ob5), .val (.ref ob7), .val (.ref ob9), .val (.ref ob12), .val (.ref ob18), .val (.ref t14), .val .null, .val (.int (1 : Int32))] [])
                  refine own_go (fun _ => XS.iconst X296.here hx rfl (hb hby at_324)) ?_
                  show own_G p e below Φ T296 (mkF m 325 #[.val (.int p0), .val (.long q1), .second, .val (.long q2), .second, .val (.int (0 : Int32)), .val (.int (1 : Int32)), .val (.int (0 : Int32)), .val (.int z8), .val (.ref ob5), .val (.ref ob7), .val (.ref ob9), .val (.ref ob12), .val (.ref ob18), .val (.ref t14), .val .null, .val (.int (1 : Int32))] [(.int (1 : Int32))])
                  refine own_go (fun _ => XS.goto X296.here hx rfl (pc0 := 325) (pc' := 329) rfl (hb hby at_325) (by decide) (by decide)) ?_
                  show own_G p e below Φ T296 (mkF m 329 #[.val (.int p0), .val (.long q1), .second, .val (.long q2), .second, .val (.int (0 : Int32)), .val (.int (1 : Int32)), .val (.int (0 : Int32)), .val (.int z8), .val (.ref ob5), .val (.ref ob7), .val (.ref ob9), .val (.ref ob12), .val (.ref ob18), .val (.ref t14), .val .null, .val (.int (1 : Int32))] [(.int (1 : Int32))])
                  refine own_go (fun _ => XS.istore X296.here hx rfl (hb hby at_329) rfl (l' := #[.val (.int p0), .val (.long q1), .second, .val (.long q2), .second, .val (.int (0 : Int32)), .val (.int (1 : Int32)), .val (.int (0 : Int32)), .val (.int z8), .val (.ref ob5), .val (.ref ob7), .val (.ref ob9), .val (.ref ob12), .val (.ref ob18), .val (.ref t14), .val .null, .val (.int (1 : Int32))]) rfl) ?_
                  show own_G p e below Φ T296 (mkF m 331 #[.val (.int p0), .val (.long q1), .second, .val (.long q2), .second, .val (.int (0 : Int32)), .val (.int (1 : Int32)), .val (.int (0 : Int32)), .val (.int z8), .val (.ref ob5), .val (.ref ob7), .val (.ref ob9), .val (.ref ob12), .val (.ref ob18), .val (.ref t14), .val .null, .val (.int (1 : Int32))] [])
                  refine own_go (fun _ => XS.iload X296.here hx rfl (hb hby at_331) rfl) ?_
                  show own_G p e below Φ T296 (mkF m 333 #[.val (.int p0), .val (.long q1), .second, .val (.long q2), .second, .val (.int (0 : Int32)), .val (.int (1 : Int32)), .val (.int (0 : Int32)), .val (.int z8), .val (.ref ob5), .val (.ref ob7), .val (.ref ob9), .val (.ref ob12), .val (.ref ob18), .val (.ref t14), .val .null, .val (.int (1 : Int32))] [(.int (1 : Int32))])
                  refine own_go (fun _ => XS.ifNo X296.here hx rfl (hb hby at_333) rfl (Jvm.Free.XT.i0_eq_f (by decide : ¬ ((1 : Int32) = (0 : Int32))))) ?_
                  show own_G p e below Φ T296 (mkF m 336 #[.val (.int p0), .val (.long q1), .second, .val (.long q2), .second, .val (.int (0 : Int32)), .val (.int (1 : Int32)), .val (.int (0 : Int32)), .val (.int z8), .val (.ref ob5), .val (.ref ob7), .val (.ref ob9), .val (.ref ob12), .val (.ref ob18), .val (.ref t14), .val .null, .val (.int (1 : Int32))] [])
                  refine own_go (fun _ => XS.aload X296.here hx rfl (hb hby at_336) rfl rfl) ?_
                  show own_G p e below Φ T296 (mkF m 338 #[.val (.int p0), .val (.long q1), .second, .val (.long q2), .second, .val (.int (0 : Int32)), .val (.int (1 : Int32)), .val (.int (0 : Int32)), .val (.int z8), .val (.ref ob5), .val (.ref ob7), .val (.ref ob9), .val (.ref ob12), .val (.ref ob18), .val (.ref t14), .val .null, .val (.int (1 : Int32))] [(.ref ob9)])
                  obtain ⟨cq297, kq297, q297a, q297b, q297c⟩ := isOf hZ hs296 p265_0
                  obtain ⟨_, _, ⟨T297, zL297, zk297, zn297⟩, -, X297, ⟨Lc297, hQ297, l297, y297, z297⟩, st297⟩ := X296.virtualBack hx (y := (⟨"corro/core/Order", "quantity", "()J"⟩ : MethodName)) (z := (⟨"corro/core/Order", "quantity", "()J"⟩ : MethodName)) hown (mvT hZ (wd_54 hw)) (mvT hZ (wd_55 hw)) (notFace_of_selects (args := #[]) (mvT hZ (wd_57 hw))) (mvT hZ (wd_57 hw)) (mvT hZ (wd_56 hw)) (by decide) (backOf (W := 0) (rmGquantity l Z a0 hw [] ob9 q1 T265.heap n0 Zp265 p265_4) hZ (wd_58 hw) (wd_11 hw) (by decide) (by decide)) q297a q297c (g := (mkF m 338 #[.val (.int p0), .val (.long q1), .second, .val (.long q2), .second, .val (.int (0 : Int32)), .val (.int (1 : Int32)), .val (.int (0 : Int32)), .val (.int z8), .val (.ref ob5), .val (.ref ob7), .val (.ref ob9), .val (.ref ob12), .val (.ref ob18), .val (.ref t14), .val .null, .val (.int (1 : Int32))] [(.ref ob9)])) rfl (by rw [hml]; rfl) (Steps.refl _) (argsL := []) (rest := []) (lenOf pd_5 rfl) rfl (by show 2 * 0 + _ ≤ _; exact Nat.le_of_eq rfl) (hb hby at_338) (fun _ _ => ⟨rfl, hs296, (by decide : 5 + 0 ≤ _), (by decide : 40 + 0 ≤ _)⟩)
                  dsimp only [Pt.U, Pt.locs, Pt.cells, Pt.slots] at X297 l297 y297 z297 st297 hQ297
                  subst l297 y297 z297
                  obtain ⟨rfl, N297q, hs297⟩ := hQ297
                  have N297 := Fr.app N296 N297q
                  refine own_on st297 ?_
                  show own_G p e below Φ T297 (mkF m 341 #[.val (.int p0), .val (.long q1), .second, .val (.long q2), .second, .val (.int (0 : Int32)), .val (.int (1 : Int32)), .val (.int (0 : Int32)), .val (.int z8), .val (.ref ob5), .val (.ref ob7), .val (.ref ob9), .val (.ref ob12), .val (.ref ob18), .val (.ref t14), .val .null, .val (.int (1 : Int32))] [(.long q1)])
                  refine own_go (fun _ => XS.lloadN X297.here hx rfl (hb hby at_341) rfl) ?_
                  show own_G p e below Φ T297 (mkF m 342 #[.val (.int p0), .val (.long q1), .second, .val (.long q2), .second, .val (.int (0 : Int32)), .val (.int (1 : Int32)), .val (.int (0 : Int32)), .val (.int z8), .val (.ref ob5), .val (.ref ob7), .val (.ref ob9), .val (.ref ob12), .val (.ref ob18), .val (.ref t14), .val .null, .val (.int (1 : Int32))] [(.long q1), (.long q1)])
                  refine own_go (fun _ => XS.lcmp X297.here hx rfl (hb hby at_342) rfl) ?_
                  show own_G p e below Φ T297 (mkF m 343 #[.val (.int p0), .val (.long q1), .second, .val (.long q2), .second, .val (.int (0 : Int32)), .val (.int (1 : Int32)), .val (.int (0 : Int32)), .val (.int z8), .val (.ref ob5), .val (.ref ob7), .val (.ref ob9), .val (.ref ob12), .val (.ref ob18), .val (.ref t14), .val .null, .val (.int (1 : Int32))] [(.int (lcmpW q1 q1))])
                  refine own_go (fun _ => XS.ifNo X297.here hx rfl (hb hby at_343) rfl (Jvm.Free.XT.ll_ne_f (rfl : q1 = q1))) ?_
                  show own_G p e below Φ T297 (mkF m 346 #[.val (.int p0), .val (.long q1), .second, .val (.long q2), .second, .val (.int (0 : Int32)), .val (.int (1 : Int32)), .val (.int (0 : Int32)), .val (.int z8), .val (.ref ob5), .val (.ref ob7), .val (.ref ob9), .val (.ref ob12), .val (.ref ob18), .val (.ref t14), .val .null, .val (.int (1 : Int32))] [])
                  refine own_go (fun _ => XS.aload X297.here hx rfl (hb hby at_346) rfl rfl) ?_
                  show own_G p e below Φ T297 (mkF m 348 #[.val (.int p0), .val (.long q1), .second, .val (.long q2), .second, .val (.int (0 : Int32)), .val (.int (1 : Int32)), .val (.int (0 : Int32)), .val (.int z8), .val (.ref ob5), .val (.ref ob7), .val (.ref ob9), .val (.ref ob12), .val (.ref ob18), .val (.ref t14), .val .null, .val (.int (1 : Int32))] [(.ref ob9)])
                  obtain ⟨cq298, kq298, q298a, q298b, q298c⟩ := isOf hZ hs297 p265_0
                  obtain ⟨_, _, ⟨T298, zL298, zk298, zn298⟩, -, X298, ⟨Lc298, hQ298, l298, y298, z298⟩, st298⟩ := X297.virtualBack hx (y := (⟨"corro/core/Order", "price", "()J"⟩ : MethodName)) (z := (⟨"corro/core/Order", "price", "()J"⟩ : MethodName)) hown (mvT hZ (wd_59 hw)) (mvT hZ (wd_60 hw)) (notFace_of_selects (args := #[]) (mvT hZ (wd_62 hw))) (mvT hZ (wd_62 hw)) (mvT hZ (wd_61 hw)) (by decide) (backOf (W := 0) (rmGprice l Z a0 hw [] ob9 q2 T265.heap n0 Zp265 p265_5) hZ (wd_63 hw) (wd_11 hw) (by decide) (by decide)) q298a q298c (g := (mkF m 348 #[.val (.int p0), .val (.long q1), .second, .val (.long q2), .second, .val (.int (0 : Int32)), .val (.int (1 : Int32)), .val (.int (0 : Int32)), .val (.int z8), .val (.ref ob5), .val (.ref ob7), .val (.ref ob9), .val (.ref ob12), .val (.ref ob18), .val (.ref t14), .val .null, .val (.int (1 : Int32))] [(.ref ob9)])) rfl (by rw [hml]; rfl) (Steps.refl _) (argsL := []) (rest := []) (lenOf pd_5 rfl) rfl (by show 2 * 0 + _ ≤ _; exact Nat.le_of_eq rfl) (hb hby at_348) (fun _ _ => ⟨rfl, hs297, (by decide : 5 + 0 ≤ _), (by decide : 40 + 0 ≤ _)⟩)
                  dsimp only [Pt.U, Pt.locs, Pt.cells, Pt.slots] at X298 l298 y298 z298 st298 hQ298
                  subst l298 y298 z298
                  obtain ⟨rfl, N298q, hs298⟩ := hQ298
                  have N298 := Fr.app N297 N298q
                  refine own_on st298 ?_
                  show own_G p e below Φ T298 (mkF m 351 #[.val (.int p0), .val (.long q1), .second, .val (.long q2), .second, .val (.int (0 : Int32)), .val (.int (1 : Int32)), .val (.int (0 : Int32)), .val (.int z8), .val (.ref ob5), .val (.ref ob7), .val (.ref ob9), .val (.ref ob12), .val (.ref ob18), .val (.ref t14), .val .null, .val (.int (1 : Int32))] [(.long q2)])
                  refine own_go (fun _ => XS.lloadN X298.here hx rfl (hb hby at_351) rfl) ?_
                  show own_G p e below Φ T298 (mkF m 352 #[.val (.int p0), .val (.long q1), .second, .val (.long q2), .second, .val (.int (0 : Int32)), .val (.int (1 : Int32)), .val (.int (0 : Int32)), .val (.int z8), .val (.ref ob5), .val (.ref ob7), .val (.ref ob9), .val (.ref ob12), .val (.ref ob18), .val (.ref t14), .val .null, .val (.int (1 : Int32))] [(.long q2), (.long q2)])
                  refine own_go (fun _ => XS.lcmp X298.here hx rfl (hb hby at_352) rfl) ?_
                  show own_G p e below Φ T298 (mkF m 353 #[.val (.int p0), .val (.long q1), .second, .val (.long q2), .second, .val (.int (0 : Int32)), .val (.int (1 : Int32)), .val (.int (0 : Int32)), .val (.int z8), .val (.ref ob5), .val (.ref ob7), .val (.ref ob9), .val (.ref ob12), .val (.ref ob18), .val (.ref t14), .val .null, .val (.int (1 : Int32))] [(.int (lcmpW q2 q2))])
                  refine own_go (fun _ => XS.ifNo X298.here hx rfl (hb hby at_353) rfl (Jvm.Free.XT.ll_ne_f (rfl : q2 = q2))) ?_
                  show own_G p e below Φ T298 (mkF m 356 #[.val (.int p0), .val (.long q1), .second, .val (.long q2), .second, .val (.int (0 : Int32)), .val (.int (1 : Int32)), .val (.int (0 : Int32)), .val (.int z8), .val (.ref ob5), .val (.ref ob7), .val (.ref ob9), .val (.ref ob12), .val (.ref ob18), .val (.ref t14), .val .null, .val (.int (1 : Int32))] [])
                  refine own_go (fun _ => XS.iconst X298.here hx rfl (hb hby at_356)) ?_
                  show own_G p e below Φ T298 (mkF m 357 #[.val (.int p0), .val (.long q1), .second, .val (.long q2), .second, .val (.int (0 : Int32)), .val (.int (1 : Int32)), .val (.int (0 : Int32)), .val (.int z8), .val (.ref ob5), .val (.ref ob7), .val (.ref ob9), .val (.ref ob12), .val (.ref ob18), .val (.ref t14), .val .null, .val (.int (1 : Int32))] [(.int (1 : Int32))])
                  refine own_go (fun _ => XS.goto X298.here hx rfl (pc0 := 357) (pc' := 361) rfl (hb hby at_357) (by decide) (by decide)) ?_
                  show own_G p e below Φ T298 (mkF m 361 #[.val (.int p0), .val (.long q1), .second, .val (.long q2), .second, .val (.int (0 : Int32)), .val (.int (1 : Int32)), .val (.int (0 : Int32)), .val (.int z8), .val (.ref ob5), .val (.ref ob7), .val (.ref ob9), .val (.ref ob12), .val (.ref ob18), .val (.ref t14), .val .null, .val (.int (1 : Int32))] [(.int (1 : Int32))])
                  refine own_go (fun _ => XS.istore X298.here hx rfl (hb hby at_361) rfl (l' := #[.val (.int p0), .val (.long q1), .second, .val (.long q2), .second, .val (.int (0 : Int32)), .val (.int (1 : Int32)), .val (.int (0 : Int32)), .val (.int z8), .val (.ref ob5), .val (.ref ob7), .val (.ref ob9), .val (.ref ob12), .val (.ref ob18), .val (.ref t14), .val .null, .val (.int (1 : Int32))]) rfl) ?_
                  show own_G p e below Φ T298 (mkF m 363 #[.val (.int p0), .val (.long q1), .second, .val (.long q2), .second, .val (.int (0 : Int32)), .val (.int (1 : Int32)), .val (.int (0 : Int32)), .val (.int z8), .val (.ref ob5), .val (.ref ob7), .val (.ref ob9), .val (.ref ob12), .val (.ref ob18), .val (.ref t14), .val .null, .val (.int (1 : Int32))] [])
                  refine own_go (fun _ => XS.iload X298.here hx rfl (hb hby at_363) rfl) ?_
                  show own_G p e below Φ T298 (mkF m 365 #[.val (.int p0), .val (.long q1), .second, .val (.long q2), .second, .val (.int (0 : Int32)), .val (.int (1 : Int32)), .val (.int (0 : Int32)), .val (.int z8), .val (.ref ob5), .val (.ref ob7), .val (.ref ob9), .val (.ref ob12), .val (.ref ob18), .val (.ref t14), .val .null, .val (.int (1 : Int32))] [(.int (1 : Int32))])
                  rw [hΦ]
                  refine own_ret X298 (v := some (.int (1 : Int32))) (fun h => by rw [Bd.returns] at h; cases h) (BodyLoose.notSynchronized Bd) (fun fs hr => retN X298 hx (t := .boolean) Bd.returns (by simp) (hb hby at_365) hr) ?_ (by decide) (by decide)
                  rw [hs298]
                  exact ⟨rfl, N298⟩
                · show own_G p e below Φ T263 (mkF m 165 #[.val (.int p0), .val (.long q1), .second, .val (.long q2), .second, .val (.int (1 : Int32)), .val (.int (1 : Int32)), .val (.int (0 : Int32)), .val (.int z8), .val (.ref ob5), .val (.ref ob7), .val (.ref ob9), .val (.ref ob12), .val (.ref ob18), .val (.ref t14), .unset, .unset] [])
                  refine own_go (fun _ => XS.iload X263.here hx rfl (hb hby at_165) rfl) ?_
                  show own_G p e below Φ T263 (mkF m 167 #[.val (.int p0), .val (.long q1), .second, .val (.long q2), .second, .val (.int (1 : Int32)), .val (.int (1 : Int32)), .val (.int (0 : Int32)), .val (.int z8), .val (.ref ob5), .val (.ref ob7), .val (.ref ob9), .val (.ref ob12), .val (.ref ob18), .val (.ref t14), .unset, .unset] [(.int (1 : Int32))])
                  refine own_go (fun _ => XS.ifNo X263.here hx rfl (hb hby at_167) rfl (Jvm.Free.XT.i0_eq_f (by decide : ¬ ((1 : Int32) = (0 : Int32))))) ?_
                  show own_G p e below Φ T263 (mkF m 170 #[.val (.int p0), .val (.long q1), .second, .val (.long q2), .second, .val (.int (1 : Int32)), .val (.int (1 : Int32)), .val (.int (0 : Int32)), .val (.int z8), .val (.ref ob5), .val (.ref ob7), .val (.ref ob9), .val (.ref ob12), .val (.ref ob18), .val (.ref t14), .unset, .unset] [])
                  refine own_go (fun _ => XS.aload X263.here hx rfl (hb hby at_170) rfl rfl) ?_
                  show own_G p e below Φ T263 (mkF m 172 #[.val (.int p0), .val (.long q1), .second, .val (.long q2), .second, .val (.int (1 : Int32)), .val (.int (1 : Int32)), .val (.int (0 : Int32)), .val (.int z8), .val (.ref ob5), .val (.ref ob7), .val (.ref ob9), .val (.ref ob12), .val (.ref ob18), .val (.ref t14), .unset, .unset] [(.ref ob12)])
                  refine own_go (fun _ => XS.goto X263.here hx rfl (pc0 := 172) (pc' := 176) rfl (hb hby at_172) (by decide) (by decide)) ?_
                  show own_G p e below Φ T263 (mkF m 176 #[.val (.int p0), .val (.long q1), .second, .val (.long q2), .second, .val (.int (1 : Int32)), .val (.int (1 : Int32)), .val (.int (0 : Int32)), .val (.int z8), .val (.ref ob5), .val (.ref ob7), .val (.ref ob9), .val (.ref ob12), .val (.ref ob18), .val (.ref t14), .unset, .unset] [(.ref ob12)])
                  refine own_go (fun _ => XS.astore X263.here hx rfl (hb hby at_176) rfl rfl (l' := #[.val (.int p0), .val (.long q1), .second, .val (.long q2), .second, .val (.int (1 : Int32)), .val (.int (1 : Int32)), .val (.int (0 : Int32)), .val (.int z8), .val (.ref ob5), .val (.ref ob7), .val (.ref ob9), .val (.ref ob12), .val (.ref ob18), .val (.ref t14), .val (.ref ob12), .unset]) rfl) ?_
                  show own_G p e below Φ T263 (mkF m 178 #[.val (.int p0), .val (.long q1), .second, .val (.long q2), .second, .val (.int (1 : Int32)), .val (.int (1 : Int32)), .val (.int (0 : Int32)), .val (.int z8), .val (.ref ob5), .val (.ref ob7), .val (.ref ob9), .val (.ref ob12), .val (.ref ob18), .val (.ref t14), .val (.ref ob12), .unset] [])
                  refine own_go (fun _ => XS.aload X263.here hx rfl (hb hby at_178) rfl rfl) ?_
                  show own_G p e below Φ T263 (mkF m 180 #[.val (.int p0), .val (.long q1), .second, .val (.long q2), .second, .val (.int (1 : Int32)), .val (.int (1 : Int32)), .val (.int (0 : Int32)), .val (.int z8), .val (.ref ob5), .val (.ref ob7), .val (.ref ob9), .val (.ref ob12), .val (.ref ob18), .val (.ref t14), .val (.ref ob12), .unset] [(.ref ob9)])
                  refine own_go (fun _ => XS.aload X263.here hx rfl (hb hby at_180) rfl rfl) ?_
                  show own_G p e below Φ T263 (mkF m 182 #[.val (.int p0), .val (.long q1), .second, .val (.long q2), .second, .val (.int (1 : Int32)), .val (.int (1 : Int32)), .val (.int (0 : Int32)), .val (.int z8), .val (.ref ob5), .val (.ref ob7), .val (.ref ob9), .val (.ref ob12), .val (.ref ob18), .val (.ref t14), .val (.ref ob12), .unset] [(.ref t14), (.ref ob9)])
                  refine own_go (fun _ => XS.aload X263.here hx rfl (hb hby at_182) rfl rfl) ?_
                  show own_G p e below Φ T263 (mkF m 184 #[.val (.int p0), .val (.long q1), .second, .val (.long q2), .second, .val (.int (1 : Int32)), .val (.int (1 : Int32)), .val (.int (0 : Int32)), .val (.int z8), .val (.ref ob5), .val (.ref ob7), .val (.ref ob9), .val (.ref ob12), .val (.ref ob18), .val (.ref t14), .val (.ref ob12), .unset] [(.ref ob12), (.ref t14), (.ref ob9)])
                  have f299 : Exa Z T262.heap ob9 "corro/core/Order" := p255_0.keep Kq262
                  have f300 : Exa Z h18 ob12 "corro/core/Order" := p17_0.ext E18
                  have f301 : Exa Z T25.heap ob12 "corro/core/Order" := f300.keep Kq25
                  have f302 : Exa Z T255.heap ob12 "corro/core/Order" := f301.keep Kq255
                  have f303 : Exa Z T262.heap ob12 "corro/core/Order" := f302.keep Kq262
                  have f304 : Fld Z h18 ob12 "corro/core/Order" "level" "Lcorro/core/Level;" .null := p17_1.ext E18
                  have f305 : Fld Z T25.heap ob12 "corro/core/Order" "level" "Lcorro/core/Level;" .null := f304.keep Kq25 (ninS ne_ob12_ob18 nin0)
                  have f306 : Fld Z T255.heap ob12 "corro/core/Order" "level" "Lcorro/core/Level;" .null := f305.keep Kq255 (ninS (Ne.symm ne_ob9_ob12) nin0)
                  have f307 : Fld Z T262.heap ob12 "corro/core/Order" "level" "Lcorro/core/Level;" .null := f306.keep Kq262 (ninS ne_ob12_ob18 (ninS (Ne.symm ne_ob9_ob12) nin0))
                  have f308 : Fld Z h18 ob12 "corro/core/Order" "previous" "Lcorro/core/Order;" .null := p17_2.ext E18
                  have f309 : Fld Z T25.heap ob12 "corro/core/Order" "previous" "Lcorro/core/Order;" .null := f308.keep Kq25 (ninS ne_ob12_ob18 nin0)
                  have f310 : Fld Z T255.heap ob12 "corro/core/Order" "previous" "Lcorro/core/Order;" .null := f309.keep Kq255 (ninS (Ne.symm ne_ob9_ob12) nin0)
                  have f311 : Fld Z T262.heap ob12 "corro/core/Order" "previous" "Lcorro/core/Order;" .null := f310.keep Kq262 (ninS ne_ob12_ob18 (ninS (Ne.symm ne_ob9_ob12) nin0))
                  have f312 : Fld Z h18 ob12 "corro/core/Order" "next" "Lcorro/core/Order;" .null := p17_3.ext E18
                  have f313 : Fld Z T25.heap ob12 "corro/core/Order" "next" "Lcorro/core/Order;" .null := f312.keep Kq25 (ninS ne_ob12_ob18 nin0)
                  have f314 : Fld Z T255.heap ob12 "corro/core/Order" "next" "Lcorro/core/Order;" .null := f313.keep Kq255 (ninS (Ne.symm ne_ob9_ob12) nin0)
                  have f315 : Fld Z T262.heap ob12 "corro/core/Order" "next" "Lcorro/core/Order;" .null := f314.keep Kq262 (ninS ne_ob12_ob18 (ninS (Ne.symm ne_ob9_ob12) nin0))
                  have f316 : Fld Z h18 ob12 "corro/core/Order" "quantity" "J" (.long q1) := p17_4.ext E18
                  have f317 : Fld Z T25.heap ob12 "corro/core/Order" "quantity" "J" (.long q1) := f316.keep Kq25 (ninS ne_ob12_ob18 nin0)
                  have f318 : Fld Z T255.heap ob12 "corro/core/Order" "quantity" "J" (.long q1) := f317.keep Kq255 (ninS (Ne.symm ne_ob9_ob12) nin0)
                  have f319 : Fld Z T262.heap ob12 "corro/core/Order" "quantity" "J" (.long q1) := f318.keep Kq262 (ninS ne_ob12_ob18 (ninS (Ne.symm ne_ob9_ob12) nin0))
                  have f320 : Fld Z h18 ob12 "corro/core/Order" "price" "J" (.long q2) := p17_5.ext E18
                  have f321 : Fld Z T25.heap ob12 "corro/core/Order" "price" "J" (.long q2) := f320.keep Kq25 (ninS ne_ob12_ob18 nin0)
                  have f322 : Fld Z T255.heap ob12 "corro/core/Order" "price" "J" (.long q2) := f321.keep Kq255 (ninS (Ne.symm ne_ob9_ob12) nin0)
                  have f323 : Fld Z T262.heap ob12 "corro/core/Order" "price" "J" (.long q2) := f322.keep Kq262 (ninS ne_ob12_ob18 (ninS (Ne.symm ne_ob9_ob12) nin0))
                  obtain ⟨cq324, kq324, q324a, q324b, q324c⟩ := isOf hZ e263 f299
                  obtain ⟨_, _, ⟨T324, zL324, zk324, zn324⟩, -, X324, ⟨Lc324, hQ324, l324, y324, z324⟩, st324⟩ := X263.virtualBack hx (y := (⟨"corro/core/Order", "join", "(Lcorro/core/Level;Lcorro/core/Order;)V"⟩ : MethodName)) (z := (⟨"corro/core/Order", "join", "(Lcorro/core/Level;Lcorro/core/Order;)V"⟩ : MethodName)) hown (mvT hZ (wd_28 hw)) (mvT hZ (wd_29 hw)) (notFace_of_selects (args := #[]) (mvT hZ (wd_31 hw))) (mvT hZ (wd_31 hw)) (mvT hZ (wd_30 hw)) (by decide) (backOf (W := 0) (rmJO l Z a0 hw [] ob9 t14 ob12 (.ref ob5) .null (.ref ob18) .null .null .null q1 q2 q1 q2 T262.heap n0 Zp262 f299 f303 p262_4 p262_5 p262_6 p262_9 p262_10 f307 f311 f315 f319 f323 g_ob9 g_ob12 ne_ob9_ob12) hZ (wd_32 hw) (wd_11 hw) (by decide) (by decide)) q324a q324c (g := (mkF m 184 #[.val (.int p0), .val (.long q1), .second, .val (.long q2), .second, .val (.int (1 : Int32)), .val (.int (1 : Int32)), .val (.int (0 : Int32)), .val (.int z8), .val (.ref ob5), .val (.ref ob7), .val (.ref ob9), .val (.ref ob12), .val (.ref ob18), .val (.ref t14), .val (.ref ob12), .unset] [(.ref ob12), (.ref t14), (.ref ob9)])) rfl (by rw [hml]; rfl) (Steps.refl _) (argsL := [(.ref t14), (.ref ob12)]) (rest := []) (lenOf pd_2 rfl) rfl (by show 2 * 0 + _ ≤ _; exact Nat.le_of_eq rfl) (hb hby at_184) (fun _ _ => ⟨rfl, e263, (by decide : 5 + 0 ≤ _), (by decide : 40 + 0 ≤ _)⟩)
                  dsimp only [Pt.U, Pt.locs, Pt.cells, Pt.slots] at X324 l324 y324 z324 st324 hQ324
                  subst l324 y324 z324
                  obtain ⟨rfl, N324q, Kq324, p324_0, p324_1, p324_2, p324_3, p324_4, p324_5, p324_6, p324_7, p324_8, p324_9, p324_10⟩ := hQ324
                  have N324 := Fr.app N262 N324q
                  refine own_on st324 ?_
                  have Zp324 : n0 ≤ T324.heap.size := Nat.le_trans Zp262 Kq324.1
                  show own_G p e below Φ T324 (mkF m 187 #[.val (.int p0), .val (.long q1), .second, .val (.long q2), .second, .val (.int (1 : Int32)), .val (.int (1 : Int32)), .val (.int (0 : Int32)), .val (.int z8), .val (.ref ob5), .val (.ref ob7), .val (.ref ob9), .val (.ref ob12), .val (.ref ob18), .val (.ref t14), .val (.ref ob12), .unset] [])
                  refine own_go (fun _ => XS.aload X324.here hx rfl (hb hby at_187) rfl rfl) ?_
                  show own_G p e below Φ T324 (mkF m 189 #[.val (.int p0), .val (.long q1), .second, .val (.long q2), .second, .val (.int (1 : Int32)), .val (.int (1 : Int32)), .val (.int (0 : Int32)), .val (.int z8), .val (.ref ob5), .val (.ref ob7), .val (.ref ob9), .val (.ref ob12), .val (.ref ob18), .val (.ref t14), .val (.ref ob12), .unset] [(.ref ob9)])
                  obtain ⟨cq325, kq325, q325a, q325b, q325c⟩ := isOf hZ rfl p324_0
                  obtain ⟨_, _, ⟨T325, zL325, zk325, zn325⟩, -, X325, ⟨Lc325, hQ325, l325, y325, z325⟩, st325⟩ := X324.virtualBack hx (y := (⟨"corro/core/Order", "level", "()Lcorro/core/Level;"⟩ : MethodName)) (z := (⟨"corro/core/Order", "level", "()Lcorro/core/Level;"⟩ : MethodName)) hown (mvT hZ (wd_39 hw)) (mvT hZ (wd_40 hw)) (notFace_of_selects (args := #[]) (mvT hZ (wd_42 hw))) (mvT hZ (wd_42 hw)) (mvT hZ (wd_41 hw)) (by decide) (backOf (W := 0) (rmGlevel l Z a0 hw [] ob9 (.ref t14) T324.heap n0 Zp324 p324_1 rfl) hZ (wd_43 hw) (wd_11 hw) (by decide) (by decide)) q325a q325c (g := (mkF m 189 #[.val (.int p0), .val (.long q1), .second, .val (.long q2), .second, .val (.int (1 : Int32)), .val (.int (1 : Int32)), .val (.int (0 : Int32)), .val (.int z8), .val (.ref ob5), .val (.ref ob7), .val (.ref ob9), .val (.ref ob12), .val (.ref ob18), .val (.ref t14), .val (.ref ob12), .unset] [(.ref ob9)])) rfl (by rw [hml]; rfl) (Steps.refl _) (argsL := []) (rest := []) (lenOf pd_3 rfl) rfl (by show 2 * 0 + _ ≤ _; exact Nat.le_of_eq rfl) (hb hby at_189) (fun _ _ => ⟨rfl, rfl, (by decide : 5 + 0 ≤ _), (by decide : 40 + 0 ≤ _)⟩)
                  dsimp only [Pt.U, Pt.locs, Pt.cells, Pt.slots] at X325 l325 y325 z325 st325 hQ325
                  subst l325 y325 z325
                  obtain ⟨rfl, N325q, hs325⟩ := hQ325
                  have N325 := Fr.app N324 N325q
                  refine own_on st325 ?_
                  show own_G p e below Φ T325 (mkF m 192 #[.val (.int p0), .val (.long q1), .second, .val (.long q2), .second, .val (.int (1 : Int32)), .val (.int (1 : Int32)), .val (.int (0 : Int32)), .val (.int z8), .val (.ref ob5), .val (.ref ob7), .val (.ref ob9), .val (.ref ob12), .val (.ref ob18), .val (.ref t14), .val (.ref ob12), .unset] [(.ref t14)])
                  refine own_go (fun _ => XS.aload X325.here hx rfl (hb hby at_192) rfl rfl) ?_
                  show own_G p e below Φ T325 (mkF m 194 #[.val (.int p0), .val (.long q1), .second, .val (.long q2), .second, .val (.int (1 : Int32)), .val (.int (1 : Int32)), .val (.int (0 : Int32)), .val (.int z8), .val (.ref ob5), .val (.ref ob7), .val (.ref ob9), .val (.ref ob12), .val (.ref ob18), .val (.ref t14), .val (.ref ob12), .unset] [(.ref t14), (.ref t14)])
                  refine own_go (fun _ => Jvm.RoadKit.acmp (g := (mkF m 194 #[.val (.int p0), .val (.long q1), .second, .val (.long q2), .second, .val (.int (1 : Int32)), .val (.int (1 : Int32)), .val (.int (0 : Int32)), .val (.int z8), .val (.ref ob5), .val (.ref ob7), .val (.ref ob9), .val (.ref ob12), .val (.ref ob18), .val (.ref t14), .val (.ref ob12), .unset] [(.ref t14), (.ref t14)])) X325 hx rfl rfl rfl (pc0 := 194) (pc' := 197) (same := true) rfl (hb hby at_194) rfl (decide_eq_true rfl) (by decide) (by decide)) ?_
                  show own_G p e below Φ T325 (mkF m 197 #[.val (.int p0), .val (.long q1), .second, .val (.long q2), .second, .val (.int (1 : Int32)), .val (.int (1 : Int32)), .val (.int (0 : Int32)), .val (.int z8), .val (.ref ob5), .val (.ref ob7), .val (.ref ob9), .val (.ref ob12), .val (.ref ob18), .val (.ref t14), .val (.ref ob12), .unset] [])
                  refine own_go (fun _ => XS.aload X325.here hx rfl (hb hby at_197) rfl rfl) ?_
                  show own_G p e below Φ T325 (mkF m 199 #[.val (.int p0), .val (.long q1), .second, .val (.long q2), .second, .val (.int (1 : Int32)), .val (.int (1 : Int32)), .val (.int (0 : Int32)), .val (.int z8), .val (.ref ob5), .val (.ref ob7), .val (.ref ob9), .val (.ref ob12), .val (.ref ob18), .val (.ref t14), .val (.ref ob12), .unset] [(.ref ob9)])
                  obtain ⟨cq326, kq326, q326a, q326b, q326c⟩ := isOf hZ hs325 p324_0
                  obtain ⟨_, _, ⟨T326, zL326, zk326, zn326⟩, -, X326, ⟨Lc326, hQ326, l326, y326, z326⟩, st326⟩ := X325.virtualBack hx (y := (⟨"corro/core/Order", "previous", "()Lcorro/core/Order;"⟩ : MethodName)) (z := (⟨"corro/core/Order", "previous", "()Lcorro/core/Order;"⟩ : MethodName)) hown (mvT hZ (wd_44 hw)) (mvT hZ (wd_45 hw)) (notFace_of_selects (args := #[]) (mvT hZ (wd_47 hw))) (mvT hZ (wd_47 hw)) (mvT hZ (wd_46 hw)) (by decide) (backOf (W := 0) (rmGprevious l Z a0 hw [] ob9 (.ref ob12) T324.heap n0 Zp324 p324_2 rfl) hZ (wd_48 hw) (wd_11 hw) (by decide) (by decide)) q326a q326c (g := (mkF m 199 #[.val (.int p0), .val (.long q1), .second, .val (.long q2), .second, .val (.int (1 : Int32)), .val (.int (1 : Int32)), .val (.int (0 : Int32)), .val (.int z8), .val (.ref ob5), .val (.ref ob7), .val (.ref ob9), .val (.ref ob12), .val (.ref ob18), .val (.ref t14), .val (.ref ob12), .unset] [(.ref ob9)])) rfl (by rw [hml]; rfl) (Steps.refl _) (argsL := []) (rest := []) (lenOf pd_4 rfl) rfl (by show 2 * 0 + _ ≤ _; exact Nat.le_of_eq rfl) (hb hby at_199) (fun _ _ => ⟨rfl, hs325, (by decide : 5 + 0 ≤ _), (by decide : 40 + 0 ≤ _)⟩)
                  dsimp only [Pt.U, Pt.locs, Pt.cells, Pt.slots] at X326 l326 y326 z326 st326 hQ326
                  subst l326 y326 z326
                  obtain ⟨rfl, N326q, hs326⟩ := hQ326
                  have N326 := Fr.app N325 N326q
                  refine own_on st326 ?_
                  show own_G p e below Φ T326 (mkF m 202 #[.val (.int p0), .val (.long q1), .second, .val (.long q2), .second, .val (.int (1 : Int32)), .val (.int (1 : Int32)), .val (.int (0 : Int32)), .val (.int z8), .val (.ref ob5), .val (.ref ob7), .val (.ref ob9), .val (.ref ob12), .val (.ref ob18), .val (.ref t14), .val (.ref ob12), .unset] [(.ref ob12)])
                  refine own_go (fun _ => XS.aload X326.here hx rfl (hb hby at_202) rfl rfl) ?_
                  show own_G p e below Φ T326 (mkF m 204 #[.val (.int p0), .val (.long q1), .second, .val (.long q2), .second, .val (.int (1 : Int32)), .val (.int (1 : Int32)), .val (.int (0 : Int32)), .val (.int z8), .val (.ref ob5), .val (.ref ob7), .val (.ref ob9), .val (.ref ob12), .val (.ref ob18), .val (.ref t14), .val (.ref ob12), .unset] [(.ref ob12), (.ref ob12)])
                  refine own_go (fun _ => Jvm.RoadKit.acmp (g := (mkF m 204 #[.val (.int p0), .val (.long q1), .second, .val (.long q2), .second, .val (.int (1 : Int32)), .val (.int (1 : Int32)), .val (.int (0 : Int32)), .val (.int z8), .val (.ref ob5), .val (.ref ob7), .val (.ref ob9), .val (.ref ob12), .val (.ref ob18), .val (.ref t14), .val (.ref ob12), .unset] [(.ref ob12), (.ref ob12)])) X326 hx rfl rfl rfl (pc0 := 204) (pc' := 207) (same := true) rfl (hb hby at_204) rfl (decide_eq_true rfl) (by decide) (by decide)) ?_
                  show own_G p e below Φ T326 (mkF m 207 #[.val (.int p0), .val (.long q1), .second, .val (.long q2), .second, .val (.int (1 : Int32)), .val (.int (1 : Int32)), .val (.int (0 : Int32)), .val (.int z8), .val (.ref ob5), .val (.ref ob7), .val (.ref ob9), .val (.ref ob12), .val (.ref ob18), .val (.ref t14), .val (.ref ob12), .unset] [])
                  refine own_go (fun _ => XS.aload X326.here hx rfl (hb hby at_207) rfl rfl) ?_
                  show own_G p e below Φ T326 (mkF m 209 #[.val (.int p0), .val (.long q1), .second, .val (.long q2), .second, .val (.int (1 : Int32)), .val (.int (1 : Int32)), .val (.int (0 : Int32)), .val (.int z8), .val (.ref ob5), .val (.ref ob7), .val (.ref ob9), .val (.ref ob12), .val (.ref ob18), .val (.ref t14), .val (.ref ob12), .unset] [(.ref ob9)])
                  obtain ⟨cq327, kq327, q327a, q327b, q327c⟩ := isOf hZ hs326 p324_0
                  obtain ⟨_, _, ⟨T327, zL327, zk327, zn327⟩, -, X327, ⟨Lc327, hQ327, l327, y327, z327⟩, st327⟩ := X326.virtualBack hx (y := (⟨"corro/core/Order", "next", "()Lcorro/core/Order;"⟩ : MethodName)) (z := (⟨"corro/core/Order", "next", "()Lcorro/core/Order;"⟩ : MethodName)) hown (mvT hZ (wd_49 hw)) (mvT hZ (wd_50 hw)) (notFace_of_selects (args := #[]) (mvT hZ (wd_52 hw))) (mvT hZ (wd_52 hw)) (mvT hZ (wd_51 hw)) (by decide) (backOf (W := 0) (rmGnext l Z a0 hw [] ob9 .null T324.heap n0 Zp324 p324_3 rfl) hZ (wd_53 hw) (wd_11 hw) (by decide) (by decide)) q327a q327c (g := (mkF m 209 #[.val (.int p0), .val (.long q1), .second, .val (.long q2), .second, .val (.int (1 : Int32)), .val (.int (1 : Int32)), .val (.int (0 : Int32)), .val (.int z8), .val (.ref ob5), .val (.ref ob7), .val (.ref ob9), .val (.ref ob12), .val (.ref ob18), .val (.ref t14), .val (.ref ob12), .unset] [(.ref ob9)])) rfl (by rw [hml]; rfl) (Steps.refl _) (argsL := []) (rest := []) (lenOf pd_4 rfl) rfl (by show 2 * 0 + _ ≤ _; exact Nat.le_of_eq rfl) (hb hby at_209) (fun _ _ => ⟨rfl, hs326, (by decide : 5 + 0 ≤ _), (by decide : 40 + 0 ≤ _)⟩)
                  dsimp only [Pt.U, Pt.locs, Pt.cells, Pt.slots] at X327 l327 y327 z327 st327 hQ327
                  subst l327 y327 z327
                  obtain ⟨rfl, N327q, hs327⟩ := hQ327
                  have N327 := Fr.app N326 N327q
                  refine own_on st327 ?_
                  show own_G p e below Φ T327 (mkF m 212 #[.val (.int p0), .val (.long q1), .second, .val (.long q2), .second, .val (.int (1 : Int32)), .val (.int (1 : Int32)), .val (.int (0 : Int32)), .val (.int z8), .val (.ref ob5), .val (.ref ob7), .val (.ref ob9), .val (.ref ob12), .val (.ref ob18), .val (.ref t14), .val (.ref ob12), .unset] [.null])
                  refine own_go (fun _ => XS.ifnonnullNo X327.here hx rfl (hb hby at_212) rfl) ?_
                  show own_G p e below Φ T327 (mkF m 215 #[.val (.int p0), .val (.long q1), .second, .val (.long q2), .second, .val (.int (1 : Int32)), .val (.int (1 : Int32)), .val (.int (0 : Int32)), .val (.int z8), .val (.ref ob5), .val (.ref ob7), .val (.ref ob9), .val (.ref ob12), .val (.ref ob18), .val (.ref t14), .val (.ref ob12), .unset] [])
                  refine own_go (fun _ => XS.iconst X327.here hx rfl (hb hby at_215)) ?_
                  show own_G p e below Φ T327 (mkF m 216 #[.val (.int p0), .val (.long q1), .second, .val (.long q2), .second, .val (.int (1 : Int32)), .val (.int (1 : Int32)), .val (.int (0 : Int32)), .val (.int z8), .val (.ref ob5), .val (.ref ob7), .val (.ref ob9), .val (.ref ob12), .val (.ref ob18), .val (.ref t14), .val (.ref ob12), .unset] [(.int (1 : Int32))])
                  refine own_go (fun _ => XS.goto X327.here hx rfl (pc0 := 216) (pc' := 220) rfl (hb hby at_216) (by decide) (by decide)) ?_
                  show own_G p e below Φ T327 (mkF m 220 #[.val (.int p0), .val (.long q1), .second, .val (.long q2), .second, .val (.int (1 : Int32)), .val (.int (1 : Int32)), .val (.int (0 : Int32)), .val (.int z8), .val (.ref ob5), .val (.ref ob7), .val (.ref ob9), .val (.ref ob12), .val (.ref ob18), .val (.ref t14), .val (.ref ob12), .unset] [(.int (1 : Int32))])
                  refine own_go (fun _ => XS.istore X327.here hx rfl (hb hby at_220) rfl (l' := #[.val (.int p0), .val (.long q1), .second, .val (.long q2), .second, .val (.int (1 : Int32)), .val (.int (1 : Int32)), .val (.int (0 : Int32)), .val (.int z8), .val (.ref ob5), .val (.ref ob7), .val (.ref ob9), .val (.ref ob12), .val (.ref ob18), .val (.ref t14), .val (.ref ob12), .val (.int (1 : Int32))]) rfl) ?_
                  show own_G p e below Φ T327 (mkF m 222 #[.val (.int p0), .val (.long q1), .second, .val (.long q2), .second, .val (.int (1 : Int32)), .val (.int (1 : Int32)), .val (.int (0 : Int32)), .val (.int z8), .val (.ref ob5), .val (.ref ob7), .val (.ref ob9), .val (.ref ob12), .val (.ref ob18), .val (.ref t14), .val (.ref ob12), .val (.int (1 : Int32))] [])
                  refine own_go (fun _ => XS.iload X327.here hx rfl (hb hby at_222) rfl) ?_
                  show own_G p e below Φ T327 (mkF m 224 #[.val (.int p0), .val (.long q1), .second, .val (.long q2), .second, .val (.int (1 : Int32)), .val (.int (1 : Int32)), .val (.int (0 : Int32)), .val (.int z8), .val (.ref ob5), .val (.ref ob7), .val (.ref ob9), .val (.ref ob12), .val (.ref ob18), .val (.ref t14), .val (.ref ob12), .val (.int (1 : Int32))] [(.int (1 : Int32))])
                  refine own_go (fun _ => XS.ifNo X327.here hx rfl (hb hby at_224) rfl (Jvm.Free.XT.i0_eq_f (by decide : ¬ ((1 : Int32) = (0 : Int32))))) ?_
                  show own_G p e below Φ T327 (mkF m 227 #[.val (.int p0), .val (.long q1), .second, .val (.long q2), .second, .val (.int (1 : Int32)), .val (.int (1 : Int32)), .val (.int (0 : Int32)), .val (.int z8), .val (.ref ob5), .val (.ref ob7), .val (.ref ob9), .val (.ref ob12), .val (.ref ob18), .val (.ref t14), .val (.ref ob12), .val (.int (1 : Int32))] [])
                  refine own_go (fun _ => XS.aload X327.here hx rfl (hb hby at_227) rfl rfl) ?_
                  show own_G p e below Φ T327 (mkF m 229 #[.val (.int p0), .val (.long q1), .second, .val (.long q2), .second, .val (.int (1 : Int32)), .val (.int (1 : Int32)), .val (.int (0 : Int32)), .val (.int z8), .val (.ref ob5), .val (.ref ob7), .val (.ref ob9), .val (.ref ob12), .val (.ref ob18), .val (.ref t14), .val (.ref ob12), .val (.int (1 : Int32))] [(.ref ob12)])
                  have f329 : Exa Z T324.heap ob12 "corro/core/Order" := f303.keep Kq324
                  obtain ⟨cq328, kq328, q328a, q328b, q328c⟩ := isOf hZ hs327 f329
                  obtain ⟨_, _, ⟨T328, zL328, zk328, zn328⟩, -, X328, ⟨Lc328, hQ328, l328, y328, z328⟩, st328⟩ := X327.virtualBack hx (y := (⟨"corro/core/Order", "next", "()Lcorro/core/Order;"⟩ : MethodName)) (z := (⟨"corro/core/Order", "next", "()Lcorro/core/Order;"⟩ : MethodName)) hown (mvT hZ (wd_49 hw)) (mvT hZ (wd_50 hw)) (notFace_of_selects (args := #[]) (mvT hZ (wd_52 hw))) (mvT hZ (wd_52 hw)) (mvT hZ (wd_51 hw)) (by decide) (backOf (W := 0) (rmGnext l Z a0 hw [] ob12 (.ref ob9) T324.heap n0 Zp324 p324_6 rfl) hZ (wd_53 hw) (wd_11 hw) (by decide) (by decide)) q328a q328c (g := (mkF m 229 #[.val (.int p0), .val (.long q1), .second, .val (.long q2), .second, .val (.int (1 : Int32)), .val (.int (1 : Int32)), .val (.int (0 : Int32)), .val (.int z8), .val (.ref ob5), .val (.ref ob7), .val (.ref ob9), .val (.ref ob12), .val (.ref ob18), .val (.ref t14), .val (.ref ob12), .val (.int (1 : Int32))] [(.ref ob12)])) rfl (by rw [hml]; rfl) (Steps.refl _) (argsL := []) (rest := []) (lenOf pd_4 rfl) rfl (by show 2 * 0 + _ ≤ _; exact Nat.le_of_eq rfl) (hb hby at_229) (fun _ _ => ⟨rfl, hs327, (by decide : 5 + 0 ≤ _), (by decide : 40 + 0 ≤ _)⟩)
                  dsimp only [Pt.U, Pt.locs, Pt.cells, Pt.slots] at X328 l328 y328 z328 st328 hQ328
                  subst l328 y328 z328
                  obtain ⟨rfl, N328q, hs328⟩ := hQ328
                  have N328 := Fr.app N327 N328q
                  refine own_on st328 ?_
                  show own_G p e below Φ T328 (mkF m 232 #[.val (.int p0), .val (.long q1), .second, .val (.long q2), .second, .val (.int (1 : Int32)), .val (.int (1 : Int32)), .val (.int (0 : Int32)), .val (.int z8), .val (.ref ob5), .val (.ref ob7), .val (.ref ob9), .val (.ref ob12), .val (.ref ob18), .val (.ref t14), .val (.ref ob12), .val (.int (1 : Int32))] [(.ref ob9)])
                  refine own_go (fun _ => XS.iload X328.here hx rfl (hb hby at_232) rfl) ?_
                  show own_G p e below Φ T328 (mkF m 234 #[.val (.int p0), .val (.long q1), .second, .val (.long q2), .second, .val (.int (1 : Int32)), .val (.int (1 : Int32)), .val (.int (0 : Int32)), .val (.int z8), .val (.ref ob5), .val (.ref ob7), .val (.ref ob9), .val (.ref ob12), .val (.ref ob18), .val (.ref t14), .val (.ref ob12), .val (.int (1 : Int32))] [(.int (1 : Int32)), (.ref ob9)])
                  refine own_go (fun _ => XS.ifNo X328.here hx rfl (hb hby at_234) rfl (Jvm.Free.XT.i0_eq_f (by decide : ¬ ((1 : Int32) = (0 : Int32))))) ?_
                  show own_G p e below Φ T328 (mkF m 237 #[.val (.int p0), .val (.long q1), .second, .val (.long q2), .second, .val (.int (1 : Int32)), .val (.int (1 : Int32)), .val (.int (0 : Int32)), .val (.int z8), .val (.ref ob5), .val (.ref ob7), .val (.ref ob9), .val (.ref ob12), .val (.ref ob18), .val (.ref t14), .val (.ref ob12), .val (.int (1 : Int32))] [(.ref ob9)])
                  refine own_go (fun _ => XS.aload X328.here hx rfl (hb hby at_237) rfl rfl) ?_
                  show own_G p e below Φ T328 (mkF m 239 #[.val (.int p0), .val (.long q1), .second, .val (.long q2), .second, .val (.int (1 : Int32)), .val (.int (1 : Int32)), .val (.int (0 : Int32)), .val (.int z8), .val (.ref ob5), .val (.ref ob7), .val (.ref ob9), .val (.ref ob12), .val (.ref ob18), .val (.ref t14), .val (.ref ob12), .val (.int (1 : Int32))] [(.ref ob9), (.ref ob9)])
                  refine own_go (fun _ => XS.goto X328.here hx rfl (pc0 := 239) (pc' := 243) rfl (hb hby at_239) (by decide) (by decide)) ?_
                  show own_G p e below Φ T328 (mkF m 243 #[.val (.int p0), .val (.long q1), .second, .val (.long q2), .second, .val (.int (1 : Int32)), .val (.int (1 : Int32)), .val (.int (0 : Int32)), .val (.int z8), .val (.ref ob5), .val (.ref ob7), .val (.ref ob9), .val (.ref ob12), .val (.ref ob18), .val (.ref t14), .val (.ref ob12), .val (.int (1 : Int32))] [(.ref ob9), (.ref ob9)])
                  refine own_go (fun _ => Jvm.RoadKit.acmp (g := (mkF m 243 #[.val (.int p0), .val (.long q1), .second, .val (.long q2), .second, .val (.int (1 : Int32)), .val (.int (1 : Int32)), .val (.int (0 : Int32)), .val (.int z8), .val (.ref ob5), .val (.ref ob7), .val (.ref ob9), .val (.ref ob12), .val (.ref ob18), .val (.ref t14), .val (.ref ob12), .val (.int (1 : Int32))] [(.ref ob9), (.ref ob9)])) X328 hx rfl rfl rfl (pc0 := 243) (pc' := 246) (same := true) rfl (hb hby at_243) rfl (decide_eq_true rfl) (by decide) (by decide)) ?_
                  show own_G p e below Φ T328 (mkF m 246 #[.val (.int p0), .val (.long q1), .second, .val (.long q2), .second, .val (.int (1 : Int32)), .val (.int (1 : Int32)), .val (.int (0 : Int32)), .val (.int z8), .val (.ref ob5), .val (.ref ob7), .val (.ref ob9), .val (.ref ob12), .val (.ref ob18), .val (.ref t14), .val (.ref ob12), .val (.int (1 : Int32))] [])
                  refine own_go (fun _ => XS.iconst X328.here hx rfl (hb hby at_246)) ?_
                  show own_G p e below Φ T328 (mkF m 247 #[.val (.int p0), .val (.long q1), .second, .val (.long q2), .second, .val (.int (1 : Int32)), .val (.int (1 : Int32)), .val (.int (0 : Int32)), .val (.int z8), .val (.ref ob5), .val (.ref ob7), .val (.ref ob9), .val (.ref ob12), .val (.ref ob18), .val (.ref t14), .val (.ref ob12), .val (.int (1 : Int32))] [(.int (1 : Int32))])
                  refine own_go (fun _ => XS.goto X328.here hx rfl (pc0 := 247) (pc' := 251) rfl (hb hby at_247) (by decide) (by decide)) ?_
                  show own_G p e below Φ T328 (mkF m 251 #[.val (.int p0), .val (.long q1), .second, .val (.long q2), .second, .val (.int (1 : Int32)), .val (.int (1 : Int32)), .val (.int (0 : Int32)), .val (.int z8), .val (.ref ob5), .val (.ref ob7), .val (.ref ob9), .val (.ref ob12), .val (.ref ob18), .val (.ref t14), .val (.ref ob12), .val (.int (1 : Int32))] [(.int (1 : Int32))])
                  refine own_go (fun _ => XS.istore X328.here hx rfl (hb hby at_251) rfl (l' := #[.val (.int p0), .val (.long q1), .second, .val (.long q2), .second, .val (.int (1 : Int32)), .val (.int (1 : Int32)), .val (.int (0 : Int32)), .val (.int z8), .val (.ref ob5), .val (.ref ob7), .val (.ref ob9), .val (.ref ob12), .val (.ref ob18), .val (.ref t14), .val (.ref ob12), .val (.int (1 : Int32))]) rfl) ?_
                  show own_G p e below Φ T328 (mkF m 253 #[.val (.int p0), .val (.long q1), .second, .val (.long q2), .second, .val (.int (1 : Int32)), .val (.int (1 : Int32)), .val (.int (0 : Int32)), .val (.int z8), .val (.ref ob5), .val (.ref ob7), .val (.ref ob9), .val (.ref ob12), .val (.ref ob18), .val (.ref t14), .val (.ref ob12), .val (.int (1 : Int32))] [])
                  refine own_go (fun _ => XS.iload X328.here hx rfl (hb hby at_253) rfl) ?_
                  show own_G p e below Φ T328 (mkF m 255 #[.val (.int p0), .val (.long q1), .second, .val (.long q2), .second, .val (.int (1 : Int32)), .val (.int (1 : Int32)), .val (.int (0 : Int32)), .val (.int z8), .val (.ref ob5), .val (.ref ob7), .val (.ref ob9), .val (.ref ob12), .val (.ref ob18), .val (.ref t14), .val (.ref ob12), .val (.int (1 : Int32))] [(.int (1 : Int32))])
                  refine own_go (fun _ => XS.ifNo X328.here hx rfl (hb hby at_255) rfl (Jvm.Free.XT.i0_eq_f (by decide : ¬ ((1 : Int32) = (0 : Int32))))) ?_
                  show own_G p e below Φ T328 (mkF m 258 #[.val (.int p0), .val (.long q1), .second, .val (.long q2), .second, .val (.int (1 : Int32)), .val (.int (1 : Int32)), .val (.int (0 : Int32)), .val (.int z8), .val (.ref ob5), .val (.ref ob7), .val (.ref ob9), .val (.ref ob12), .val (.ref ob18), .val (.ref t14), .val (.ref ob12), .val (.int (1 : Int32))] [])
                  refine own_go (fun _ => XS.aload X328.here hx rfl (hb hby at_258) rfl rfl) ?_
                  show own_G p e below Φ T328 (mkF m 260 #[.val (.int p0), .val (.long q1), .second, .val (.long q2), .second, .val (.int (1 : Int32)), .val (.int (1 : Int32)), .val (.int (0 : Int32)), .val (.int z8), .val (.ref ob5), .val (.ref ob7), .val (.ref ob9), .val (.ref ob12), .val (.ref ob18), .val (.ref t14), .val (.ref ob12), .val (.int (1 : Int32))] [(.ref ob12)])
                  obtain ⟨cq330, kq330, q330a, q330b, q330c⟩ := isOf hZ hs328 f329
                  obtain ⟨_, _, ⟨T330, zL330, zk330, zn330⟩, -, X330, ⟨Lc330, hQ330, l330, y330, z330⟩, st330⟩ := X328.virtualBack hx (y := (⟨"corro/core/Order", "previous", "()Lcorro/core/Order;"⟩ : MethodName)) (z := (⟨"corro/core/Order", "previous", "()Lcorro/core/Order;"⟩ : MethodName)) hown (mvT hZ (wd_44 hw)) (mvT hZ (wd_45 hw)) (notFace_of_selects (args := #[]) (mvT hZ (wd_47 hw))) (mvT hZ (wd_47 hw)) (mvT hZ (wd_46 hw)) (by decide) (backOf (W := 0) (rmGprevious l Z a0 hw [] ob12 .null T324.heap n0 Zp324 p324_5 rfl) hZ (wd_48 hw) (wd_11 hw) (by decide) (by decide)) q330a q330c (g := (mkF m 260 #[.val (.int p0), .val (.long q1), .second, .val (.long q2), .second, .val (.int (1 : Int32)), .val (.int (1 : Int32)), .val (.int (0 : Int32)), .val (.int z8), .val (.ref ob5), .val (.ref ob7), .val (.ref ob9), .val (.ref ob12), .val (.ref ob18), .val (.ref t14), .val (.ref ob12), .val (.int (1 : Int32))] [(.ref ob12)])) rfl (by rw [hml]; rfl) (Steps.refl _) (argsL := []) (rest := []) (lenOf pd_4 rfl) rfl (by show 2 * 0 + _ ≤ _; exact Nat.le_of_eq rfl) (hb hby at_260) (fun _ _ => ⟨rfl, hs328, (by decide : 5 + 0 ≤ _), (by decide : 40 + 0 ≤ _)⟩)
                  dsimp only [Pt.U, Pt.locs, Pt.cells, Pt.slots] at X330 l330 y330 z330 st330 hQ330
                  subst l330 y330 z330
                  obtain ⟨rfl, N330q, hs330⟩ := hQ330
                  have N330 := Fr.app N328 N330q
                  refine own_on st330 ?_
                  show own_G p e below Φ T330 (mkF m 263 #[.val (.int p0), .val (.long q1), .second, .val (.long q2), .second, .val (.int (1 : Int32)), .val (.int (1 : Int32)), .val (.int (0 : Int32)), .val (.int z8), .val (.ref ob5), .val (.ref ob7), .val (.ref ob9), .val (.ref ob12), .val (.ref ob18), .val (.ref t14), .val (.ref ob12), .val (.int (1 : Int32))] [.null])
                  refine own_go (fun _ => XS.ifnonnullNo X330.here hx rfl (hb hby at_263) rfl) ?_
                  show own_G p e below Φ T330 (mkF m 266 #[.val (.int p0), .val (.long q1), .second, .val (.long q2), .second, .val (.int (1 : Int32)), .val (.int (1 : Int32)), .val (.int (0 : Int32)), .val (.int z8), .val (.ref ob5), .val (.ref ob7), .val (.ref ob9), .val (.ref ob12), .val (.ref ob18), .val (.ref t14), .val (.ref ob12), .val (.int (1 : Int32))] [])
                  refine own_go (fun _ => XS.aload X330.here hx rfl (hb hby at_266) rfl rfl) ?_
                  show own_G p e below Φ T330 (mkF m 268 #[.val (.int p0), .val (.long q1), .second, .val (.long q2), .second, .val (.int (1 : Int32)), .val (.int (1 : Int32)), .val (.int (0 : Int32)), .val (.int z8), .val (.ref ob5), .val (.ref ob7), .val (.ref ob9), .val (.ref ob12), .val (.ref ob18), .val (.ref t14), .val (.ref ob12), .val (.int (1 : Int32))] [(.ref ob12)])
                  obtain ⟨cq331, kq331, q331a, q331b, q331c⟩ := isOf hZ hs330 f329
                  obtain ⟨_, _, ⟨T331, zL331, zk331, zn331⟩, -, X331, ⟨Lc331, hQ331, l331, y331, z331⟩, st331⟩ := X330.virtualBack hx (y := (⟨"corro/core/Order", "level", "()Lcorro/core/Level;"⟩ : MethodName)) (z := (⟨"corro/core/Order", "level", "()Lcorro/core/Level;"⟩ : MethodName)) hown (mvT hZ (wd_39 hw)) (mvT hZ (wd_40 hw)) (notFace_of_selects (args := #[]) (mvT hZ (wd_42 hw))) (mvT hZ (wd_42 hw)) (mvT hZ (wd_41 hw)) (by decide) (backOf (W := 0) (rmGlevel l Z a0 hw [] ob12 .null T324.heap n0 Zp324 p324_4 rfl) hZ (wd_43 hw) (wd_11 hw) (by decide) (by decide)) q331a q331c (g := (mkF m 268 #[.val (.int p0), .val (.long q1), .second, .val (.long q2), .second, .val (.int (1 : Int32)), .val (.int (1 : Int32)), .val (.int (0 : Int32)), .val (.int z8), .val (.ref ob5), .val (.ref ob7), .val (.ref ob9), .val (.ref ob12), .val (.ref ob18), .val (.ref t14), .val (.ref ob12), .val (.int (1 : Int32))] [(.ref ob12)])) rfl (by rw [hml]; rfl) (Steps.refl _) (argsL := []) (rest := []) (lenOf pd_3 rfl) rfl (by show 2 * 0 + _ ≤ _; exact Nat.le_of_eq rfl) (hb hby at_268) (fun _ _ => ⟨rfl, hs330, (by decide : 5 + 0 ≤ _), (by decide : 40 + 0 ≤ _)⟩)
                  dsimp only [Pt.U, Pt.locs, Pt.cells, Pt.slots] at X331 l331 y331 z331 st331 hQ331
                  subst l331 y331 z331
                  obtain ⟨rfl, N331q, hs331⟩ := hQ331
                  have N331 := Fr.app N330 N331q
                  refine own_on st331 ?_
                  show own_G p e below Φ T331 (mkF m 271 #[.val (.int p0), .val (.long q1), .second, .val (.long q2), .second, .val (.int (1 : Int32)), .val (.int (1 : Int32)), .val (.int (0 : Int32)), .val (.int z8), .val (.ref ob5), .val (.ref ob7), .val (.ref ob9), .val (.ref ob12), .val (.ref ob18), .val (.ref t14), .val (.ref ob12), .val (.int (1 : Int32))] [.null])
                  refine own_go (fun _ => XS.iload X331.here hx rfl (hb hby at_271) rfl) ?_
                  show own_G p e below Φ T331 (mkF m 273 #[.val (.int p0), .val (.long q1), .second, .val (.long q2), .second, .val (.int (1 : Int32)), .val (.int (1 : Int32)), .val (.int (0 : Int32)), .val (.int z8), .val (.ref ob5), .val (.ref ob7), .val (.ref ob9), .val (.ref ob12), .val (.ref ob18), .val (.ref t14), .val (.ref ob12), .val (.int (1 : Int32))] [(.int (0 : Int32)), .null])
                  refine own_go (fun _ => XS.ifYes X331.here hx rfl (pc0 := 273) (pc' := 281) rfl (hb hby at_273) rfl (Jvm.Free.XT.i0_eq_t (by decide : ((0 : Int32) = (0 : Int32)))) (by decide) (by decide)) ?_
                  show own_G p e below Φ T331 (mkF m 281 #[.val (.int p0), .val (.long q1), .second, .val (.long q2), .second, .val (.int (1 : Int32)), .val (.int (1 : Int32)), .val (.int (0 : Int32)), .val (.int z8), .val (.ref ob5), .val (.ref ob7), .val (.ref ob9), .val (.ref ob12), .val (.ref ob18), .val (.ref t14), .val (.ref ob12), .val (.int (1 : Int32))] [.null])
                  refine own_go (fun _ => XS.aconstNull X331.here hx rfl (hb hby at_281)) ?_
                  show own_G p e below Φ T331 (mkF m 282 #[.val (.int p0), .val (.long q1), .second, .val (.long q2), .second, .val (.int (1 : Int32)), .val (.int (1 : Int32)), .val (.int (0 : Int32)), .val (.int z8), .val (.ref ob5), .val (.ref ob7), .val (.ref ob9), .val (.ref ob12), .val (.ref ob18), .val (.ref t14), .val (.ref ob12), .val (.int (1 : Int32))] [.null, .null])
                  refine own_go (fun _ => Jvm.RoadKit.acmp (g := (mkF m 282 #[.val (.int p0), .val (.long q1), .second, .val (.long q2), .second, .val (.int (1 : Int32)), .val (.int (1 : Int32)), .val (.int (0 : Int32)), .val (.int z8), .val (.ref ob5), .val (.ref ob7), .val (.ref ob9), .val (.ref ob12), .val (.ref ob18), .val (.ref t14), .val (.ref ob12), .val (.int (1 : Int32))] [.null, .null])) X331 hx rfl rfl rfl (pc0 := 282) (pc' := 285) (same := true) rfl (hb hby at_282) rfl (decide_eq_true rfl) (by decide) (by decide)) ?_
                  show own_G p e below Φ T331 (mkF m 285 #[.val (.int p0), .val (.long q1), .second, .val (.long q2), .second, .val (.int (1 : Int32)), .val (.int (1 : Int32)), .val (.int (0 : Int32)), .val (.int z8), .val (.ref ob5), .val (.ref ob7), .val (.ref ob9), .val (.ref ob12), .val (.ref ob18), .val (.ref t14), .val (.ref ob12), .val (.int (1 : Int32))] [])
                  refine own_go (fun _ => XS.iconst X331.here hx rfl (hb hby at_285)) ?_
                  show own_G p e below Φ T331 (mkF m 286 #[.val (.int p0), .val (.long q1), .second, .val (.long q2), .second, .val (.int (1 : Int32)), .val (.int (1 : Int32)), .val (.int (0 : Int32)), .val (.int z8), .val (.ref ob5), .val (.ref ob7), .val (.ref ob9), .val (.ref ob12), .val (.ref ob18), .val (.ref t14), .val (.ref ob12), .val (.int (1 : Int32))] [(.int (1 : Int32))])
                  refine own_go (fun _ => XS.goto X331.here hx rfl (pc0 := 286) (pc' := 290) rfl (hb hby at_286) (by decide) (by decide)) ?_
                  show own_G p e below Φ T331 (mkF m 290 #[.val (.int p0), .val (.long q1), .second, .val (.long q2), .second, .val (.int (1 : Int32)), .val (.int (1 : Int32)), .val (.int (0 : Int32)), .val (.int z8), .val (.ref ob5), .val (.ref ob7), .val (.ref ob9), .val (.ref ob12), .val (.ref ob18), .val (.ref t14), .val (.ref ob12), .val (.int (1 : Int32))] [(.int (1 : Int32))])
                  refine own_go (fun _ => XS.istore X331.here hx rfl (hb hby at_290) rfl (l' := #[.val (.int p0), .val (.long q1), .second, .val (.long q2), .second, .val (.int (1 : Int32)), .val (.int (1 : Int32)), .val (.int (0 : Int32)), .val (.int z8), .val (.ref ob5), .val (.ref ob7), .val (.ref ob9), .val (.ref ob12), .val (.ref ob18), .val (.ref t14), .val (.ref ob12), .val (.int (1 : Int32))]) rfl) ?_
                  show own_G p e below Φ T331 (mkF m 292 #[.val (.int p0), .val (.long q1), .second, .val (.long q2), .second, .val (.int (1 : Int32)), .val (.int (1 : Int32)), .val (.int (0 : Int32)), .val (.int z8), .val (.ref ob5), .val (.ref ob7), .val (.ref ob9), .val (.ref ob12), .val (.ref ob18), .val (.ref t14), .val (.ref ob12), .val (.int (1 : Int32))] [])
                  refine own_go (fun _ => XS.iload X331.here hx rfl (hb hby at_292) rfl) ?_
                  show own_G p e below Φ T331 (mkF m 294 #[.val (.int p0), .val (.long q1), .second, .val (.long q2), .second, .val (.int (1 : Int32)), .val (.int (1 : Int32)), .val (.int (0 : Int32)), .val (.int z8), .val (.ref ob5), .val (.ref ob7), .val (.ref ob9), .val (.ref ob12), .val (.ref ob18), .val (.ref t14), .val (.ref ob12), .val (.int (1 : Int32))] [(.int (1 : Int32))])
                  refine own_go (fun _ => XS.ifNo X331.here hx rfl (hb hby at_294) rfl (Jvm.Free.XT.i0_eq_f (by decide : ¬ ((1 : Int32) = (0 : Int32))))) ?_
                  show own_G p e below Φ T331 (mkF m 297 #[.val (.int p0), .val (.long q1), .second, .val (.long q2), .second, .val (.int (1 : Int32)), .val (.int (1 : Int32)), .val (.int (0 : Int32)), .val (.int z8), .val (.ref ob5), .val (.ref ob7), .val (.ref ob9), .val (.ref ob12), .val (.ref ob18), .val (.ref t14), .val (.ref ob12), .val (.int (1 : Int32))] [])
                  refine own_go (fun _ => XS.aload X331.here hx rfl (hb hby at_297) rfl rfl) ?_
                  show own_G p e below Φ T331 (mkF m 299 #[.val (.int p0), .val (.long q1), .second, .val (.long q2), .second, .val (.int (1 : Int32)), .val (.int (1 : Int32)), .val (.int (0 : Int32)), .val (.int z8), .val (.ref ob5), .val (.ref ob7), .val (.ref ob9), .val (.ref ob12), .val (.ref ob18), .val (.ref t14), .val (.ref ob12), .val (.int (1 : Int32))] [(.ref ob18)])
                  have f332 : Fld Z T324.heap ob18 "corro/core/Order" "previous" "Lcorro/core/Order;" (.ref ob9) := p262_2.keep Kq324 (ninS (Ne.symm ne_ob9_ob18) (ninS (Ne.symm ne_ob12_ob18) nin0))
                  have f334 : Exa Z T324.heap ob18 "corro/core/Order" := p262_0.keep Kq324
                  obtain ⟨cq333, kq333, q333a, q333b, q333c⟩ := isOf hZ hs331 f334
                  obtain ⟨_, _, ⟨T333, zL333, zk333, zn333⟩, -, X333, ⟨Lc333, hQ333, l333, y333, z333⟩, st333⟩ := X331.virtualBack hx (y := (⟨"corro/core/Order", "previous", "()Lcorro/core/Order;"⟩ : MethodName)) (z := (⟨"corro/core/Order", "previous", "()Lcorro/core/Order;"⟩ : MethodName)) hown (mvT hZ (wd_44 hw)) (mvT hZ (wd_45 hw)) (notFace_of_selects (args := #[]) (mvT hZ (wd_47 hw))) (mvT hZ (wd_47 hw)) (mvT hZ (wd_46 hw)) (by decide) (backOf (W := 0) (rmGprevious l Z a0 hw [] ob18 (.ref ob9) T324.heap n0 Zp324 f332 rfl) hZ (wd_48 hw) (wd_11 hw) (by decide) (by decide)) q333a q333c (g := (mkF m 299 #[.val (.int p0), .val (.long q1), .second, .val (.long q2), .second, .val (.int (1 : Int32)), .val (.int (1 : Int32)), .val (.int (0 : Int32)), .val (.int z8), .val (.ref ob5), .val (.ref ob7), .val (.ref ob9), .val (.ref ob12), .val (.ref ob18), .val (.ref t14), .val (.ref ob12), .val (.int (1 : Int32))] [(.ref ob18)])) rfl (by rw [hml]; rfl) (Steps.refl _) (argsL := []) (rest := []) (lenOf pd_4 rfl) rfl (by show 2 * 0 + _ ≤ _; exact Nat.le_of_eq rfl) (hb hby at_299) (fun _ _ => ⟨rfl, hs331, (by decide : 5 + 0 ≤ _), (by decide : 40 + 0 ≤ _)⟩)
                  dsimp only [Pt.U, Pt.locs, Pt.cells, Pt.slots] at X333 l333 y333 z333 st333 hQ333
                  subst l333 y333 z333
                  obtain ⟨rfl, N333q, hs333⟩ := hQ333
                  have N333 := Fr.app N331 N333q
                  refine own_on st333 ?_
                  show own_G p e below Φ T333 (mkF m 302 #[.val (.int p0), .val (.long q1), .second, .val (.long q2), .second, .val (.int (1 : Int32)), .val (.int (1 : Int32)), .val (.int (0 : Int32)), .val (.int z8), .val (.ref ob5), .val (.ref ob7), .val (.ref ob9), .val (.ref ob12), .val (.ref ob18), .val (.ref t14), .val (.ref ob12), .val (.int (1 : Int32))] [(.ref ob9)])
                  refine own_go (fun _ => XS.iload X333.here hx rfl (hb hby at_302) rfl) ?_
                  show own_G p e below Φ T333 (mkF m 304 #[.val (.int p0), .val (.long q1), .second, .val (.long q2), .second, .val (.int (1 : Int32)), .val (.int (1 : Int32)), .val (.int (0 : Int32)), .val (.int z8), .val (.ref ob5), .val (.ref ob7), .val (.ref ob9), .val (.ref ob12), .val (.ref ob18), .val (.ref t14), .val (.ref ob12), .val (.int (1 : Int32))] [(.int (1 : Int32)), (.ref ob9)])
                  refine own_go (fun _ => XS.ifNo X333.here hx rfl (hb hby at_304) rfl (Jvm.Free.XT.i0_eq_f (by decide : ¬ ((1 : Int32) = (0 : Int32))))) ?_
                  show own_G p e below Φ T333 (mkF m 307 #[.val (.int p0), .val (.long q1), .second, .val (.long q2), .second, .val (.int (1 : Int32)), .val (.int (1 : Int32)), .val (.int (0 : Int32)), .val (.int z8), .val (.ref ob5), .val (.ref ob7), .val (.ref ob9), .val (.ref ob12), .val (.ref ob18), .val (.ref t14), .val (.ref ob12), .val (.int (1 : Int32))] [(.ref ob9)])
                  refine own_go (fun _ => XS.aload X333.here hx rfl (hb hby at_307) rfl rfl) ?_
                  show own_G p e below Φ T333 (mkF m 309 #[.val (.int p0), .val (.long q1), .second, .val (.long q2), .second, .val (.int (1 : Int32)), .val (.int (1 : Int32)), .val (.int (0 : Int32)), .val (.int z8), .val (.ref ob5), .val (.ref ob7), .val (.ref ob9), .val (.ref ob12), .val (.ref ob18), .val (.ref t14), .val (.ref ob12), .val (.int (1 : Int32))] [(.ref ob9), (.ref ob9)])
                  refine own_go (fun _ => XS.goto X333.here hx rfl (pc0 := 309) (pc' := 313) rfl (hb hby at_309) (by decide) (by decide)) ?_
                  show own_G p e below Φ T333 (mkF m 313 #[.val (.int p0), .val (.long q1), .second, .val (.long q2), .second, .val (.int (1 : Int32)), .val (.int (1 : Int32)), .val (.int (0 : Int32)), .val (.int z8), .val (.ref ob5), .val (.ref ob7), .val (.ref ob9), .val (.ref ob12), .val (.ref ob18), .val (.ref t14), .val (.ref ob12), .val (.int (1 : Int32))] [(.ref ob9), (.ref ob9)])
                  refine own_go (fun _ => Jvm.RoadKit.acmp (g := (mkF m 313 #[.val (.int p0), .val (.long q1), .second, .val (.long q2), .second, .val (.int (1 : Int32)), .val (.int (1 : Int32)), .val (.int (0 : Int32)), .val (.int z8), .val (.ref ob5), .val (.ref ob7), .val (.ref ob9), .val (.ref ob12), .val (.ref ob18), .val (.ref t14), .val (.ref ob12), .val (.int (1 : Int32))] [(.ref ob9), (.ref ob9)])) X333 hx rfl rfl rfl (pc0 := 313) (pc' := 316) (same := true) rfl (hb hby at_313) rfl (decide_eq_true rfl) (by decide) (by decide)) ?_
                  show own_G p e below Φ T333 (mkF m 316 #[.val (.int p0), .val (.long q1), .second, .val (.long q2), .second, .val (.int (1 : Int32)), .val (.int (1 : Int32)), .val (.int (0 : Int32)), .val (.int z8), .val (.ref ob5), .val (.ref ob7), .val (.ref ob9), .val (.ref ob12), .val (.ref ob18), .val (.ref t14), .val (.ref ob12), .val (.int (1 : Int32))] [])
                  refine own_go (fun _ => XS.aload X333.here hx rfl (hb hby at_316) rfl rfl) ?_
                  show own_G p e below Φ T333 (mkF m 318 #[.val (.int p0), .val (.long q1), .second, .val (.long q2), .second, .val (.int (1 : Int32)), .val (.int (1 : Int32)), .val (.int (0 : Int32)), .val (.int z8), .val (.ref ob5), .val (.ref ob7), .val (.ref ob9), .val (.ref ob12), .val (.ref ob18), .val (.ref t14), .val (.ref ob12), .val (.int (1 : Int32))] [(.ref ob18)])
                  have f335 : Fld Z T324.heap ob18 "corro/core/Order" "next" "Lcorro/core/Order;" .null := p262_3.keep Kq324 (ninS (Ne.symm ne_ob9_ob18) (ninS (Ne.symm ne_ob12_ob18) nin0))
                  obtain ⟨cq336, kq336, q336a, q336b, q336c⟩ := isOf hZ hs333 f334
                  obtain ⟨_, _, ⟨T336, zL336, zk336, zn336⟩, -, X336, ⟨Lc336, hQ336, l336, y336, z336⟩, st336⟩ := X333.virtualBack hx (y := (⟨"corro/core/Order", "next", "()Lcorro/core/Order;"⟩ : MethodName)) (z := (⟨"corro/core/Order", "next", "()Lcorro/core/Order;"⟩ : MethodName)) hown (mvT hZ (wd_49 hw)) (mvT hZ (wd_50 hw)) (notFace_of_selects (args := #[]) (mvT hZ (wd_52 hw))) (mvT hZ (wd_52 hw)) (mvT hZ (wd_51 hw)) (by decide) (backOf (W := 0) (rmGnext l Z a0 hw [] ob18 .null T324.heap n0 Zp324 f335 rfl) hZ (wd_53 hw) (wd_11 hw) (by decide) (by decide)) q336a q336c (g := (mkF m 318 #[.val (.int p0), .val (.long q1), .second, .val (.long q2), .second, .val (.int (1 : Int32)), .val (.int (1 : Int32)), .val (.int (0 : Int32)), .val (.int z8), .val (.ref ob5), .val (.ref ob7), .val (.ref ob9), .val (.ref ob12), .val (.ref ob18), .val (.ref t14), .val (.ref ob12), .val (.int (1 : Int32))] [(.ref ob18)])) rfl (by rw [hml]; rfl) (Steps.refl _) (argsL := []) (rest := []) (lenOf pd_4 rfl) rfl (by show 2 * 0 + _ ≤ _; exact Nat.le_of_eq rfl) (hb hby at_318) (fun _ _ => ⟨rfl, hs333, (by decide : 5 + 0 ≤ _), (by decide : 40 + 0 ≤ _)⟩)
                  dsimp only [Pt.U, Pt.locs, Pt.cells, Pt.slots] at X336 l336 y336 z336 st336 hQ336
                  subst l336 y336 z336
                  obtain ⟨rfl, N336q, hs336⟩ := hQ336
                  have N336 := Fr.app N333 N336q
                  refine own_on st336 ?_
                  show own_G p e below Φ T336 (mkF m 321 #[.val (.int p0), .val (.long q1), .second, .val (.long q2), .second, .val (.int (1 : Int32)), .val (.int (1 : Int32)), .val (.int (0 : Int32)), .val (.int z8), .val (.ref ob5), .val (.ref ob7), .val (.ref ob9), .val (.ref ob12), .val (.ref ob18), .val (.ref t14), .val (.ref ob12), .val (.int (1 : Int32))] [.null])
                  refine own_go (fun _ => XS.ifnonnullNo X336.here hx rfl (hb hby at_321) rfl) ?_
                  show own_G p e below Φ T336 (mkF m 324 #[.val (.int p0), .val (.long q1), .second, .val (.long q2), .second, .val (.int (1 : Int32)), .val (.int (1 : Int32)), .val (.int (0 : Int32)), .val (.int z8), .val (.ref ob5), .val (.ref ob7), .val (.ref ob9), .val (.ref ob12), .val (.ref ob18), .val (.ref t14), .val (.ref ob12), .val (.int (1 : Int32))] [])
                  refine own_go (fun _ => XS.iconst X336.here hx rfl (hb hby at_324)) ?_
                  show own_G p e below Φ T336 (mkF m 325 #[.val (.int p0), .val (.long q1), .second, .val (.long q2), .second, .val (.int (1 : Int32)), .val (.int (1 : Int32)), .val (.int (0 : Int32)), .val (.int z8), .val (.ref ob5), .val (.ref ob7), .val (.ref ob9), .val (.ref ob12), .val (.ref ob18), .val (.ref t14), .val (.ref ob12), .val (.int (1 : Int32))] [(.int (1 : Int32))])
                  refine own_go (fun _ => XS.goto X336.here hx rfl (pc0 := 325) (pc' := 329) rfl (hb hby at_325) (by decide) (by decide)) ?_
                  show own_G p e below Φ T336 (mkF m 329 #[.val (.int p0), .val (.long q1), .second, .val (.long q2), .second, .val (.int (1 : Int32)), .val (.int (1 : Int32)), .val (.int (0 : Int32)), .val (.int z8), .val (.ref ob5), .val (.ref ob7), .val (.ref ob9), .val (.ref ob12), .val (.ref ob18), .val (.ref t14), .val (.ref ob12), .val (.int (1 : Int32))] [(.int (1 : Int32))])
                  refine own_go (fun _ => XS.istore X336.here hx rfl (hb hby at_329) rfl (l' := #[.val (.int p0), .val (.long q1), .second, .val (.long q2), .second, .val (.int (1 : Int32)), .val (.int (1 : Int32)), .val (.int (0 : Int32)), .val (.int z8), .val (.ref ob5), .val (.ref ob7), .val (.ref ob9), .val (.ref ob12), .val (.ref ob18), .val (.ref t14), .val (.ref ob12), .val (.int (1 : Int32))]) rfl) ?_
                  show own_G p e below Φ T336 (mkF m 331 #[.val (.int p0), .val (.long q1), .second, .val (.long q2), .second, .val (.int (1 : Int32)), .val (.int (1 : Int32)), .val (.int (0 : Int32)), .val (.int z8), .val (.ref ob5), .val (.ref ob7), .val (.ref ob9), .val (.ref ob12), .val (.ref ob18), .val (.ref t14), .val (.ref ob12), .val (.int (1 : Int32))] [])
                  refine own_go (fun _ => XS.iload X336.here hx rfl (hb hby at_331) rfl) ?_
                  show own_G p e below Φ T336 (mkF m 333 #[.val (.int p0), .val (.long q1), .second, .val (.long q2), .second, .val (.int (1 : Int32)), .val (.int (1 : Int32)), .val (.int (0 : Int32)), .val (.int z8), .val (.ref ob5), .val (.ref ob7), .val (.ref ob9), .val (.ref ob12), .val (.ref ob18), .val (.ref t14), .val (.ref ob12), .val (.int (1 : Int32))] [(.int (1 : Int32))])
                  refine own_go (fun _ => XS.ifNo X336.here hx rfl (hb hby at_333) rfl (Jvm.Free.XT.i0_eq_f (by decide : ¬ ((1 : Int32) = (0 : Int32))))) ?_
                  show own_G p e below Φ T336 (mkF m 336 #[.val (.int p0), .val (.long q1), .second, .val (.long q2), .second, .val (.int (1 : Int32)), .val (.int (1 : Int32)), .val (.int (0 : Int32)), .val (.int z8), .val (.ref ob5), .val (.ref ob7), .val (.ref ob9), .val (.ref ob12), .val (.ref ob18), .val (.ref t14), .val (.ref ob12), .val (.int (1 : Int32))] [])
                  refine own_go (fun _ => XS.aload X336.here hx rfl (hb hby at_336) rfl rfl) ?_
                  show own_G p e below Φ T336 (mkF m 338 #[.val (.int p0), .val (.long q1), .second, .val (.long q2), .second, .val (.int (1 : Int32)), .val (.int (1 : Int32)), .val (.int (0 : Int32)), .val (.int z8), .val (.ref ob5), .val (.ref ob7), .val (.ref ob9), .val (.ref ob12), .val (.ref ob18), .val (.ref t14), .val (.ref ob12), .val (.int (1 : Int32))] [(.ref ob9)])
                  obtain ⟨cq337, kq337, q337a, q337b, q337c⟩ := isOf hZ hs336 p324_0
                  obtain ⟨_, _, ⟨T337, zL337, zk337, zn337⟩, -, X337, ⟨Lc337, hQ337, l337, y337, z337⟩, st337⟩ := X336.virtualBack hx (y := (⟨"corro/core/Order", "quantity", "()J"⟩ : MethodName)) (z := (⟨"corro/core/Order", "quantity", "()J"⟩ : MethodName)) hown (mvT hZ (wd_54 hw)) (mvT hZ (wd_55 hw)) (notFace_of_selects (args := #[]) (mvT hZ (wd_57 hw))) (mvT hZ (wd_57 hw)) (mvT hZ (wd_56 hw)) (by decide) (backOf (W := 0) (rmGquantity l Z a0 hw [] ob9 q1 T324.heap n0 Zp324 p324_7) hZ (wd_58 hw) (wd_11 hw) (by decide) (by decide)) q337a q337c (g := (mkF m 338 #[.val (.int p0), .val (.long q1), .second, .val (.long q2), .second, .val (.int (1 : Int32)), .val (.int (1 : Int32)), .val (.int (0 : Int32)), .val (.int z8), .val (.ref ob5), .val (.ref ob7), .val (.ref ob9), .val (.ref ob12), .val (.ref ob18), .val (.ref t14), .val (.ref ob12), .val (.int (1 : Int32))] [(.ref ob9)])) rfl (by rw [hml]; rfl) (Steps.refl _) (argsL := []) (rest := []) (lenOf pd_5 rfl) rfl (by show 2 * 0 + _ ≤ _; exact Nat.le_of_eq rfl) (hb hby at_338) (fun _ _ => ⟨rfl, hs336, (by decide : 5 + 0 ≤ _), (by decide : 40 + 0 ≤ _)⟩)
                  dsimp only [Pt.U, Pt.locs, Pt.cells, Pt.slots] at X337 l337 y337 z337 st337 hQ337
                  subst l337 y337 z337
                  obtain ⟨rfl, N337q, hs337⟩ := hQ337
                  have N337 := Fr.app N336 N337q
                  refine own_on st337 ?_
                  show own_G p e below Φ T337 (mkF m 341 #[.val (.int p0), .val (.long q1), .second, .val (.long q2), .second, .val (.int (1 : Int32)), .val (.int (1 : Int32)), .val (.int (0 : Int32)), .val (.int z8), .val (.ref ob5), .val (.ref ob7), .val (.ref ob9), .val (.ref ob12), .val (.ref ob18), .val (.ref t14), .val (.ref ob12), .val (.int (1 : Int32))] [(.long q1)])
                  refine own_go (fun _ => XS.lloadN X337.here hx rfl (hb hby at_341) rfl) ?_
                  show own_G p e below Φ T337 (mkF m 342 #[.val (.int p0), .val (.long q1), .second, .val (.long q2), .second, .val (.int (1 : Int32)), .val (.int (1 : Int32)), .val (.int (0 : Int32)), .val (.int z8), .val (.ref ob5), .val (.ref ob7), .val (.ref ob9), .val (.ref ob12), .val (.ref ob18), .val (.ref t14), .val (.ref ob12), .val (.int (1 : Int32))] [(.long q1), (.long q1)])
                  refine own_go (fun _ => XS.lcmp X337.here hx rfl (hb hby at_342) rfl) ?_
                  show own_G p e below Φ T337 (mkF m 343 #[.val (.int p0), .val (.long q1), .second, .val (.long q2), .second, .val (.int (1 : Int32)), .val (.int (1 : Int32)), .val (.int (0 : Int32)), .val (.int z8), .val (.ref ob5), .val (.ref ob7), .val (.ref ob9), .val (.ref ob12), .val (.ref ob18), .val (.ref t14), .val (.ref ob12), .val (.int (1 : Int32))] [(.int (lcmpW q1 q1))])
                  refine own_go (fun _ => XS.ifNo X337.here hx rfl (hb hby at_343) rfl (Jvm.Free.XT.ll_ne_f (rfl : q1 = q1))) ?_
                  show own_G p e below Φ T337 (mkF m 346 #[.val (.int p0), .val (.long q1), .second, .val (.long q2), .second, .val (.int (1 : Int32)), .val (.int (1 : Int32)), .val (.int (0 : Int32)), .val (.int z8), .val (.ref ob5), .val (.ref ob7), .val (.ref ob9), .val (.ref ob12), .val (.ref ob18), .val (.ref t14), .val (.ref ob12), .val (.int (1 : Int32))] [])
                  refine own_go (fun _ => XS.aload X337.here hx rfl (hb hby at_346) rfl rfl) ?_
                  show own_G p e below Φ T337 (mkF m 348 #[.val (.int p0), .val (.long q1), .second, .val (.long q2), .second, .val (.int (1 : Int32)), .val (.int (1 : Int32)), .val (.int (0 : Int32)), .val (.int z8), .val (.ref ob5), .val (.ref ob7), .val (.ref ob9), .val (.ref ob12), .val (.ref ob18), .val (.ref t14), .val (.ref ob12), .val (.int (1 : Int32))] [(.ref ob9)])
                  obtain ⟨cq338, kq338, q338a, q338b, q338c⟩ := isOf hZ hs337 p324_0
                  obtain ⟨_, _, ⟨T338, zL338, zk338, zn338⟩, -, X338, ⟨Lc338, hQ338, l338, y338, z338⟩, st338⟩ := X337.virtualBack hx (y := (⟨"corro/core/Order", "price", "()J"⟩ : MethodName)) (z := (⟨"corro/core/Order", "price", "()J"⟩ : MethodName)) hown (mvT hZ (wd_59 hw)) (mvT hZ (wd_60 hw)) (notFace_of_selects (args := #[]) (mvT hZ (wd_62 hw))) (mvT hZ (wd_62 hw)) (mvT hZ (wd_61 hw)) (by decide) (backOf (W := 0) (rmGprice l Z a0 hw [] ob9 q2 T324.heap n0 Zp324 p324_8) hZ (wd_63 hw) (wd_11 hw) (by decide) (by decide)) q338a q338c (g := (mkF m 348 #[.val (.int p0), .val (.long q1), .second, .val (.long q2), .second, .val (.int (1 : Int32)), .val (.int (1 : Int32)), .val (.int (0 : Int32)), .val (.int z8), .val (.ref ob5), .val (.ref ob7), .val (.ref ob9), .val (.ref ob12), .val (.ref ob18), .val (.ref t14), .val (.ref ob12), .val (.int (1 : Int32))] [(.ref ob9)])) rfl (by rw [hml]; rfl) (Steps.refl _) (argsL := []) (rest := []) (lenOf pd_5 rfl) rfl (by show 2 * 0 + _ ≤ _; exact Nat.le_of_eq rfl) (hb hby at_348) (fun _ _ => ⟨rfl, hs337, (by decide : 5 + 0 ≤ _), (by decide : 40 + 0 ≤ _)⟩)
                  dsimp only [Pt.U, Pt.locs, Pt.cells, Pt.slots] at X338 l338 y338 z338 st338 hQ338
                  subst l338 y338 z338
                  obtain ⟨rfl, N338q, hs338⟩ := hQ338
                  have N338 := Fr.app N337 N338q
                  refine own_on st338 ?_
                  show own_G p e below Φ T338 (mkF m 351 #[.val (.int p0), .val (.long q1), .second, .val (.long q2), .second, .val (.int (1 : Int32)), .val (.int (1 : Int32)), .val (.int (0 : Int32)), .val (.int z8), .val (.ref ob5), .val (.ref ob7), .val (.ref ob9), .val (.ref ob12), .val (.ref ob18), .val (.ref t14), .val (.ref ob12), .val (.int (1 : Int32))] [(.long q2)])
                  refine own_go (fun _ => XS.lloadN X338.here hx rfl (hb hby at_351) rfl) ?_
                  show own_G p e below Φ T338 (mkF m 352 #[.val (.int p0), .val (.long q1), .second, .val (.long q2), .second, .val (.int (1 : Int32)), .val (.int (1 : Int32)), .val (.int (0 : Int32)), .val (.int z8), .val (.ref ob5), .val (.ref ob7), .val (.ref ob9), .val (.ref ob12), .val (.ref ob18), .val (.ref t14), .val (.ref ob12), .val (.int (1 : Int32))] [(.long q2), (.long q2)])
                  refine own_go (fun _ => XS.lcmp X338.here hx rfl (hb hby at_352) rfl) ?_
                  show own_G p e below Φ T338 (mkF m 353 #[.val (.int p0), .val (.long q1), .second, .val (.long q2), .second, .val (.int (1 : Int32)), .val (.int (1 : Int32)), .val (.int (0 : Int32)), .val (.int z8), .val (.ref ob5), .val (.ref ob7), .val (.ref ob9), .val (.ref ob12), .val (.ref ob18), .val (.ref t14), .val (.ref ob12), .val (.int (1 : Int32))] [(.int (lcmpW q2 q2))])
                  refine own_go (fun _ => XS.ifNo X338.here hx rfl (hb hby at_353) rfl (Jvm.Free.XT.ll_ne_f (rfl : q2 = q2))) ?_
                  show own_G p e below Φ T338 (mkF m 356 #[.val (.int p0), .val (.long q1), .second, .val (.long q2), .second, .val (.int (1 : Int32)), .val (.int (1 : Int32)), .val (.int (0 : Int32)), .val (.int z8), .val (.ref ob5), .val (.ref ob7), .val (.ref ob9), .val (.ref ob12), .val (.ref ob18), .val (.ref t14), .val (.ref ob12), .val (.int (1 : Int32))] [])
                  refine own_go (fun _ => XS.iconst X338.here hx rfl (hb hby at_356)) ?_
                  show own_G p e below Φ T338 (mkF m 357 #[.val (.int p0), .val (.long q1), .second, .val (.long q2), .second, .val (.int (1 : Int32)), .val (.int (1 : Int32)), .val (.int (0 : Int32)), .val (.int z8), .val (.ref ob5), .val (.ref ob7), .val (.ref ob9), .val (.ref ob12), .val (.ref ob18), .val (.ref t14), .val (.ref ob12), .val (.int (1 : Int32))] [(.int (1 : Int32))])
                  refine own_go (fun _ => XS.goto X338.here hx rfl (pc0 := 357) (pc' := 361) rfl (hb hby at_357) (by decide) (by decide)) ?_
                  show own_G p e below Φ T338 (mkF m 361 #[.val (.int p0), .val (.long q1), .second, .val (.long q2), .second, .val (.int (1 : Int32)), .val (.int (1 : Int32)), .val (.int (0 : Int32)), .val (.int z8), .val (.ref ob5), .val (.ref ob7), .val (.ref ob9), .val (.ref ob12), .val (.ref ob18), .val (.ref t14), .val (.ref ob12), .val (.int (1 : Int32))] [(.int (1 : Int32))])
                  refine own_go (fun _ => XS.istore X338.here hx rfl (hb hby at_361) rfl (l' := #[.val (.int p0), .val (.long q1), .second, .val (.long q2), .second, .val (.int (1 : Int32)), .val (.int (1 : Int32)), .val (.int (0 : Int32)), .val (.int z8), .val (.ref ob5), .val (.ref ob7), .val (.ref ob9), .val (.ref ob12), .val (.ref ob18), .val (.ref t14), .val (.ref ob12), .val (.int (1 : Int32))]) rfl) ?_
                  show own_G p e below Φ T338 (mkF m 363 #[.val (.int p0), .val (.long q1), .second, .val (.long q2), .second, .val (.int (1 : Int32)), .val (.int (1 : Int32)), .val (.int (0 : Int32)), .val (.int z8), .val (.ref ob5), .val (.ref ob7), .val (.ref ob9), .val (.ref ob12), .val (.ref ob18), .val (.ref t14), .val (.ref ob12), .val (.int (1 : Int32))] [])
                  refine own_go (fun _ => XS.iload X338.here hx rfl (hb hby at_363) rfl) ?_
                  show own_G p e below Φ T338 (mkF m 365 #[.val (.int p0), .val (.long q1), .second, .val (.long q2), .second, .val (.int (1 : Int32)), .val (.int (1 : Int32)), .val (.int (0 : Int32)), .val (.int z8), .val (.ref ob5), .val (.ref ob7), .val (.ref ob9), .val (.ref ob12), .val (.ref ob18), .val (.ref t14), .val (.ref ob12), .val (.int (1 : Int32))] [(.int (1 : Int32))])
                  rw [hΦ]
                  refine own_ret X338 (v := some (.int (1 : Int32))) (fun h => by rw [Bd.returns] at h; cases h) (BodyLoose.notSynchronized Bd) (fun fs hr => retN X338 hx (t := .boolean) Bd.returns (by simp) (hb hby at_365) hr) ?_ (by decide) (by decide)
                  rw [hs338]
                  exact ⟨rfl, N338⟩
              by_cases hc153 : z8 = (0 : Int32)
              · refine own_go (fun _ => XS.ifYes X262.here hx rfl (pc0 := 153) (pc' := 161) rfl (hb hby at_153) rfl (Jvm.Free.XT.i0_eq_t hc153) (by decide) (by decide)) ?_
                show own_G p e below Φ T262 (mkF m 161 #[.val (.int p0), .val (.long q1), .second, .val (.long q2), .second, .val (.int z5), .val (.int (1 : Int32)), .val (.int (0 : Int32)), .val (.int z8), .val (.ref ob5), .val (.ref ob7), .val (.ref ob9), .val (.ref ob12), .val (.ref ob18), .unset, .unset, .unset] [])
                refine own_go (fun _ => XS.aload X262.here hx rfl (hb hby at_161) rfl rfl) ?_
                exact hJ163_263 _ X262 rfl _ 
              · refine own_go (fun _ => XS.ifNo X262.here hx rfl (hb hby at_153) rfl (Jvm.Free.XT.i0_eq_f hc153)) ?_
                show own_G p e below Φ T262 (mkF m 156 #[.val (.int p0), .val (.long q1), .second, .val (.long q2), .second, .val (.int z5), .val (.int (1 : Int32)), .val (.int (0 : Int32)), .val (.int z8), .val (.ref ob5), .val (.ref ob7), .val (.ref ob9), .val (.ref ob12), .val (.ref ob18), .unset, .unset, .unset] [])
                refine own_go (fun _ => XS.aload X262.here hx rfl (hb hby at_156) rfl rfl) ?_
                show own_G p e below Φ T262 (mkF m 158 #[.val (.int p0), .val (.long q1), .second, .val (.long q2), .second, .val (.int z5), .val (.int (1 : Int32)), .val (.int (0 : Int32)), .val (.int z8), .val (.ref ob5), .val (.ref ob7), .val (.ref ob9), .val (.ref ob12), .val (.ref ob18), .unset, .unset, .unset] [(.ref ob5)])
                refine own_go (fun _ => XS.goto X262.here hx rfl (pc0 := 158) (pc' := 163) rfl (hb hby at_158) (by decide) (by decide)) ?_
                exact hJ163_263 _ X262 rfl _ 
            · show own_G p e below Φ T262 (mkF m 138 #[.val (.int p0), .val (.long q1), .second, .val (.long q2), .second, .val (.int z5), .val (.int (1 : Int32)), .val (.int (1 : Int32)), .val (.int z8), .val (.ref ob5), .val (.ref ob7), .val (.ref ob9), .val (.ref ob12), .val (.ref ob18), .unset, .unset, .unset] [])
              refine own_go (fun _ => XS.iload X262.here hx rfl (hb hby at_138) rfl) ?_
              show own_G p e below Φ T262 (mkF m 140 #[.val (.int p0), .val (.long q1), .second, .val (.long q2), .second, .val (.int z5), .val (.int (1 : Int32)), .val (.int (1 : Int32)), .val (.int z8), .val (.ref ob5), .val (.ref ob7), .val (.ref ob9), .val (.ref ob12), .val (.ref ob18), .unset, .unset, .unset] [(.int (1 : Int32))])
              refine own_go (fun _ => XS.ifNo X262.here hx rfl (hb hby at_140) rfl (Jvm.Free.XT.i0_eq_f (by decide : ¬ ((1 : Int32) = (0 : Int32))))) ?_
              show own_G p e below Φ T262 (mkF m 143 #[.val (.int p0), .val (.long q1), .second, .val (.long q2), .second, .val (.int z5), .val (.int (1 : Int32)), .val (.int (1 : Int32)), .val (.int z8), .val (.ref ob5), .val (.ref ob7), .val (.ref ob9), .val (.ref ob12), .val (.ref ob18), .unset, .unset, .unset] [])
              refine own_go (fun _ => XS.aload X262.here hx rfl (hb hby at_143) rfl rfl) ?_
              show own_G p e below Φ T262 (mkF m 145 #[.val (.int p0), .val (.long q1), .second, .val (.long q2), .second, .val (.int z5), .val (.int (1 : Int32)), .val (.int (1 : Int32)), .val (.int z8), .val (.ref ob5), .val (.ref ob7), .val (.ref ob9), .val (.ref ob12), .val (.ref ob18), .unset, .unset, .unset] [(.ref ob12)])
              refine own_go (fun _ => XS.aload X262.here hx rfl (hb hby at_145) rfl rfl) ?_
              show own_G p e below Φ T262 (mkF m 147 #[.val (.int p0), .val (.long q1), .second, .val (.long q2), .second, .val (.int z5), .val (.int (1 : Int32)), .val (.int (1 : Int32)), .val (.int z8), .val (.ref ob5), .val (.ref ob7), .val (.ref ob9), .val (.ref ob12), .val (.ref ob18), .unset, .unset, .unset] [(.ref ob5), (.ref ob12)])
              refine own_go (fun _ => XS.aconstNull X262.here hx rfl (hb hby at_147)) ?_
              show own_G p e below Φ T262 (mkF m 148 #[.val (.int p0), .val (.long q1), .second, .val (.long q2), .second, .val (.int z5), .val (.int (1 : Int32)), .val (.int (1 : Int32)), .val (.int z8), .val (.ref ob5), .val (.ref ob7), .val (.ref ob9), .val (.ref ob12), .val (.ref ob18), .unset, .unset, .unset] [.null, (.ref ob5), (.ref ob12)])
              have f339 : Exa Z h18 ob12 "corro/core/Order" := p17_0.ext E18
              have f340 : Exa Z T25.heap ob12 "corro/core/Order" := f339.keep Kq25
              have f341 : Exa Z T255.heap ob12 "corro/core/Order" := f340.keep Kq255
              have f342 : Exa Z T262.heap ob12 "corro/core/Order" := f341.keep Kq262
              have f343 : Fld Z h18 ob12 "corro/core/Order" "level" "Lcorro/core/Level;" .null := p17_1.ext E18
              have f344 : Fld Z T25.heap ob12 "corro/core/Order" "level" "Lcorro/core/Level;" .null := f343.keep Kq25 (ninS ne_ob12_ob18 nin0)
              have f345 : Fld Z T255.heap ob12 "corro/core/Order" "level" "Lcorro/core/Level;" .null := f344.keep Kq255 (ninS (Ne.symm ne_ob9_ob12) nin0)
              have f346 : Fld Z T262.heap ob12 "corro/core/Order" "level" "Lcorro/core/Level;" .null := f345.keep Kq262 (ninS ne_ob12_ob18 (ninS (Ne.symm ne_ob9_ob12) nin0))
              have f347 : Fld Z h18 ob12 "corro/core/Order" "previous" "Lcorro/core/Order;" .null := p17_2.ext E18
              have f348 : Fld Z T25.heap ob12 "corro/core/Order" "previous" "Lcorro/core/Order;" .null := f347.keep Kq25 (ninS ne_ob12_ob18 nin0)
              have f349 : Fld Z T255.heap ob12 "corro/core/Order" "previous" "Lcorro/core/Order;" .null := f348.keep Kq255 (ninS (Ne.symm ne_ob9_ob12) nin0)
              have f350 : Fld Z T262.heap ob12 "corro/core/Order" "previous" "Lcorro/core/Order;" .null := f349.keep Kq262 (ninS ne_ob12_ob18 (ninS (Ne.symm ne_ob9_ob12) nin0))
              have f351 : Fld Z h18 ob12 "corro/core/Order" "next" "Lcorro/core/Order;" .null := p17_3.ext E18
              have f352 : Fld Z T25.heap ob12 "corro/core/Order" "next" "Lcorro/core/Order;" .null := f351.keep Kq25 (ninS ne_ob12_ob18 nin0)
              have f353 : Fld Z T255.heap ob12 "corro/core/Order" "next" "Lcorro/core/Order;" .null := f352.keep Kq255 (ninS (Ne.symm ne_ob9_ob12) nin0)
              have f354 : Fld Z T262.heap ob12 "corro/core/Order" "next" "Lcorro/core/Order;" .null := f353.keep Kq262 (ninS ne_ob12_ob18 (ninS (Ne.symm ne_ob9_ob12) nin0))
              have f355 : Fld Z h18 ob12 "corro/core/Order" "quantity" "J" (.long q1) := p17_4.ext E18
              have f356 : Fld Z T25.heap ob12 "corro/core/Order" "quantity" "J" (.long q1) := f355.keep Kq25 (ninS ne_ob12_ob18 nin0)
              have f357 : Fld Z T255.heap ob12 "corro/core/Order" "quantity" "J" (.long q1) := f356.keep Kq255 (ninS (Ne.symm ne_ob9_ob12) nin0)
              have f358 : Fld Z T262.heap ob12 "corro/core/Order" "quantity" "J" (.long q1) := f357.keep Kq262 (ninS ne_ob12_ob18 (ninS (Ne.symm ne_ob9_ob12) nin0))
              have f359 : Fld Z h18 ob12 "corro/core/Order" "price" "J" (.long q2) := p17_5.ext E18
              have f360 : Fld Z T25.heap ob12 "corro/core/Order" "price" "J" (.long q2) := f359.keep Kq25 (ninS ne_ob12_ob18 nin0)
              have f361 : Fld Z T255.heap ob12 "corro/core/Order" "price" "J" (.long q2) := f360.keep Kq255 (ninS (Ne.symm ne_ob9_ob12) nin0)
              have f362 : Fld Z T262.heap ob12 "corro/core/Order" "price" "J" (.long q2) := f361.keep Kq262 (ninS ne_ob12_ob18 (ninS (Ne.symm ne_ob9_ob12) nin0))
              obtain ⟨cq363, kq363, q363a, q363b, q363c⟩ := isOf hZ rfl f342
              obtain ⟨_, _, ⟨T363, zL363, zk363, zn363⟩, -, X363, ⟨Lc363, hQ363, l363, y363, z363⟩, st363⟩ := X262.virtualBack hx (y := (⟨"corro/core/Order", "join", "(Lcorro/core/Level;Lcorro/core/Order;)V"⟩ : MethodName)) (z := (⟨"corro/core/Order", "join", "(Lcorro/core/Level;Lcorro/core/Order;)V"⟩ : MethodName)) hown (mvT hZ (wd_28 hw)) (mvT hZ (wd_29 hw)) (notFace_of_selects (args := #[]) (mvT hZ (wd_31 hw))) (mvT hZ (wd_31 hw)) (mvT hZ (wd_30 hw)) (by decide) (backOf (W := 0) (rmJN l Z a0 hw [] ob12 ob5 .null .null .null q1 q2 T262.heap n0 Zp262 f342 f346 f350 f354 f358 f362 g_ob12) hZ (wd_32 hw) (wd_11 hw) (by decide) (by decide)) q363a q363c (g := (mkF m 148 #[.val (.int p0), .val (.long q1), .second, .val (.long q2), .second, .val (.int z5), .val (.int (1 : Int32)), .val (.int (1 : Int32)), .val (.int z8), .val (.ref ob5), .val (.ref ob7), .val (.ref ob9), .val (.ref ob12), .val (.ref ob18), .unset, .unset, .unset] [.null, (.ref ob5), (.ref ob12)])) rfl (by rw [hml]; rfl) (Steps.refl _) (argsL := [(.ref ob5), .null]) (rest := []) (lenOf pd_2 rfl) rfl (by show 2 * 0 + _ ≤ _; exact Nat.le_of_eq rfl) (hb hby at_148) (fun _ _ => ⟨rfl, rfl, (by decide : 5 + 0 ≤ _), (by decide : 40 + 0 ≤ _)⟩)
              dsimp only [Pt.U, Pt.locs, Pt.cells, Pt.slots] at X363 l363 y363 z363 st363 hQ363
              subst l363 y363 z363
              obtain ⟨rfl, N363q, Kq363, p363_0, p363_1, p363_2, p363_3, p363_4, p363_5⟩ := hQ363
              have N363 := Fr.app N262 N363q
              refine own_on st363 ?_
              have Zp363 : n0 ≤ T363.heap.size := Nat.le_trans Zp262 Kq363.1
              show own_G p e below Φ T363 (mkF m 151 #[.val (.int p0), .val (.long q1), .second, .val (.long q2), .second, .val (.int z5), .val (.int (1 : Int32)), .val (.int (1 : Int32)), .val (.int z8), .val (.ref ob5), .val (.ref ob7), .val (.ref ob9), .val (.ref ob12), .val (.ref ob18), .unset, .unset, .unset] [])
              refine own_go (fun _ => XS.iload X363.here hx rfl (hb hby at_151) rfl) ?_
              show own_G p e below Φ T363 (mkF m 153 #[.val (.int p0), .val (.long q1), .second, .val (.long q2), .second, .val (.int z5), .val (.int (1 : Int32)), .val (.int (1 : Int32)), .val (.int z8), .val (.ref ob5), .val (.ref ob7), .val (.ref ob9), .val (.ref ob12), .val (.ref ob18), .unset, .unset, .unset] [(.int z8)])
              have hJ163_364 : ∀ (T' : State), own_Al X363 T' → T'.heap = T363.heap → ∀ (t14 : Addr), own_G p e below Φ T' (mkF m 163 #[.val (.int p0), .val (.long q1), .second, .val (.long q2), .second, .val (.int z5), .val (.int (1 : Int32)), .val (.int (1 : Int32)), .val (.int z8), .val (.ref ob5), .val (.ref ob7), .val (.ref ob9), .val (.ref ob12), .val (.ref ob18), .unset, .unset, .unset] [(.ref t14)]) := by
                intro T364 X364' e364 t14
                have X364 : Stand _ _ _ _ _ _ _ _ _ _ T364 _ _ _ := X364'
                show own_G p e below Φ T364 (mkF m 163 #[.val (.int p0), .val (.long q1), .second, .val (.long q2), .second, .val (.int z5), .val (.int (1 : Int32)), .val (.int (1 : Int32)), .val (.int z8), .val (.ref ob5), .val (.ref ob7), .val (.ref ob9), .val (.ref ob12), .val (.ref ob18), .unset, .unset, .unset] [(.ref t14)])
                refine own_go (fun _ => XS.astore X364.here hx rfl (hb hby at_163) rfl rfl (l' := #[.val (.int p0), .val (.long q1), .second, .val (.long q2), .second, .val (.int z5), .val (.int (1 : Int32)), .val (.int (1 : Int32)), .val (.int z8), .val (.ref ob5), .val (.ref ob7), .val (.ref ob9), .val (.ref ob12), .val (.ref ob18), .val (.ref t14), .unset, .unset]) rfl) ?_
                show own_G p e below Φ T364 (mkF m 165 #[.val (.int p0), .val (.long q1), .second, .val (.long q2), .second, .val (.int z5), .val (.int (1 : Int32)), .val (.int (1 : Int32)), .val (.int z8), .val (.ref ob5), .val (.ref ob7), .val (.ref ob9), .val (.ref ob12), .val (.ref ob18), .val (.ref t14), .unset, .unset] [])
                rcases h_z5 with rfl | rfl
                · show own_G p e below Φ T364 (mkF m 165 #[.val (.int p0), .val (.long q1), .second, .val (.long q2), .second, .val (.int (0 : Int32)), .val (.int (1 : Int32)), .val (.int (1 : Int32)), .val (.int z8), .val (.ref ob5), .val (.ref ob7), .val (.ref ob9), .val (.ref ob12), .val (.ref ob18), .val (.ref t14), .unset, .unset] [])
                  refine own_go (fun _ => XS.iload X364.here hx rfl (hb hby at_165) rfl) ?_
                  show own_G p e below Φ T364 (mkF m 167 #[.val (.int p0), .val (.long q1), .second, .val (.long q2), .second, .val (.int (0 : Int32)), .val (.int (1 : Int32)), .val (.int (1 : Int32)), .val (.int z8), .val (.ref ob5), .val (.ref ob7), .val (.ref ob9), .val (.ref ob12), .val (.ref ob18), .val (.ref t14), .unset, .unset] [(.int (0 : Int32))])
                  refine own_go (fun _ => XS.ifYes X364.here hx rfl (pc0 := 167) (pc' := 175) rfl (hb hby at_167) rfl (Jvm.Free.XT.i0_eq_t (by decide : ((0 : Int32) = (0 : Int32)))) (by decide) (by decide)) ?_
                  show own_G p e below Φ T364 (mkF m 175 #[.val (.int p0), .val (.long q1), .second, .val (.long q2), .second, .val (.int (0 : Int32)), .val (.int (1 : Int32)), .val (.int (1 : Int32)), .val (.int z8), .val (.ref ob5), .val (.ref ob7), .val (.ref ob9), .val (.ref ob12), .val (.ref ob18), .val (.ref t14), .unset, .unset] [])
                  refine own_go (fun _ => XS.aconstNull X364.here hx rfl (hb hby at_175)) ?_
                  show own_G p e below Φ T364 (mkF m 176 #[.val (.int p0), .val (.long q1), .second, .val (.long q2), .second, .val (.int (0 : Int32)), .val (.int (1 : Int32)), .val (.int (1 : Int32)), .val (.int z8), .val (.ref ob5), .val (.ref ob7), .val (.ref ob9), .val (.ref ob12), .val (.ref ob18), .val (.ref t14), .unset, .unset] [.null])
                  refine own_go (fun _ => XS.astore X364.here hx rfl (hb hby at_176) rfl rfl (l' := #[.val (.int p0), .val (.long q1), .second, .val (.long q2), .second, .val (.int (0 : Int32)), .val (.int (1 : Int32)), .val (.int (1 : Int32)), .val (.int z8), .val (.ref ob5), .val (.ref ob7), .val (.ref ob9), .val (.ref ob12), .val (.ref ob18), .val (.ref t14), .val .null, .unset]) rfl) ?_
                  show own_G p e below Φ T364 (mkF m 178 #[.val (.int p0), .val (.long q1), .second, .val (.long q2), .second, .val (.int (0 : Int32)), .val (.int (1 : Int32)), .val (.int (1 : Int32)), .val (.int z8), .val (.ref ob5), .val (.ref ob7), .val (.ref ob9), .val (.ref ob12), .val (.ref ob18), .val (.ref t14), .val .null, .unset] [])
                  refine own_go (fun _ => XS.aload X364.here hx rfl (hb hby at_178) rfl rfl) ?_
                  show own_G p e below Φ T364 (mkF m 180 #[.val (.int p0), .val (.long q1), .second, .val (.long q2), .second, .val (.int (0 : Int32)), .val (.int (1 : Int32)), .val (.int (1 : Int32)), .val (.int z8), .val (.ref ob5), .val (.ref ob7), .val (.ref ob9), .val (.ref ob12), .val (.ref ob18), .val (.ref t14), .val .null, .unset] [(.ref ob9)])
                  refine own_go (fun _ => XS.aload X364.here hx rfl (hb hby at_180) rfl rfl) ?_
                  show own_G p e below Φ T364 (mkF m 182 #[.val (.int p0), .val (.long q1), .second, .val (.long q2), .second, .val (.int (0 : Int32)), .val (.int (1 : Int32)), .val (.int (1 : Int32)), .val (.int z8), .val (.ref ob5), .val (.ref ob7), .val (.ref ob9), .val (.ref ob12), .val (.ref ob18), .val (.ref t14), .val .null, .unset] [(.ref t14), (.ref ob9)])
                  refine own_go (fun _ => XS.aload X364.here hx rfl (hb hby at_182) rfl rfl) ?_
                  show own_G p e below Φ T364 (mkF m 184 #[.val (.int p0), .val (.long q1), .second, .val (.long q2), .second, .val (.int (0 : Int32)), .val (.int (1 : Int32)), .val (.int (1 : Int32)), .val (.int z8), .val (.ref ob5), .val (.ref ob7), .val (.ref ob9), .val (.ref ob12), .val (.ref ob18), .val (.ref t14), .val .null, .unset] [.null, (.ref t14), (.ref ob9)])
                  have f365 : Exa Z T262.heap ob9 "corro/core/Order" := p255_0.keep Kq262
                  have f366 : Exa Z T363.heap ob9 "corro/core/Order" := f365.keep Kq363
                  have f367 : Fld Z T363.heap ob9 "corro/core/Order" "level" "Lcorro/core/Level;" (.ref ob5) := p262_4.keep Kq363 (ninS ne_ob9_ob12 nin0)
                  have f368 : Fld Z T363.heap ob9 "corro/core/Order" "previous" "Lcorro/core/Order;" .null := p262_5.keep Kq363 (ninS ne_ob9_ob12 nin0)
                  have f369 : Fld Z T363.heap ob9 "corro/core/Order" "next" "Lcorro/core/Order;" (.ref ob18) := p262_6.keep Kq363 (ninS ne_ob9_ob12 nin0)
                  have f370 : Fld Z T363.heap ob9 "corro/core/Order" "quantity" "J" (.long q1) := p262_9.keep Kq363 (ninS ne_ob9_ob12 nin0)
                  have f371 : Fld Z T363.heap ob9 "corro/core/Order" "price" "J" (.long q2) := p262_10.keep Kq363 (ninS ne_ob9_ob12 nin0)
                  obtain ⟨cq372, kq372, q372a, q372b, q372c⟩ := isOf hZ e364 f366
                  obtain ⟨_, _, ⟨T372, zL372, zk372, zn372⟩, -, X372, ⟨Lc372, hQ372, l372, y372, z372⟩, st372⟩ := X364.virtualBack hx (y := (⟨"corro/core/Order", "join", "(Lcorro/core/Level;Lcorro/core/Order;)V"⟩ : MethodName)) (z := (⟨"corro/core/Order", "join", "(Lcorro/core/Level;Lcorro/core/Order;)V"⟩ : MethodName)) hown (mvT hZ (wd_28 hw)) (mvT hZ (wd_29 hw)) (notFace_of_selects (args := #[]) (mvT hZ (wd_31 hw))) (mvT hZ (wd_31 hw)) (mvT hZ (wd_30 hw)) (by decide) (backOf (W := 0) (rmJN l Z a0 hw [] ob9 t14 (.ref ob5) .null (.ref ob18) q1 q2 T363.heap n0 Zp363 f366 f367 f368 f369 f370 f371 g_ob9) hZ (wd_32 hw) (wd_11 hw) (by decide) (by decide)) q372a q372c (g := (mkF m 184 #[.val (.int p0), .val (.long q1), .second, .val (.long q2), .second, .val (.int (0 : Int32)), .val (.int (1 : Int32)), .val (.int (1 : Int32)), .val (.int z8), .val (.ref ob5), .val (.ref ob7), .val (.ref ob9), .val (.ref ob12), .val (.ref ob18), .val (.ref t14), .val .null, .unset] [.null, (.ref t14), (.ref ob9)])) rfl (by rw [hml]; rfl) (Steps.refl _) (argsL := [(.ref t14), .null]) (rest := []) (lenOf pd_2 rfl) rfl (by show 2 * 0 + _ ≤ _; exact Nat.le_of_eq rfl) (hb hby at_184) (fun _ _ => ⟨rfl, e364, (by decide : 5 + 0 ≤ _), (by decide : 40 + 0 ≤ _)⟩)
                  dsimp only [Pt.U, Pt.locs, Pt.cells, Pt.slots] at X372 l372 y372 z372 st372 hQ372
                  subst l372 y372 z372
                  obtain ⟨rfl, N372q, Kq372, p372_0, p372_1, p372_2, p372_3, p372_4, p372_5⟩ := hQ372
                  have N372 := Fr.app N363 N372q
                  refine own_on st372 ?_
                  have Zp372 : n0 ≤ T372.heap.size := Nat.le_trans Zp363 Kq372.1
                  show own_G p e below Φ T372 (mkF m 187 #[.val (.int p0), .val (.long q1), .second, .val (.long q2), .second, .val (.int (0 : Int32)), .val (.int (1 : Int32)), .val (.int (1 : Int32)), .val (.int z8), .val (.ref ob5), .val (.ref ob7), .val (.ref ob9), .val (.ref ob12), .val (.ref ob18), .val (.ref t14), .val .null, .unset] [])
                  refine own_go (fun _ => XS.aload X372.here hx rfl (hb hby at_187) rfl rfl) ?_
                  show own_G p e below Φ T372 (mkF m 189 #[.val (.int p0), .val (.long q1), .second, .val (.long q2), .second, .val (.int (0 : Int32)), .val (.int (1 : Int32)), .val (.int (1 : Int32)), .val (.int z8), .val (.ref ob5), .val (.ref ob7), .val (.ref ob9), .val (.ref ob12), .val (.ref ob18), .val (.ref t14), .val .null, .unset] [(.ref ob9)])
                  obtain ⟨cq373, kq373, q373a, q373b, q373c⟩ := isOf hZ rfl p372_0
                  obtain ⟨_, _, ⟨T373, zL373, zk373, zn373⟩, -, X373, ⟨Lc373, hQ373, l373, y373, z373⟩, st373⟩ := X372.virtualBack hx (y := (⟨"corro/core/Order", "level", "()Lcorro/core/Level;"⟩ : MethodName)) (z := (⟨"corro/core/Order", "level", "()Lcorro/core/Level;"⟩ : MethodName)) hown (mvT hZ (wd_39 hw)) (mvT hZ (wd_40 hw)) (notFace_of_selects (args := #[]) (mvT hZ (wd_42 hw))) (mvT hZ (wd_42 hw)) (mvT hZ (wd_41 hw)) (by decide) (backOf (W := 0) (rmGlevel l Z a0 hw [] ob9 (.ref t14) T372.heap n0 Zp372 p372_1 rfl) hZ (wd_43 hw) (wd_11 hw) (by decide) (by decide)) q373a q373c (g := (mkF m 189 #[.val (.int p0), .val (.long q1), .second, .val (.long q2), .second, .val (.int (0 : Int32)), .val (.int (1 : Int32)), .val (.int (1 : Int32)), .val (.int z8), .val (.ref ob5), .val (.ref ob7), .val (.ref ob9), .val (.ref ob12), .val (.ref ob18), .val (.ref t14), .val .null, .unset] [(.ref ob9)])) rfl (by rw [hml]; rfl) (Steps.refl _) (argsL := []) (rest := []) (lenOf pd_3 rfl) rfl (by show 2 * 0 + _ ≤ _; exact Nat.le_of_eq rfl) (hb hby at_189) (fun _ _ => ⟨rfl, rfl, (by decide : 5 + 0 ≤ _), (by decide : 40 + 0 ≤ _)⟩)
                  dsimp only [Pt.U, Pt.locs, Pt.cells, Pt.slots] at X373 l373 y373 z373 st373 hQ373
                  subst l373 y373 z373
                  obtain ⟨rfl, N373q, hs373⟩ := hQ373
                  have N373 := Fr.app N372 N373q
                  refine own_on st373 ?_
                  show own_G p e below Φ T373 (mkF m 192 #[.val (.int p0), .val (.long q1), .second, .val (.long q2), .second, .val (.int (0 : Int32)), .val (.int (1 : Int32)), .val (.int (1 : Int32)), .val (.int z8), .val (.ref ob5), .val (.ref ob7), .val (.ref ob9), .val (.ref ob12), .val (.ref ob18), .val (.ref t14), .val .null, .unset] [(.ref t14)])
                  refine own_go (fun _ => XS.aload X373.here hx rfl (hb hby at_192) rfl rfl) ?_
                  show own_G p e below Φ T373 (mkF m 194 #[.val (.int p0), .val (.long q1), .second, .val (.long q2), .second, .val (.int (0 : Int32)), .val (.int (1 : Int32)), .val (.int (1 : Int32)), .val (.int z8), .val (.ref ob5), .val (.ref ob7), .val (.ref ob9), .val (.ref ob12), .val (.ref ob18), .val (.ref t14), .val .null, .unset] [(.ref t14), (.ref t14)])
                  refine own_go (fun _ => Jvm.RoadKit.acmp (g := (mkF m 194 #[.val (.int p0), .val (.long q1), .second, .val (.long q2), .second, .val (.int (0 : Int32)), .val (.int (1 : Int32)), .val (.int (1 : Int32)), .val (.int z8), .val (.ref ob5), .val (.ref ob7), .val (.ref ob9), .val (.ref ob12), .val (.ref ob18), .val (.ref t14), .val .null, .unset] [(.ref t14), (.ref t14)])) X373 hx rfl rfl rfl (pc0 := 194) (pc' := 197) (same := true) rfl (hb hby at_194) rfl (decide_eq_true rfl) (by decide) (by decide)) ?_
                  show own_G p e below Φ T373 (mkF m 197 #[.val (.int p0), .val (.long q1), .second, .val (.long q2), .second, .val (.int (0 : Int32)), .val (.int (1 : Int32)), .val (.int (1 : Int32)), .val (.int z8), .val (.ref ob5), .val (.ref ob7), .val (.ref ob9), .val (.ref ob12), .val (.ref ob18), .val (.ref t14), .val .null, .unset] [])
                  refine own_go (fun _ => XS.aload X373.here hx rfl (hb hby at_197) rfl rfl) ?_
                  show own_G p e below Φ T373 (mkF m 199 #[.val (.int p0), .val (.long q1), .second, .val (.long q2), .second, .val (.int (0 : Int32)), .val (.int (1 : Int32)), .val (.int (1 : Int32)), .val (.int z8), .val (.ref ob5), .val (.ref ob7), .val (.ref ob9), .val (.ref ob12), .val (.ref ob18), .val (.ref t14), .val .null, .unset] [(.ref ob9)])
                  obtain ⟨cq374, kq374, q374a, q374b, q374c⟩ := isOf hZ hs373 p372_0
                  obtain ⟨_, _, ⟨T374, zL374, zk374, zn374⟩, -, X374, ⟨Lc374, hQ374, l374, y374, z374⟩, st374⟩ := X373.virtualBack hx (y := (⟨"corro/core/Order", "previous", "()Lcorro/core/Order;"⟩ : MethodName)) (z := (⟨"corro/core/Order", "previous", "()Lcorro/core/Order;"⟩ : MethodName)) hown (mvT hZ (wd_44 hw)) (mvT hZ (wd_45 hw)) (notFace_of_selects (args := #[]) (mvT hZ (wd_47 hw))) (mvT hZ (wd_47 hw)) (mvT hZ (wd_46 hw)) (by decide) (backOf (W := 0) (rmGprevious l Z a0 hw [] ob9 .null T372.heap n0 Zp372 p372_2 rfl) hZ (wd_48 hw) (wd_11 hw) (by decide) (by decide)) q374a q374c (g := (mkF m 199 #[.val (.int p0), .val (.long q1), .second, .val (.long q2), .second, .val (.int (0 : Int32)), .val (.int (1 : Int32)), .val (.int (1 : Int32)), .val (.int z8), .val (.ref ob5), .val (.ref ob7), .val (.ref ob9), .val (.ref ob12), .val (.ref ob18), .val (.ref t14), .val .null, .unset] [(.ref ob9)])) rfl (by rw [hml]; rfl) (Steps.refl _) (argsL := []) (rest := []) (lenOf pd_4 rfl) rfl (by show 2 * 0 + _ ≤ _; exact Nat.le_of_eq rfl) (hb hby at_199) (fun _ _ => ⟨rfl, hs373, (by decide : 5 + 0 ≤ _), (by decide : 40 + 0 ≤ _)⟩)
                  dsimp only [Pt.U, Pt.locs, Pt.cells, Pt.slots] at X374 l374 y374 z374 st374 hQ374
                  subst l374 y374 z374
                  obtain ⟨rfl, N374q, hs374⟩ := hQ374
                  have N374 := Fr.app N373 N374q
                  refine own_on st374 ?_
                  show own_G p e below Φ T374 (mkF m 202 #[.val (.int p0), .val (.long q1), .second, .val (.long q2), .second, .val (.int (0 : Int32)), .val (.int (1 : Int32)), .val (.int (1 : Int32)), .val (.int z8), .val (.ref ob5), .val (.ref ob7), .val (.ref ob9), .val (.ref ob12), .val (.ref ob18), .val (.ref t14), .val .null, .unset] [.null])
                  refine own_go (fun _ => XS.aload X374.here hx rfl (hb hby at_202) rfl rfl) ?_
                  show own_G p e below Φ T374 (mkF m 204 #[.val (.int p0), .val (.long q1), .second, .val (.long q2), .second, .val (.int (0 : Int32)), .val (.int (1 : Int32)), .val (.int (1 : Int32)), .val (.int z8), .val (.ref ob5), .val (.ref ob7), .val (.ref ob9), .val (.ref ob12), .val (.ref ob18), .val (.ref t14), .val .null, .unset] [.null, .null])
                  refine own_go (fun _ => Jvm.RoadKit.acmp (g := (mkF m 204 #[.val (.int p0), .val (.long q1), .second, .val (.long q2), .second, .val (.int (0 : Int32)), .val (.int (1 : Int32)), .val (.int (1 : Int32)), .val (.int z8), .val (.ref ob5), .val (.ref ob7), .val (.ref ob9), .val (.ref ob12), .val (.ref ob18), .val (.ref t14), .val .null, .unset] [.null, .null])) X374 hx rfl rfl rfl (pc0 := 204) (pc' := 207) (same := true) rfl (hb hby at_204) rfl (decide_eq_true rfl) (by decide) (by decide)) ?_
                  show own_G p e below Φ T374 (mkF m 207 #[.val (.int p0), .val (.long q1), .second, .val (.long q2), .second, .val (.int (0 : Int32)), .val (.int (1 : Int32)), .val (.int (1 : Int32)), .val (.int z8), .val (.ref ob5), .val (.ref ob7), .val (.ref ob9), .val (.ref ob12), .val (.ref ob18), .val (.ref t14), .val .null, .unset] [])
                  refine own_go (fun _ => XS.aload X374.here hx rfl (hb hby at_207) rfl rfl) ?_
                  show own_G p e below Φ T374 (mkF m 209 #[.val (.int p0), .val (.long q1), .second, .val (.long q2), .second, .val (.int (0 : Int32)), .val (.int (1 : Int32)), .val (.int (1 : Int32)), .val (.int z8), .val (.ref ob5), .val (.ref ob7), .val (.ref ob9), .val (.ref ob12), .val (.ref ob18), .val (.ref t14), .val .null, .unset] [(.ref ob9)])
                  obtain ⟨cq375, kq375, q375a, q375b, q375c⟩ := isOf hZ hs374 p372_0
                  obtain ⟨_, _, ⟨T375, zL375, zk375, zn375⟩, -, X375, ⟨Lc375, hQ375, l375, y375, z375⟩, st375⟩ := X374.virtualBack hx (y := (⟨"corro/core/Order", "next", "()Lcorro/core/Order;"⟩ : MethodName)) (z := (⟨"corro/core/Order", "next", "()Lcorro/core/Order;"⟩ : MethodName)) hown (mvT hZ (wd_49 hw)) (mvT hZ (wd_50 hw)) (notFace_of_selects (args := #[]) (mvT hZ (wd_52 hw))) (mvT hZ (wd_52 hw)) (mvT hZ (wd_51 hw)) (by decide) (backOf (W := 0) (rmGnext l Z a0 hw [] ob9 .null T372.heap n0 Zp372 p372_3 rfl) hZ (wd_53 hw) (wd_11 hw) (by decide) (by decide)) q375a q375c (g := (mkF m 209 #[.val (.int p0), .val (.long q1), .second, .val (.long q2), .second, .val (.int (0 : Int32)), .val (.int (1 : Int32)), .val (.int (1 : Int32)), .val (.int z8), .val (.ref ob5), .val (.ref ob7), .val (.ref ob9), .val (.ref ob12), .val (.ref ob18), .val (.ref t14), .val .null, .unset] [(.ref ob9)])) rfl (by rw [hml]; rfl) (Steps.refl _) (argsL := []) (rest := []) (lenOf pd_4 rfl) rfl (by show 2 * 0 + _ ≤ _; exact Nat.le_of_eq rfl) (hb hby at_209) (fun _ _ => ⟨rfl, hs374, (by decide : 5 + 0 ≤ _), (by decide : 40 + 0 ≤ _)⟩)
                  dsimp only [Pt.U, Pt.locs, Pt.cells, Pt.slots] at X375 l375 y375 z375 st375 hQ375
                  subst l375 y375 z375
                  obtain ⟨rfl, N375q, hs375⟩ := hQ375
                  have N375 := Fr.app N374 N375q
                  refine own_on st375 ?_
                  show own_G p e below Φ T375 (mkF m 212 #[.val (.int p0), .val (.long q1), .second, .val (.long q2), .second, .val (.int (0 : Int32)), .val (.int (1 : Int32)), .val (.int (1 : Int32)), .val (.int z8), .val (.ref ob5), .val (.ref ob7), .val (.ref ob9), .val (.ref ob12), .val (.ref ob18), .val (.ref t14), .val .null, .unset] [.null])
                  refine own_go (fun _ => XS.ifnonnullNo X375.here hx rfl (hb hby at_212) rfl) ?_
                  show own_G p e below Φ T375 (mkF m 215 #[.val (.int p0), .val (.long q1), .second, .val (.long q2), .second, .val (.int (0 : Int32)), .val (.int (1 : Int32)), .val (.int (1 : Int32)), .val (.int z8), .val (.ref ob5), .val (.ref ob7), .val (.ref ob9), .val (.ref ob12), .val (.ref ob18), .val (.ref t14), .val .null, .unset] [])
                  refine own_go (fun _ => XS.iconst X375.here hx rfl (hb hby at_215)) ?_
                  show own_G p e below Φ T375 (mkF m 216 #[.val (.int p0), .val (.long q1), .second, .val (.long q2), .second, .val (.int (0 : Int32)), .val (.int (1 : Int32)), .val (.int (1 : Int32)), .val (.int z8), .val (.ref ob5), .val (.ref ob7), .val (.ref ob9), .val (.ref ob12), .val (.ref ob18), .val (.ref t14), .val .null, .unset] [(.int (1 : Int32))])
                  refine own_go (fun _ => XS.goto X375.here hx rfl (pc0 := 216) (pc' := 220) rfl (hb hby at_216) (by decide) (by decide)) ?_
                  show own_G p e below Φ T375 (mkF m 220 #[.val (.int p0), .val (.long q1), .second, .val (.long q2), .second, .val (.int (0 : Int32)), .val (.int (1 : Int32)), .val (.int (1 : Int32)), .val (.int z8), .val (.ref ob5), .val (.ref ob7), .val (.ref ob9), .val (.ref ob12), .val (.ref ob18), .val (.ref t14), .val .null, .unset] [(.int (1 : Int32))])
                  refine own_go (fun _ => XS.istore X375.here hx rfl (hb hby at_220) rfl (l' := #[.val (.int p0), .val (.long q1), .second, .val (.long q2), .second, .val (.int (0 : Int32)), .val (.int (1 : Int32)), .val (.int (1 : Int32)), .val (.int z8), .val (.ref ob5), .val (.ref ob7), .val (.ref ob9), .val (.ref ob12), .val (.ref ob18), .val (.ref t14), .val .null, .val (.int (1 : Int32))]) rfl) ?_
                  show own_G p e below Φ T375 (mkF m 222 #[.val (.int p0), .val (.long q1), .second, .val (.long q2), .second, .val (.int (0 : Int32)), .val (.int (1 : Int32)), .val (.int (1 : Int32)), .val (.int z8), .val (.ref ob5), .val (.ref ob7), .val (.ref ob9), .val (.ref ob12), .val (.ref ob18), .val (.ref t14), .val .null, .val (.int (1 : Int32))] [])
                  refine own_go (fun _ => XS.iload X375.here hx rfl (hb hby at_222) rfl) ?_
                  show own_G p e below Φ T375 (mkF m 224 #[.val (.int p0), .val (.long q1), .second, .val (.long q2), .second, .val (.int (0 : Int32)), .val (.int (1 : Int32)), .val (.int (1 : Int32)), .val (.int z8), .val (.ref ob5), .val (.ref ob7), .val (.ref ob9), .val (.ref ob12), .val (.ref ob18), .val (.ref t14), .val .null, .val (.int (1 : Int32))] [(.int (1 : Int32))])
                  refine own_go (fun _ => XS.ifNo X375.here hx rfl (hb hby at_224) rfl (Jvm.Free.XT.i0_eq_f (by decide : ¬ ((1 : Int32) = (0 : Int32))))) ?_
                  show own_G p e below Φ T375 (mkF m 227 #[.val (.int p0), .val (.long q1), .second, .val (.long q2), .second, .val (.int (0 : Int32)), .val (.int (1 : Int32)), .val (.int (1 : Int32)), .val (.int z8), .val (.ref ob5), .val (.ref ob7), .val (.ref ob9), .val (.ref ob12), .val (.ref ob18), .val (.ref t14), .val .null, .val (.int (1 : Int32))] [])
                  refine own_go (fun _ => XS.aload X375.here hx rfl (hb hby at_227) rfl rfl) ?_
                  show own_G p e below Φ T375 (mkF m 229 #[.val (.int p0), .val (.long q1), .second, .val (.long q2), .second, .val (.int (0 : Int32)), .val (.int (1 : Int32)), .val (.int (1 : Int32)), .val (.int z8), .val (.ref ob5), .val (.ref ob7), .val (.ref ob9), .val (.ref ob12), .val (.ref ob18), .val (.ref t14), .val .null, .val (.int (1 : Int32))] [(.ref ob12)])
                  have f376 : Fld Z T372.heap ob12 "corro/core/Order" "next" "Lcorro/core/Order;" .null := p363_3.keep Kq372 (ninS (Ne.symm ne_ob9_ob12) nin0)
                  have f378 : Exa Z T372.heap ob12 "corro/core/Order" := p363_0.keep Kq372
                  obtain ⟨cq377, kq377, q377a, q377b, q377c⟩ := isOf hZ hs375 f378
                  obtain ⟨_, _, ⟨T377, zL377, zk377, zn377⟩, -, X377, ⟨Lc377, hQ377, l377, y377, z377⟩, st377⟩ := X375.virtualBack hx (y := (⟨"corro/core/Order", "next", "()Lcorro/core/Order;"⟩ : MethodName)) (z := (⟨"corro/core/Order", "next", "()Lcorro/core/Order;"⟩ : MethodName)) hown (mvT hZ (wd_49 hw)) (mvT hZ (wd_50 hw)) (notFace_of_selects (args := #[]) (mvT hZ (wd_52 hw))) (mvT hZ (wd_52 hw)) (mvT hZ (wd_51 hw)) (by decide) (backOf (W := 0) (rmGnext l Z a0 hw [] ob12 .null T372.heap n0 Zp372 f376 rfl) hZ (wd_53 hw) (wd_11 hw) (by decide) (by decide)) q377a q377c (g := (mkF m 229 #[.val (.int p0), .val (.long q1), .second, .val (.long q2), .second, .val (.int (0 : Int32)), .val (.int (1 : Int32)), .val (.int (1 : Int32)), .val (.int z8), .val (.ref ob5), .val (.ref ob7), .val (.ref ob9), .val (.ref ob12), .val (.ref ob18), .val (.ref t14), .val .null, .val (.int (1 : Int32))] [(.ref ob12)])) rfl (by rw [hml]; rfl) (Steps.refl _) (argsL := []) (rest := []) (lenOf pd_4 rfl) rfl (by show 2 * 0 + _ ≤ _; exact Nat.le_of_eq rfl) (hb hby at_229) (fun _ _ => ⟨rfl, hs375, (by decide : 5 + 0 ≤ _), (by decide : 40 + 0 ≤ _)⟩)
                  dsimp only [Pt.U, Pt.locs, Pt.cells, Pt.slots] at X377 l377 y377 z377 st377 hQ377
                  subst l377 y377 z377
                  obtain ⟨rfl, N377q, hs377⟩ := hQ377
                  have N377 := Fr.app N375 N377q
                  refine own_on st377 ?_
                  show own_G p e below Φ T377 (mkF m 232 #[.val (.int p0), .val (.long q1), .second, .val (.long q2), .second, .val (.int (0 : Int32)), .val (.int (1 : Int32)), .val (.int (1 : Int32)), .val (.int z8), .val (.ref ob5), .val (.ref ob7), .val (.ref ob9), .val (.ref ob12), .val (.ref ob18), .val (.ref t14), .val .null, .val (.int (1 : Int32))] [.null])
                  refine own_go (fun _ => XS.iload X377.here hx rfl (hb hby at_232) rfl) ?_
                  show own_G p e below Φ T377 (mkF m 234 #[.val (.int p0), .val (.long q1), .second, .val (.long q2), .second, .val (.int (0 : Int32)), .val (.int (1 : Int32)), .val (.int (1 : Int32)), .val (.int z8), .val (.ref ob5), .val (.ref ob7), .val (.ref ob9), .val (.ref ob12), .val (.ref ob18), .val (.ref t14), .val .null, .val (.int (1 : Int32))] [(.int (0 : Int32)), .null])
                  refine own_go (fun _ => XS.ifYes X377.here hx rfl (pc0 := 234) (pc' := 242) rfl (hb hby at_234) rfl (Jvm.Free.XT.i0_eq_t (by decide : ((0 : Int32) = (0 : Int32)))) (by decide) (by decide)) ?_
                  show own_G p e below Φ T377 (mkF m 242 #[.val (.int p0), .val (.long q1), .second, .val (.long q2), .second, .val (.int (0 : Int32)), .val (.int (1 : Int32)), .val (.int (1 : Int32)), .val (.int z8), .val (.ref ob5), .val (.ref ob7), .val (.ref ob9), .val (.ref ob12), .val (.ref ob18), .val (.ref t14), .val .null, .val (.int (1 : Int32))] [.null])
                  refine own_go (fun _ => XS.aconstNull X377.here hx rfl (hb hby at_242)) ?_
                  show own_G p e below Φ T377 (mkF m 243 #[.val (.int p0), .val (.long q1), .second, .val (.long q2), .second, .val (.int (0 : Int32)), .val (.int (1 : Int32)), .val (.int (1 : Int32)), .val (.int z8), .val (.ref ob5), .val (.ref ob7), .val (.ref ob9), .val (.ref ob12), .val (.ref ob18), .val (.ref t14), .val .null, .val (.int (1 : Int32))] [.null, .null])
                  refine own_go (fun _ => Jvm.RoadKit.acmp (g := (mkF m 243 #[.val (.int p0), .val (.long q1), .second, .val (.long q2), .second, .val (.int (0 : Int32)), .val (.int (1 : Int32)), .val (.int (1 : Int32)), .val (.int z8), .val (.ref ob5), .val (.ref ob7), .val (.ref ob9), .val (.ref ob12), .val (.ref ob18), .val (.ref t14), .val .null, .val (.int (1 : Int32))] [.null, .null])) X377 hx rfl rfl rfl (pc0 := 243) (pc' := 246) (same := true) rfl (hb hby at_243) rfl (decide_eq_true rfl) (by decide) (by decide)) ?_
                  show own_G p e below Φ T377 (mkF m 246 #[.val (.int p0), .val (.long q1), .second, .val (.long q2), .second, .val (.int (0 : Int32)), .val (.int (1 : Int32)), .val (.int (1 : Int32)), .val (.int z8), .val (.ref ob5), .val (.ref ob7), .val (.ref ob9), .val (.ref ob12), .val (.ref ob18), .val (.ref t14), .val .null, .val (.int (1 : Int32))] [])
                  refine own_go (fun _ => XS.iconst X377.here hx rfl (hb hby at_246)) ?_
                  show own_G p e below Φ T377 (mkF m 247 #[.val (.int p0), .val (.long q1), .second, .val (.long q2), .second, .val (.int (0 : Int32)), .val (.int (1 : Int32)), .val (.int (1 : Int32)), .val (.int z8), .val (.ref ob5), .val (.ref ob7), .val (.ref ob9), .val (.ref ob12), .val (.ref ob18), .val (.ref t14), .val .null, .val (.int (1 : Int32))] [(.int (1 : Int32))])
                  refine own_go (fun _ => XS.goto X377.here hx rfl (pc0 := 247) (pc' := 251) rfl (hb hby at_247) (by decide) (by decide)) ?_
                  show own_G p e below Φ T377 (mkF m 251 #[.val (.int p0), .val (.long q1), .second, .val (.long q2), .second, .val (.int (0 : Int32)), .val (.int (1 : Int32)), .val (.int (1 : Int32)), .val (.int z8), .val (.ref ob5), .val (.ref ob7), .val (.ref ob9), .val (.ref ob12), .val (.ref ob18), .val (.ref t14), .val .null, .val (.int (1 : Int32))] [(.int (1 : Int32))])
                  refine own_go (fun _ => XS.istore X377.here hx rfl (hb hby at_251) rfl (l' := #[.val (.int p0), .val (.long q1), .second, .val (.long q2), .second, .val (.int (0 : Int32)), .val (.int (1 : Int32)), .val (.int (1 : Int32)), .val (.int z8), .val (.ref ob5), .val (.ref ob7), .val (.ref ob9), .val (.ref ob12), .val (.ref ob18), .val (.ref t14), .val .null, .val (.int (1 : Int32))]) rfl) ?_
                  show own_G p e below Φ T377 (mkF m 253 #[.val (.int p0), .val (.long q1), .second, .val (.long q2), .second, .val (.int (0 : Int32)), .val (.int (1 : Int32)), .val (.int (1 : Int32)), .val (.int z8), .val (.ref ob5), .val (.ref ob7), .val (.ref ob9), .val (.ref ob12), .val (.ref ob18), .val (.ref t14), .val .null, .val (.int (1 : Int32))] [])
                  refine own_go (fun _ => XS.iload X377.here hx rfl (hb hby at_253) rfl) ?_
                  show own_G p e below Φ T377 (mkF m 255 #[.val (.int p0), .val (.long q1), .second, .val (.long q2), .second, .val (.int (0 : Int32)), .val (.int (1 : Int32)), .val (.int (1 : Int32)), .val (.int z8), .val (.ref ob5), .val (.ref ob7), .val (.ref ob9), .val (.ref ob12), .val (.ref ob18), .val (.ref t14), .val .null, .val (.int (1 : Int32))] [(.int (1 : Int32))])
                  refine own_go (fun _ => XS.ifNo X377.here hx rfl (hb hby at_255) rfl (Jvm.Free.XT.i0_eq_f (by decide : ¬ ((1 : Int32) = (0 : Int32))))) ?_
                  show own_G p e below Φ T377 (mkF m 258 #[.val (.int p0), .val (.long q1), .second, .val (.long q2), .second, .val (.int (0 : Int32)), .val (.int (1 : Int32)), .val (.int (1 : Int32)), .val (.int z8), .val (.ref ob5), .val (.ref ob7), .val (.ref ob9), .val (.ref ob12), .val (.ref ob18), .val (.ref t14), .val .null, .val (.int (1 : Int32))] [])
                  refine own_go (fun _ => XS.aload X377.here hx rfl (hb hby at_258) rfl rfl) ?_
                  show own_G p e below Φ T377 (mkF m 260 #[.val (.int p0), .val (.long q1), .second, .val (.long q2), .second, .val (.int (0 : Int32)), .val (.int (1 : Int32)), .val (.int (1 : Int32)), .val (.int z8), .val (.ref ob5), .val (.ref ob7), .val (.ref ob9), .val (.ref ob12), .val (.ref ob18), .val (.ref t14), .val .null, .val (.int (1 : Int32))] [(.ref ob12)])
                  have f379 : Fld Z T372.heap ob12 "corro/core/Order" "previous" "Lcorro/core/Order;" .null := p363_2.keep Kq372 (ninS (Ne.symm ne_ob9_ob12) nin0)
                  obtain ⟨cq380, kq380, q380a, q380b, q380c⟩ := isOf hZ hs377 f378
                  obtain ⟨_, _, ⟨T380, zL380, zk380, zn380⟩, -, X380, ⟨Lc380, hQ380, l380, y380, z380⟩, st380⟩ := X377.virtualBack hx (y := (⟨"corro/core/Order", "previous", "()Lcorro/core/Order;"⟩ : MethodName)) (z := (⟨"corro/core/Order", "previous", "()Lcorro/core/Order;"⟩ : MethodName)) hown (mvT hZ (wd_44 hw)) (mvT hZ (wd_45 hw)) (notFace_of_selects (args := #[]) (mvT hZ (wd_47 hw))) (mvT hZ (wd_47 hw)) (mvT hZ (wd_46 hw)) (by decide) (backOf (W := 0) (rmGprevious l Z a0 hw [] ob12 .null T372.heap n0 Zp372 f379 rfl) hZ (wd_48 hw) (wd_11 hw) (by decide) (by decide)) q380a q380c (g := (mkF m 260 #[.val (.int p0), .val (.long q1), .second, .val (.long q2), .second, .val (.int (0 : Int32)), .val (.int (1 : Int32)), .val (.int (1 : Int32)), .val (.int z8), .val (.ref ob5), .val (.ref ob7), .val (.ref ob9), .val (.ref ob12), .val (.ref ob18), .val (.ref t14), .val .null, .val (.int (1 : Int32))] [(.ref ob12)])) rfl (by rw [hml]; rfl) (Steps.refl _) (argsL := []) (rest := []) (lenOf pd_4 rfl) rfl (by show 2 * 0 + _ ≤ _; exact Nat.le_of_eq rfl) (hb hby at_260) (fun _ _ => ⟨rfl, hs377, (by decide : 5 + 0 ≤ _), (by decide : 40 + 0 ≤ _)⟩)
                  dsimp only [Pt.U, Pt.locs, Pt.cells, Pt.slots] at X380 l380 y380 z380 st380 hQ380
                  subst l380 y380 z380
                  obtain ⟨rfl, N380q, hs380⟩ := hQ380
                  have N380 := Fr.app N377 N380q
                  refine own_on st380 ?_
                  show own_G p e below Φ T380 (mkF m 263 #[.val (.int p0), .val (.long q1), .second, .val (.long q2), .second, .val (.int (0 : Int32)), .val (.int (1 : Int32)), .val (.int (1 : Int32)), .val (.int z8), .val (.ref ob5), .val (.ref ob7), .val (.ref ob9), .val (.ref ob12), .val (.ref ob18), .val (.ref t14), .val .null, .val (.int (1 : Int32))] [.null])
                  refine own_go (fun _ => XS.ifnonnullNo X380.here hx rfl (hb hby at_263) rfl) ?_
                  show own_G p e below Φ T380 (mkF m 266 #[.val (.int p0), .val (.long q1), .second, .val (.long q2), .second, .val (.int (0 : Int32)), .val (.int (1 : Int32)), .val (.int (1 : Int32)), .val (.int z8), .val (.ref ob5), .val (.ref ob7), .val (.ref ob9), .val (.ref ob12), .val (.ref ob18), .val (.ref t14), .val .null, .val (.int (1 : Int32))] [])
                  refine own_go (fun _ => XS.aload X380.here hx rfl (hb hby at_266) rfl rfl) ?_
                  show own_G p e below Φ T380 (mkF m 268 #[.val (.int p0), .val (.long q1), .second, .val (.long q2), .second, .val (.int (0 : Int32)), .val (.int (1 : Int32)), .val (.int (1 : Int32)), .val (.int z8), .val (.ref ob5), .val (.ref ob7), .val (.ref ob9), .val (.ref ob12), .val (.ref ob18), .val (.ref t14), .val .null, .val (.int (1 : Int32))] [(.ref ob12)])
                  have f381 : Fld Z T372.heap ob12 "corro/core/Order" "level" "Lcorro/core/Level;" (.ref ob5) := p363_1.keep Kq372 (ninS (Ne.symm ne_ob9_ob12) nin0)
                  obtain ⟨cq382, kq382, q382a, q382b, q382c⟩ := isOf hZ hs380 f378
                  obtain ⟨_, _, ⟨T382, zL382, zk382, zn382⟩, -, X382, ⟨Lc382, hQ382, l382, y382, z382⟩, st382⟩ := X380.virtualBack hx (y := (⟨"corro/core/Order", "level", "()Lcorro/core/Level;"⟩ : MethodName)) (z := (⟨"corro/core/Order", "level", "()Lcorro/core/Level;"⟩ : MethodName)) hown (mvT hZ (wd_39 hw)) (mvT hZ (wd_40 hw)) (notFace_of_selects (args := #[]) (mvT hZ (wd_42 hw))) (mvT hZ (wd_42 hw)) (mvT hZ (wd_41 hw)) (by decide) (backOf (W := 0) (rmGlevel l Z a0 hw [] ob12 (.ref ob5) T372.heap n0 Zp372 f381 rfl) hZ (wd_43 hw) (wd_11 hw) (by decide) (by decide)) q382a q382c (g := (mkF m 268 #[.val (.int p0), .val (.long q1), .second, .val (.long q2), .second, .val (.int (0 : Int32)), .val (.int (1 : Int32)), .val (.int (1 : Int32)), .val (.int z8), .val (.ref ob5), .val (.ref ob7), .val (.ref ob9), .val (.ref ob12), .val (.ref ob18), .val (.ref t14), .val .null, .val (.int (1 : Int32))] [(.ref ob12)])) rfl (by rw [hml]; rfl) (Steps.refl _) (argsL := []) (rest := []) (lenOf pd_3 rfl) rfl (by show 2 * 0 + _ ≤ _; exact Nat.le_of_eq rfl) (hb hby at_268) (fun _ _ => ⟨rfl, hs380, (by decide : 5 + 0 ≤ _), (by decide : 40 + 0 ≤ _)⟩)
                  dsimp only [Pt.U, Pt.locs, Pt.cells, Pt.slots] at X382 l382 y382 z382 st382 hQ382
                  subst l382 y382 z382
                  obtain ⟨rfl, N382q, hs382⟩ := hQ382
                  have N382 := Fr.app N380 N382q
                  refine own_on st382 ?_
                  show own_G p e below Φ T382 (mkF m 271 #[.val (.int p0), .val (.long q1), .second, .val (.long q2), .second, .val (.int (0 : Int32)), .val (.int (1 : Int32)), .val (.int (1 : Int32)), .val (.int z8), .val (.ref ob5), .val (.ref ob7), .val (.ref ob9), .val (.ref ob12), .val (.ref ob18), .val (.ref t14), .val .null, .val (.int (1 : Int32))] [(.ref ob5)])
                  refine own_go (fun _ => XS.iload X382.here hx rfl (hb hby at_271) rfl) ?_
                  show own_G p e below Φ T382 (mkF m 273 #[.val (.int p0), .val (.long q1), .second, .val (.long q2), .second, .val (.int (0 : Int32)), .val (.int (1 : Int32)), .val (.int (1 : Int32)), .val (.int z8), .val (.ref ob5), .val (.ref ob7), .val (.ref ob9), .val (.ref ob12), .val (.ref ob18), .val (.ref t14), .val .null, .val (.int (1 : Int32))] [(.int (1 : Int32)), (.ref ob5)])
                  refine own_go (fun _ => XS.ifNo X382.here hx rfl (hb hby at_273) rfl (Jvm.Free.XT.i0_eq_f (by decide : ¬ ((1 : Int32) = (0 : Int32))))) ?_
                  show own_G p e below Φ T382 (mkF m 276 #[.val (.int p0), .val (.long q1), .second, .val (.long q2), .second, .val (.int (0 : Int32)), .val (.int (1 : Int32)), .val (.int (1 : Int32)), .val (.int z8), .val (.ref ob5), .val (.ref ob7), .val (.ref ob9), .val (.ref ob12), .val (.ref ob18), .val (.ref t14), .val .null, .val (.int (1 : Int32))] [(.ref ob5)])
                  refine own_go (fun _ => XS.aload X382.here hx rfl (hb hby at_276) rfl rfl) ?_
                  show own_G p e below Φ T382 (mkF m 278 #[.val (.int p0), .val (.long q1), .second, .val (.long q2), .second, .val (.int (0 : Int32)), .val (.int (1 : Int32)), .val (.int (1 : Int32)), .val (.int z8), .val (.ref ob5), .val (.ref ob7), .val (.ref ob9), .val (.ref ob12), .val (.ref ob18), .val (.ref t14), .val .null, .val (.int (1 : Int32))] [(.ref ob5), (.ref ob5)])
                  refine own_go (fun _ => XS.goto X382.here hx rfl (pc0 := 278) (pc' := 282) rfl (hb hby at_278) (by decide) (by decide)) ?_
                  show own_G p e below Φ T382 (mkF m 282 #[.val (.int p0), .val (.long q1), .second, .val (.long q2), .second, .val (.int (0 : Int32)), .val (.int (1 : Int32)), .val (.int (1 : Int32)), .val (.int z8), .val (.ref ob5), .val (.ref ob7), .val (.ref ob9), .val (.ref ob12), .val (.ref ob18), .val (.ref t14), .val .null, .val (.int (1 : Int32))] [(.ref ob5), (.ref ob5)])
                  refine own_go (fun _ => Jvm.RoadKit.acmp (g := (mkF m 282 #[.val (.int p0), .val (.long q1), .second, .val (.long q2), .second, .val (.int (0 : Int32)), .val (.int (1 : Int32)), .val (.int (1 : Int32)), .val (.int z8), .val (.ref ob5), .val (.ref ob7), .val (.ref ob9), .val (.ref ob12), .val (.ref ob18), .val (.ref t14), .val .null, .val (.int (1 : Int32))] [(.ref ob5), (.ref ob5)])) X382 hx rfl rfl rfl (pc0 := 282) (pc' := 285) (same := true) rfl (hb hby at_282) rfl (decide_eq_true rfl) (by decide) (by decide)) ?_
                  show own_G p e below Φ T382 (mkF m 285 #[.val (.int p0), .val (.long q1), .second, .val (.long q2), .second, .val (.int (0 : Int32)), .val (.int (1 : Int32)), .val (.int (1 : Int32)), .val (.int z8), .val (.ref ob5), .val (.ref ob7), .val (.ref ob9), .val (.ref ob12), .val (.ref ob18), .val (.ref t14), .val .null, .val (.int (1 : Int32))] [])
                  refine own_go (fun _ => XS.iconst X382.here hx rfl (hb hby at_285)) ?_
                  show own_G p e below Φ T382 (mkF m 286 #[.val (.int p0), .val (.long q1), .second, .val (.long q2), .second, .val (.int (0 : Int32)), .val (.int (1 : Int32)), .val (.int (1 : Int32)), .val (.int z8), .val (.ref ob5), .val (.ref ob7), .val (.ref ob9), .val (.ref ob12), .val (.ref ob18), .val (.ref t14), .val .null, .val (.int (1 : Int32))] [(.int (1 : Int32))])
                  refine own_go (fun _ => XS.goto X382.here hx rfl (pc0 := 286) (pc' := 290) rfl (hb hby at_286) (by decide) (by decide)) ?_
                  show own_G p e below Φ T382 (mkF m 290 #[.val (.int p0), .val (.long q1), .second, .val (.long q2), .second, .val (.int (0 : Int32)), .val (.int (1 : Int32)), .val (.int (1 : Int32)), .val (.int z8), .val (.ref ob5), .val (.ref ob7), .val (.ref ob9), .val (.ref ob12), .val (.ref ob18), .val (.ref t14), .val .null, .val (.int (1 : Int32))] [(.int (1 : Int32))])
                  refine own_go (fun _ => XS.istore X382.here hx rfl (hb hby at_290) rfl (l' := #[.val (.int p0), .val (.long q1), .second, .val (.long q2), .second, .val (.int (0 : Int32)), .val (.int (1 : Int32)), .val (.int (1 : Int32)), .val (.int z8), .val (.ref ob5), .val (.ref ob7), .val (.ref ob9), .val (.ref ob12), .val (.ref ob18), .val (.ref t14), .val .null, .val (.int (1 : Int32))]) rfl) ?_
                  show own_G p e below Φ T382 (mkF m 292 #[.val (.int p0), .val (.long q1), .second, .val (.long q2), .second, .val (.int (0 : Int32)), .val (.int (1 : Int32)), .val (.int (1 : Int32)), .val (.int z8), .val (.ref ob5), .val (.ref ob7), .val (.ref ob9), .val (.ref ob12), .val (.ref ob18), .val (.ref t14), .val .null, .val (.int (1 : Int32))] [])
                  refine own_go (fun _ => XS.iload X382.here hx rfl (hb hby at_292) rfl) ?_
                  show own_G p e below Φ T382 (mkF m 294 #[.val (.int p0), .val (.long q1), .second, .val (.long q2), .second, .val (.int (0 : Int32)), .val (.int (1 : Int32)), .val (.int (1 : Int32)), .val (.int z8), .val (.ref ob5), .val (.ref ob7), .val (.ref ob9), .val (.ref ob12), .val (.ref ob18), .val (.ref t14), .val .null, .val (.int (1 : Int32))] [(.int (1 : Int32))])
                  refine own_go (fun _ => XS.ifNo X382.here hx rfl (hb hby at_294) rfl (Jvm.Free.XT.i0_eq_f (by decide : ¬ ((1 : Int32) = (0 : Int32))))) ?_
                  show own_G p e below Φ T382 (mkF m 297 #[.val (.int p0), .val (.long q1), .second, .val (.long q2), .second, .val (.int (0 : Int32)), .val (.int (1 : Int32)), .val (.int (1 : Int32)), .val (.int z8), .val (.ref ob5), .val (.ref ob7), .val (.ref ob9), .val (.ref ob12), .val (.ref ob18), .val (.ref t14), .val .null, .val (.int (1 : Int32))] [])
                  refine own_go (fun _ => XS.aload X382.here hx rfl (hb hby at_297) rfl rfl) ?_
                  show own_G p e below Φ T382 (mkF m 299 #[.val (.int p0), .val (.long q1), .second, .val (.long q2), .second, .val (.int (0 : Int32)), .val (.int (1 : Int32)), .val (.int (1 : Int32)), .val (.int z8), .val (.ref ob5), .val (.ref ob7), .val (.ref ob9), .val (.ref ob12), .val (.ref ob18), .val (.ref t14), .val .null, .val (.int (1 : Int32))] [(.ref ob18)])
                  have f383 : Fld Z T363.heap ob18 "corro/core/Order" "previous" "Lcorro/core/Order;" (.ref ob9) := p262_2.keep Kq363 (ninS (Ne.symm ne_ob12_ob18) nin0)
                  have f384 : Fld Z T372.heap ob18 "corro/core/Order" "previous" "Lcorro/core/Order;" (.ref ob9) := f383.keep Kq372 (ninS (Ne.symm ne_ob9_ob18) nin0)
                  have f386 : Exa Z T363.heap ob18 "corro/core/Order" := p262_0.keep Kq363
                  have f387 : Exa Z T372.heap ob18 "corro/core/Order" := f386.keep Kq372
                  obtain ⟨cq385, kq385, q385a, q385b, q385c⟩ := isOf hZ hs382 f387
                  obtain ⟨_, _, ⟨T385, zL385, zk385, zn385⟩, -, X385, ⟨Lc385, hQ385, l385, y385, z385⟩, st385⟩ := X382.virtualBack hx (y := (⟨"corro/core/Order", "previous", "()Lcorro/core/Order;"⟩ : MethodName)) (z := (⟨"corro/core/Order", "previous", "()Lcorro/core/Order;"⟩ : MethodName)) hown (mvT hZ (wd_44 hw)) (mvT hZ (wd_45 hw)) (notFace_of_selects (args := #[]) (mvT hZ (wd_47 hw))) (mvT hZ (wd_47 hw)) (mvT hZ (wd_46 hw)) (by decide) (backOf (W := 0) (rmGprevious l Z a0 hw [] ob18 (.ref ob9) T372.heap n0 Zp372 f384 rfl) hZ (wd_48 hw) (wd_11 hw) (by decide) (by decide)) q385a q385c (g := (mkF m 299 #[.val (.int p0), .val (.long q1), .second, .val (.long q2), .second, .val (.int (0 : Int32)), .val (.int (1 : Int32)), .val (.int (1 : Int32)), .val (.int z8), .val (.ref ob5), .val (.ref ob7), .val (.ref ob9), .val (.ref ob12), .val (.ref ob18), .val (.ref t14), .val .null, .val (.int (1 : Int32))] [(.ref ob18)])) rfl (by rw [hml]; rfl) (Steps.refl _) (argsL := []) (rest := []) (lenOf pd_4 rfl) rfl (by show 2 * 0 + _ ≤ _; exact Nat.le_of_eq rfl) (hb hby at_299) (fun _ _ => ⟨rfl, hs382, (by decide : 5 + 0 ≤ _), (by decide : 40 + 0 ≤ _)⟩)
                  dsimp only [Pt.U, Pt.locs, Pt.cells, Pt.slots] at X385 l385 y385 z385 st385 hQ385
                  subst l385 y385 z385
                  obtain ⟨rfl, N385q, hs385⟩ := hQ385
                  have N385 := Fr.app N382 N385q
                  refine own_on st385 ?_
                  show own_G p e below Φ T385 (mkF m 302 #[.val (.int p0), .val (.long q1), .second, .val (.long q2), .second, .val (.int (0 : Int32)), .val (.int (1 : Int32)), .val (.int (1 : Int32)), .val (.int z8), .val (.ref ob5), .val (.ref ob7), .val (.ref ob9), .val (.ref ob12), .val (.ref ob18), .val (.ref t14), .val .null, .val (.int (1 : Int32))] [(.ref ob9)])
                  refine own_go (fun _ => XS.iload X385.here hx rfl (hb hby at_302) rfl) ?_
                  show own_G p e below Φ T385 (mkF m 304 #[.val (.int p0), .val (.long q1), .second, .val (.long q2), .second, .val (.int (0 : Int32)), .val (.int (1 : Int32)), .val (.int (1 : Int32)), .val (.int z8), .val (.ref ob5), .val (.ref ob7), .val (.ref ob9), .val (.ref ob12), .val (.ref ob18), .val (.ref t14), .val .null, .val (.int (1 : Int32))] [(.int (1 : Int32)), (.ref ob9)])
                  refine own_go (fun _ => XS.ifNo X385.here hx rfl (hb hby at_304) rfl (Jvm.Free.XT.i0_eq_f (by decide : ¬ ((1 : Int32) = (0 : Int32))))) ?_
                  show own_G p e below Φ T385 (mkF m 307 #[.val (.int p0), .val (.long q1), .second, .val (.long q2), .second, .val (.int (0 : Int32)), .val (.int (1 : Int32)), .val (.int (1 : Int32)), .val (.int z8), .val (.ref ob5), .val (.ref ob7), .val (.ref ob9), .val (.ref ob12), .val (.ref ob18), .val (.ref t14), .val .null, .val (.int (1 : Int32))] [(.ref ob9)])
                  refine own_go (fun _ => XS.aload X385.here hx rfl (hb hby at_307) rfl rfl) ?_
                  show own_G p e below Φ T385 (mkF m 309 #[.val (.int p0), .val (.long q1), .second, .val (.long q2), .second, .val (.int (0 : Int32)), .val (.int (1 : Int32)), .val (.int (1 : Int32)), .val (.int z8), .val (.ref ob5), .val (.ref ob7), .val (.ref ob9), .val (.ref ob12), .val (.ref ob18), .val (.ref t14), .val .null, .val (.int (1 : Int32))] [(.ref ob9), (.ref ob9)])
                  refine own_go (fun _ => XS.goto X385.here hx rfl (pc0 := 309) (pc' := 313) rfl (hb hby at_309) (by decide) (by decide)) ?_
                  show own_G p e below Φ T385 (mkF m 313 #[.val (.int p0), .val (.long q1), .second, .val (.long q2), .second, .val (.int (0 : Int32)), .val (.int (1 : Int32)), .val (.int (1 : Int32)), .val (.int z8), .val (.ref ob5), .val (.ref ob7), .val (.ref ob9), .val (.ref ob12), .val (.ref ob18), .val (.ref t14), .val .null, .val (.int (1 : Int32))] [(.ref ob9), (.ref ob9)])
                  refine own_go (fun _ => Jvm.RoadKit.acmp (g := (mkF m 313 #[.val (.int p0), .val (.long q1), .second, .val (.long q2), .second, .val (.int (0 : Int32)), .val (.int (1 : Int32)), .val (.int (1 : Int32)), .val (.int z8), .val (.ref ob5), .val (.ref ob7), .val (.ref ob9), .val (.ref ob12), .val (.ref ob18), .val (.ref t14), .val .null, .val (.int (1 : Int32))] [(.ref ob9), (.ref ob9)])) X385 hx rfl rfl rfl (pc0 := 313) (pc' := 316) (same := true) rfl (hb hby at_313) rfl (decide_eq_true rfl) (by decide) (by decide)) ?_
                  show own_G p e below Φ T385 (mkF m 316 #[.val (.int p0), .val (.long q1), .second, .val (.long q2), .second, .val (.int (0 : Int32)), .val (.int (1 : Int32)), .val (.int (1 : Int32)), .val (.int z8), .val (.ref ob5), .val (.ref ob7), .val (.ref ob9), .val (.ref ob12), .val (.ref ob18), .val (.ref t14), .val .null, .val (.int (1 : Int32))] [])
                  refine own_go (fun _ => XS.aload X385.here hx rfl (hb hby at_316) rfl rfl) ?_
                  show own_G p e below Φ T385 (mkF m 318 #[.val (.int p0), .val (.long q1), .second, .val (.long q2), .second, .val (.int (0 : Int32)), .val (.int (1 : Int32)), .val (.int (1 : Int32)), .val (.int z8), .val (.ref ob5), .val (.ref ob7), .val (.ref ob9), .val (.ref ob12), .val (.ref ob18), .val (.ref t14), .val .null, .val (.int (1 : Int32))] [(.ref ob18)])
                  have f388 : Fld Z T363.heap ob18 "corro/core/Order" "next" "Lcorro/core/Order;" .null := p262_3.keep Kq363 (ninS (Ne.symm ne_ob12_ob18) nin0)
                  have f389 : Fld Z T372.heap ob18 "corro/core/Order" "next" "Lcorro/core/Order;" .null := f388.keep Kq372 (ninS (Ne.symm ne_ob9_ob18) nin0)
                  obtain ⟨cq390, kq390, q390a, q390b, q390c⟩ := isOf hZ hs385 f387
                  obtain ⟨_, _, ⟨T390, zL390, zk390, zn390⟩, -, X390, ⟨Lc390, hQ390, l390, y390, z390⟩, st390⟩ := X385.virtualBack hx (y := (⟨"corro/core/Order", "next", "()Lcorro/core/Order;"⟩ : MethodName)) (z := (⟨"corro/core/Order", "next", "()Lcorro/core/Order;"⟩ : MethodName)) hown (mvT hZ (wd_49 hw)) (mvT hZ (wd_50 hw)) (notFace_of_selects (args := #[]) (mvT hZ (wd_52 hw))) (mvT hZ (wd_52 hw)) (mvT hZ (wd_51 hw)) (by decide) (backOf (W := 0) (rmGnext l Z a0 hw [] ob18 .null T372.heap n0 Zp372 f389 rfl) hZ (wd_53 hw) (wd_11 hw) (by decide) (by decide)) q390a q390c (g := (mkF m 318 #[.val (.int p0), .val (.long q1), .second, .val (.long q2), .second, .val (.int (0 : Int32)), .val (.int (1 : Int32)), .val (.int (1 : Int32)), .val (.int z8), .val (.ref ob5), .val (.ref ob7), .val (.ref ob9), .val (.ref ob12), .val (.ref ob18), .val (.ref t14), .val .null, .val (.int (1 : Int32))] [(.ref ob18)])) rfl (by rw [hml]; rfl) (Steps.refl _) (argsL := []) (rest := []) (lenOf pd_4 rfl) rfl (by show 2 * 0 + _ ≤ _; exact Nat.le_of_eq rfl) (hb hby at_318) (fun _ _ => ⟨rfl, hs385, (by decide : 5 + 0 ≤ _), (by decide : 40 + 0 ≤ _)⟩)
                  dsimp only [Pt.U, Pt.locs, Pt.cells, Pt.slots] at X390 l390 y390 z390 st390 hQ390
                  subst l390 y390 z390
                  obtain ⟨rfl, N390q, hs390⟩ := hQ390
                  have N390 := Fr.app N385 N390q
                  refine own_on st390 ?_
                  show own_G p e below Φ T390 (mkF m 321 #[.val (.int p0), .val (.long q1), .second, .val (.long q2), .second, .val (.int (0 : Int32)), .val (.int (1 : Int32)), .val (.int (1 : Int32)), .val (.int z8), .val (.ref ob5), .val (.ref ob7), .val (.ref ob9), .val (.ref ob12), .val (.ref ob18), .val (.ref t14), .val .null, .val (.int (1 : Int32))] [.null])
                  refine own_go (fun _ => XS.ifnonnullNo X390.here hx rfl (hb hby at_321) rfl) ?_
                  show own_G p e below Φ T390 (mkF m 324 #[.val (.int p0), .val (.long q1), .second, .val (.long q2), .second, .val (.int (0 : Int32)), .val (.int (1 : Int32)), .val (.int (1 : Int32)), .val (.int z8), .val (.ref ob5), .val (.ref ob7), .val (.ref ob9), .val (.ref ob12), .val (.ref ob18), .val (.ref t14), .val .null, .val (.int (1 : Int32))] [])
                  refine own_go (fun _ => XS.iconst X390.here hx rfl (hb hby at_324)) ?_
                  show own_G p e below Φ T390 (mkF m 325 #[.val (.int p0), .val (.long q1), .second, .val (.long q2), .second, .val (.int (0 : Int32)), .val (.int (1 : Int32)), .val (.int (1 : Int32)), .val (.int z8), .val (.ref ob5), .val (.ref ob7), .val (.ref ob9), .val (.ref ob12), .val (.ref ob18), .val (.ref t14), .val .null, .val (.int (1 : Int32))] [(.int (1 : Int32))])
                  refine own_go (fun _ => XS.goto X390.here hx rfl (pc0 := 325) (pc' := 329) rfl (hb hby at_325) (by decide) (by decide)) ?_
                  show own_G p e below Φ T390 (mkF m 329 #[.val (.int p0), .val (.long q1), .second, .val (.long q2), .second, .val (.int (0 : Int32)), .val (.int (1 : Int32)), .val (.int (1 : Int32)), .val (.int z8), .val (.ref ob5), .val (.ref ob7), .val (.ref ob9), .val (.ref ob12), .val (.ref ob18), .val (.ref t14), .val .null, .val (.int (1 : Int32))] [(.int (1 : Int32))])
                  refine own_go (fun _ => XS.istore X390.here hx rfl (hb hby at_329) rfl (l' := #[.val (.int p0), .val (.long q1), .second, .val (.long q2), .second, .val (.int (0 : Int32)), .val (.int (1 : Int32)), .val (.int (1 : Int32)), .val (.int z8), .val (.ref ob5), .val (.ref ob7), .val (.ref ob9), .val (.ref ob12), .val (.ref ob18), .val (.ref t14), .val .null, .val (.int (1 : Int32))]) rfl) ?_
                  show own_G p e below Φ T390 (mkF m 331 #[.val (.int p0), .val (.long q1), .second, .val (.long q2), .second, .val (.int (0 : Int32)), .val (.int (1 : Int32)), .val (.int (1 : Int32)), .val (.int z8), .val (.ref ob5), .val (.ref ob7), .val (.ref ob9), .val (.ref ob12), .val (.ref ob18), .val (.ref t14), .val .null, .val (.int (1 : Int32))] [])
                  refine own_go (fun _ => XS.iload X390.here hx rfl (hb hby at_331) rfl) ?_
                  show own_G p e below Φ T390 (mkF m 333 #[.val (.int p0), .val (.long q1), .second, .val (.long q2), .second, .val (.int (0 : Int32)), .val (.int (1 : Int32)), .val (.int (1 : Int32)), .val (.int z8), .val (.ref ob5), .val (.ref ob7), .val (.ref ob9), .val (.ref ob12), .val (.ref ob18), .val (.ref t14), .val .null, .val (.int (1 : Int32))] [(.int (1 : Int32))])
                  refine own_go (fun _ => XS.ifNo X390.here hx rfl (hb hby at_333) rfl (Jvm.Free.XT.i0_eq_f (by decide : ¬ ((1 : Int32) = (0 : Int32))))) ?_
                  show own_G p e below Φ T390 (mkF m 336 #[.val (.int p0), .val (.long q1), .second, .val (.long q2), .second, .val (.int (0 : Int32)), .val (.int (1 : Int32)), .val (.int (1 : Int32)), .val (.int z8), .val (.ref ob5), .val (.ref ob7), .val (.ref ob9), .val (.ref ob12), .val (.ref ob18), .val (.ref t14), .val .null, .val (.int (1 : Int32))] [])
                  refine own_go (fun _ => XS.aload X390.here hx rfl (hb hby at_336) rfl rfl) ?_
                  show own_G p e below Φ T390 (mkF m 338 #[.val (.int p0), .val (.long q1), .second, .val (.long q2), .second, .val (.int (0 : Int32)), .val (.int (1 : Int32)), .val (.int (1 : Int32)), .val (.int z8), .val (.ref ob5), .val (.ref ob7), .val (.ref ob9), .val (.ref ob12), .val (.ref ob18), .val (.ref t14), .val .null, .val (.int (1 : Int32))] [(.ref ob9)])
                  obtain ⟨cq391, kq391, q391a, q391b, q391c⟩ := isOf hZ hs390 p372_0
                  obtain ⟨_, _, ⟨T391, zL391, zk391, zn391⟩, -, X391, ⟨Lc391, hQ391, l391, y391, z391⟩, st391⟩ := X390.virtualBack hx (y := (⟨"corro/core/Order", "quantity", "()J"⟩ : MethodName)) (z := (⟨"corro/core/Order", "quantity", "()J"⟩ : MethodName)) hown (mvT hZ (wd_54 hw)) (mvT hZ (wd_55 hw)) (notFace_of_selects (args := #[]) (mvT hZ (wd_57 hw))) (mvT hZ (wd_57 hw)) (mvT hZ (wd_56 hw)) (by decide) (backOf (W := 0) (rmGquantity l Z a0 hw [] ob9 q1 T372.heap n0 Zp372 p372_4) hZ (wd_58 hw) (wd_11 hw) (by decide) (by decide)) q391a q391c (g := (mkF m 338 #[.val (.int p0), .val (.long q1), .second, .val (.long q2), .second, .val (.int (0 : Int32)), .val (.int (1 : Int32)), .val (.int (1 : Int32)), .val (.int z8), .val (.ref ob5), .val (.ref ob7), .val (.ref ob9), .val (.ref ob12), .val (.ref ob18), .val (.ref t14), .val .null, .val (.int (1 : Int32))] [(.ref ob9)])) rfl (by rw [hml]; rfl) (Steps.refl _) (argsL := []) (rest := []) (lenOf pd_5 rfl) rfl (by show 2 * 0 + _ ≤ _; exact Nat.le_of_eq rfl) (hb hby at_338) (fun _ _ => ⟨rfl, hs390, (by decide : 5 + 0 ≤ _), (by decide : 40 + 0 ≤ _)⟩)
                  dsimp only [Pt.U, Pt.locs, Pt.cells, Pt.slots] at X391 l391 y391 z391 st391 hQ391
                  subst l391 y391 z391
                  obtain ⟨rfl, N391q, hs391⟩ := hQ391
                  have N391 := Fr.app N390 N391q
                  refine own_on st391 ?_
                  show own_G p e below Φ T391 (mkF m 341 #[.val (.int p0), .val (.long q1), .second, .val (.long q2), .second, .val (.int (0 : Int32)), .val (.int (1 : Int32)), .val (.int (1 : Int32)), .val (.int z8), .val (.ref ob5), .val (.ref ob7), .val (.ref ob9), .val (.ref ob12), .val (.ref ob18), .val (.ref t14), .val .null, .val (.int (1 : Int32))] [(.long q1)])
                  refine own_go (fun _ => XS.lloadN X391.here hx rfl (hb hby at_341) rfl) ?_
                  show own_G p e below Φ T391 (mkF m 342 #[.val (.int p0), .val (.long q1), .second, .val (.long q2), .second, .val (.int (0 : Int32)), .val (.int (1 : Int32)), .val (.int (1 : Int32)), .val (.int z8), .val (.ref ob5), .val (.ref ob7), .val (.ref ob9), .val (.ref ob12), .val (.ref ob18), .val (.ref t14), .val .null, .val (.int (1 : Int32))] [(.long q1), (.long q1)])
                  refine own_go (fun _ => XS.lcmp X391.here hx rfl (hb hby at_342) rfl) ?_
                  show own_G p e below Φ T391 (mkF m 343 #[.val (.int p0), .val (.long q1), .second, .val (.long q2), .second, .val (.int (0 : Int32)), .val (.int (1 : Int32)), .val (.int (1 : Int32)), .val (.int z8), .val (.ref ob5), .val (.ref ob7), .val (.ref ob9), .val (.ref ob12), .val (.ref ob18), .val (.ref t14), .val .null, .val (.int (1 : Int32))] [(.int (lcmpW q1 q1))])
                  refine own_go (fun _ => XS.ifNo X391.here hx rfl (hb hby at_343) rfl (Jvm.Free.XT.ll_ne_f (rfl : q1 = q1))) ?_
                  show own_G p e below Φ T391 (mkF m 346 #[.val (.int p0), .val (.long q1), .second, .val (.long q2), .second, .val (.int (0 : Int32)), .val (.int (1 : Int32)), .val (.int (1 : Int32)), .val (.int z8), .val (.ref ob5), .val (.ref ob7), .val (.ref ob9), .val (.ref ob12), .val (.ref ob18), .val (.ref t14), .val .null, .val (.int (1 : Int32))] [])
                  refine own_go (fun _ => XS.aload X391.here hx rfl (hb hby at_346) rfl rfl) ?_
                  show own_G p e below Φ T391 (mkF m 348 #[.val (.int p0), .val (.long q1), .second, .val (.long q2), .second, .val (.int (0 : Int32)), .val (.int (1 : Int32)), .val (.int (1 : Int32)), .val (.int z8), .val (.ref ob5), .val (.ref ob7), .val (.ref ob9), .val (.ref ob12), .val (.ref ob18), .val (.ref t14), .val .null, .val (.int (1 : Int32))] [(.ref ob9)])
                  obtain ⟨cq392, kq392, q392a, q392b, q392c⟩ := isOf hZ hs391 p372_0
                  obtain ⟨_, _, ⟨T392, zL392, zk392, zn392⟩, -, X392, ⟨Lc392, hQ392, l392, y392, z392⟩, st392⟩ := X391.virtualBack hx (y := (⟨"corro/core/Order", "price", "()J"⟩ : MethodName)) (z := (⟨"corro/core/Order", "price", "()J"⟩ : MethodName)) hown (mvT hZ (wd_59 hw)) (mvT hZ (wd_60 hw)) (notFace_of_selects (args := #[]) (mvT hZ (wd_62 hw))) (mvT hZ (wd_62 hw)) (mvT hZ (wd_61 hw)) (by decide) (backOf (W := 0) (rmGprice l Z a0 hw [] ob9 q2 T372.heap n0 Zp372 p372_5) hZ (wd_63 hw) (wd_11 hw) (by decide) (by decide)) q392a q392c (g := (mkF m 348 #[.val (.int p0), .val (.long q1), .second, .val (.long q2), .second, .val (.int (0 : Int32)), .val (.int (1 : Int32)), .val (.int (1 : Int32)), .val (.int z8), .val (.ref ob5), .val (.ref ob7), .val (.ref ob9), .val (.ref ob12), .val (.ref ob18), .val (.ref t14), .val .null, .val (.int (1 : Int32))] [(.ref ob9)])) rfl (by rw [hml]; rfl) (Steps.refl _) (argsL := []) (rest := []) (lenOf pd_5 rfl) rfl (by show 2 * 0 + _ ≤ _; exact Nat.le_of_eq rfl) (hb hby at_348) (fun _ _ => ⟨rfl, hs391, (by decide : 5 + 0 ≤ _), (by decide : 40 + 0 ≤ _)⟩)
                  dsimp only [Pt.U, Pt.locs, Pt.cells, Pt.slots] at X392 l392 y392 z392 st392 hQ392
                  subst l392 y392 z392
                  obtain ⟨rfl, N392q, hs392⟩ := hQ392
                  have N392 := Fr.app N391 N392q
                  refine own_on st392 ?_
                  show own_G p e below Φ T392 (mkF m 351 #[.val (.int p0), .val (.long q1), .second, .val (.long q2), .second, .val (.int (0 : Int32)), .val (.int (1 : Int32)), .val (.int (1 : Int32)), .val (.int z8), .val (.ref ob5), .val (.ref ob7), .val (.ref ob9), .val (.ref ob12), .val (.ref ob18), .val (.ref t14), .val .null, .val (.int (1 : Int32))] [(.long q2)])
                  refine own_go (fun _ => XS.lloadN X392.here hx rfl (hb hby at_351) rfl) ?_
                  show own_G p e below Φ T392 (mkF m 352 #[.val (.int p0), .val (.long q1), .second, .val (.long q2), .second, .val (.int (0 : Int32)), .val (.int (1 : Int32)), .val (.int (1 : Int32)), .val (.int z8), .val (.ref ob5), .val (.ref ob7), .val (.ref ob9), .val (.ref ob12), .val (.ref ob18), .val (.ref t14), .val .null, .val (.int (1 : Int32))] [(.long q2), (.long q2)])
                  refine own_go (fun _ => XS.lcmp X392.here hx rfl (hb hby at_352) rfl) ?_
                  show own_G p e below Φ T392 (mkF m 353 #[.val (.int p0), .val (.long q1), .second, .val (.long q2), .second, .val (.int (0 : Int32)), .val (.int (1 : Int32)), .val (.int (1 : Int32)), .val (.int z8), .val (.ref ob5), .val (.ref ob7), .val (.ref ob9), .val (.ref ob12), .val (.ref ob18), .val (.ref t14), .val .null, .val (.int (1 : Int32))] [(.int (lcmpW q2 q2))])
                  refine own_go (fun _ => XS.ifNo X392.here hx rfl (hb hby at_353) rfl (Jvm.Free.XT.ll_ne_f (rfl : q2 = q2))) ?_
                  show own_G p e below Φ T392 (mkF m 356 #[.val (.int p0), .val (.long q1), .second, .val (.long q2), .second, .val (.int (0 : Int32)), .val (.int (1 : Int32)), .val (.int (1 : Int32)), .val (.int z8), .val (.ref ob5), .val (.ref ob7), .val (.ref ob9), .val (.ref ob12), .val (.ref ob18), .val (.ref t14), .val .null, .val (.int (1 : Int32))] [])
                  refine own_go (fun _ => XS.iconst X392.here hx rfl (hb hby at_356)) ?_
                  show own_G p e below Φ T392 (mkF m 357 #[.val (.int p0), .val (.long q1), .second, .val (.long q2), .second, .val (.int (0 : Int32)), .val (.int (1 : Int32)), .val (.int (1 : Int32)), .val (.int z8), .val (.ref ob5), .val (.ref ob7), .val (.ref ob9), .val (.ref ob12), .val (.ref ob18), .val (.ref t14), .val .null, .val (.int (1 : Int32))] [(.int (1 : Int32))])
                  refine own_go (fun _ => XS.goto X392.here hx rfl (pc0 := 357) (pc' := 361) rfl (hb hby at_357) (by decide) (by decide)) ?_
                  show own_G p e below Φ T392 (mkF m 361 #[.val (.int p0), .val (.long q1), .second, .val (.long q2), .second, .val (.int (0 : Int32)), .val (.int (1 : Int32)), .val (.int (1 : Int32)), .val (.int z8), .val (.ref ob5), .val (.ref ob7), .val (.ref ob9), .val (.ref ob12), .val (.ref ob18), .val (.ref t14), .val .null, .val (.int (1 : Int32))] [(.int (1 : Int32))])
                  refine own_go (fun _ => XS.istore X392.here hx rfl (hb hby at_361) rfl (l' := #[.val (.int p0), .val (.long q1), .second, .val (.long q2), .second, .val (.int (0 : Int32)), .val (.int (1 : Int32)), .val (.int (1 : Int32)), .val (.int z8), .val (.ref ob5), .val (.ref ob7), .val (.ref ob9), .val (.ref ob12), .val (.ref ob18), .val (.ref t14), .val .null, .val (.int (1 : Int32))]) rfl) ?_
                  show own_G p e below Φ T392 (mkF m 363 #[.val (.int p0), .val (.long q1), .second, .val (.long q2), .second, .val (.int (0 : Int32)), .val (.int (1 : Int32)), .val (.int (1 : Int32)), .val (.int z8), .val (.ref ob5), .val (.ref ob7), .val (.ref ob9), .val (.ref ob12), .val (.ref ob18), .val (.ref t14), .val .null, .val (.int (1 : Int32))] [])
                  refine own_go (fun _ => XS.iload X392.here hx rfl (hb hby at_363) rfl) ?_
                  show own_G p e below Φ T392 (mkF m 365 #[.val (.int p0), .val (.long q1), .second, .val (.long q2), .second, .val (.int (0 : Int32)), .val (.int (1 : Int32)), .val (.int (1 : Int32)), .val (.int z8), .val (.ref ob5), .val (.ref ob7), .val (.ref ob9), .val (.ref ob12), .val (.ref ob18), .val (.ref t14), .val .null, .val (.int (1 : Int32))] [(.int (1 : Int32))])
                  rw [hΦ]
                  refine own_ret X392 (v := some (.int (1 : Int32))) (fun h => by rw [Bd.returns] at h; cases h) (BodyLoose.notSynchronized Bd) (fun fs hr => retN X392 hx (t := .boolean) Bd.returns (by simp) (hb hby at_365) hr) ?_ (by decide) (by decide)
                  rw [hs392]
                  exact ⟨rfl, N392⟩
                · show own_G p e below Φ T364 (mkF m 165 #[.val (.int p0), .val (.long q1), .second, .val (.long q2), .second, .val (.int (1 : Int32)), .val (.int (1 : Int32)), .val (.int (1 : Int32)), .val (.int z8), .val (.ref ob5), .val (.ref ob7), .val (.ref ob9), .val (.ref ob12), .val (.ref ob18), .val (.ref t14), .unset, .unset] [])
                  refine own_go (fun _ => XS.iload X364.here hx rfl (hb hby at_165) rfl) ?_
                  show own_G p e below Φ T364 (mkF m 167 #[.val (.int p0), .val (.long q1), .second, .val (.long q2), .second, .val (.int (1 : Int32)), .val (.int (1 : Int32)), .val (.int (1 : Int32)), .val (.int z8), .val (.ref ob5), .val (.ref ob7), .val (.ref ob9), .val (.ref ob12), .val (.ref ob18), .val (.ref t14), .unset, .unset] [(.int (1 : Int32))])
                  refine own_go (fun _ => XS.ifNo X364.here hx rfl (hb hby at_167) rfl (Jvm.Free.XT.i0_eq_f (by decide : ¬ ((1 : Int32) = (0 : Int32))))) ?_
                  show own_G p e below Φ T364 (mkF m 170 #[.val (.int p0), .val (.long q1), .second, .val (.long q2), .second, .val (.int (1 : Int32)), .val (.int (1 : Int32)), .val (.int (1 : Int32)), .val (.int z8), .val (.ref ob5), .val (.ref ob7), .val (.ref ob9), .val (.ref ob12), .val (.ref ob18), .val (.ref t14), .unset, .unset] [])
                  refine own_go (fun _ => XS.aload X364.here hx rfl (hb hby at_170) rfl rfl) ?_
                  show own_G p e below Φ T364 (mkF m 172 #[.val (.int p0), .val (.long q1), .second, .val (.long q2), .second, .val (.int (1 : Int32)), .val (.int (1 : Int32)), .val (.int (1 : Int32)), .val (.int z8), .val (.ref ob5), .val (.ref ob7), .val (.ref ob9), .val (.ref ob12), .val (.ref ob18), .val (.ref t14), .unset, .unset] [(.ref ob12)])
                  refine own_go (fun _ => XS.goto X364.here hx rfl (pc0 := 172) (pc' := 176) rfl (hb hby at_172) (by decide) (by decide)) ?_
                  show own_G p e below Φ T364 (mkF m 176 #[.val (.int p0), .val (.long q1), .second, .val (.long q2), .second, .val (.int (1 : Int32)), .val (.int (1 : Int32)), .val (.int (1 : Int32)), .val (.int z8), .val (.ref ob5), .val (.ref ob7), .val (.ref ob9), .val (.ref ob12), .val (.ref ob18), .val (.ref t14), .unset, .unset] [(.ref ob12)])
                  refine own_go (fun _ => XS.astore X364.here hx rfl (hb hby at_176) rfl rfl (l' := #[.val (.int p0), .val (.long q1), .second, .val (.long q2), .second, .val (.int (1 : Int32)), .val (.int (1 : Int32)), .val (.int (1 : Int32)), .val (.int z8), .val (.ref ob5), .val (.ref ob7), .val (.ref ob9), .val (.ref ob12), .val (.ref ob18), .val (.ref t14), .val (.ref ob12), .unset]) rfl) ?_
                  show own_G p e below Φ T364 (mkF m 178 #[.val (.int p0), .val (.long q1), .second, .val (.long q2), .second, .val (.int (1 : Int32)), .val (.int (1 : Int32)), .val (.int (1 : Int32)), .val (.int z8), .val (.ref ob5), .val (.ref ob7), .val (.ref ob9), .val (.ref ob12), .val (.ref ob18), .val (.ref t14), .val (.ref ob12), .unset] [])
                  refine own_go (fun _ => XS.aload X364.here hx rfl (hb hby at_178) rfl rfl) ?_
                  show own_G p e below Φ T364 (mkF m 180 #[.val (.int p0), .val (.long q1), .second, .val (.long q2), .second, .val (.int (1 : Int32)), .val (.int (1 : Int32)), .val (.int (1 : Int32)), .val (.int z8), .val (.ref ob5), .val (.ref ob7), .val (.ref ob9), .val (.ref ob12), .val (.ref ob18), .val (.ref t14), .val (.ref ob12), .unset] [(.ref ob9)])
                  refine own_go (fun _ => XS.aload X364.here hx rfl (hb hby at_180) rfl rfl) ?_
                  show own_G p e below Φ T364 (mkF m 182 #[.val (.int p0), .val (.long q1), .second, .val (.long q2), .second, .val (.int (1 : Int32)), .val (.int (1 : Int32)), .val (.int (1 : Int32)), .val (.int z8), .val (.ref ob5), .val (.ref ob7), .val (.ref ob9), .val (.ref ob12), .val (.ref ob18), .val (.ref t14), .val (.ref ob12), .unset] [(.ref t14), (.ref ob9)])
                  refine own_go (fun _ => XS.aload X364.here hx rfl (hb hby at_182) rfl rfl) ?_
                  show own_G p e below Φ T364 (mkF m 184 #[.val (.int p0), .val (.long q1), .second, .val (.long q2), .second, .val (.int (1 : Int32)), .val (.int (1 : Int32)), .val (.int (1 : Int32)), .val (.int z8), .val (.ref ob5), .val (.ref ob7), .val (.ref ob9), .val (.ref ob12), .val (.ref ob18), .val (.ref t14), .val (.ref ob12), .unset] [(.ref ob12), (.ref t14), (.ref ob9)])
                  have f393 : Exa Z T262.heap ob9 "corro/core/Order" := p255_0.keep Kq262
                  have f394 : Exa Z T363.heap ob9 "corro/core/Order" := f393.keep Kq363
                  have f395 : Fld Z T363.heap ob9 "corro/core/Order" "level" "Lcorro/core/Level;" (.ref ob5) := p262_4.keep Kq363 (ninS ne_ob9_ob12 nin0)
                  have f396 : Fld Z T363.heap ob9 "corro/core/Order" "previous" "Lcorro/core/Order;" .null := p262_5.keep Kq363 (ninS ne_ob9_ob12 nin0)
                  have f397 : Fld Z T363.heap ob9 "corro/core/Order" "next" "Lcorro/core/Order;" (.ref ob18) := p262_6.keep Kq363 (ninS ne_ob9_ob12 nin0)
                  have f398 : Fld Z T363.heap ob9 "corro/core/Order" "quantity" "J" (.long q1) := p262_9.keep Kq363 (ninS ne_ob9_ob12 nin0)
                  have f399 : Fld Z T363.heap ob9 "corro/core/Order" "price" "J" (.long q2) := p262_10.keep Kq363 (ninS ne_ob9_ob12 nin0)
                  obtain ⟨cq400, kq400, q400a, q400b, q400c⟩ := isOf hZ e364 f394
                  obtain ⟨_, _, ⟨T400, zL400, zk400, zn400⟩, -, X400, ⟨Lc400, hQ400, l400, y400, z400⟩, st400⟩ := X364.virtualBack hx (y := (⟨"corro/core/Order", "join", "(Lcorro/core/Level;Lcorro/core/Order;)V"⟩ : MethodName)) (z := (⟨"corro/core/Order", "join", "(Lcorro/core/Level;Lcorro/core/Order;)V"⟩ : MethodName)) hown (mvT hZ (wd_28 hw)) (mvT hZ (wd_29 hw)) (notFace_of_selects (args := #[]) (mvT hZ (wd_31 hw))) (mvT hZ (wd_31 hw)) (mvT hZ (wd_30 hw)) (by decide) (backOf (W := 0) (rmJO l Z a0 hw [] ob9 t14 ob12 (.ref ob5) .null (.ref ob18) (.ref ob5) .null .null q1 q2 q1 q2 T363.heap n0 Zp363 f394 p363_0 f395 f396 f397 f398 f399 p363_1 p363_2 p363_3 p363_4 p363_5 g_ob9 g_ob12 ne_ob9_ob12) hZ (wd_32 hw) (wd_11 hw) (by decide) (by decide)) q400a q400c (g := (mkF m 184 #[.val (.int p0), .val (.long q1), .second, .val (.long q2), .second, .val (.int (1 : Int32)), .val (.int (1 : Int32)), .val (.int (1 : Int32)), .val (.int z8), .val (.ref ob5), .val (.ref ob7), .val (.ref ob9), .val (.ref ob12), .val (.ref ob18), .val (.ref t14), .val (.ref ob12), .unset] [(.ref ob12), (.ref t14), (.ref ob9)])) rfl (by rw [hml]; rfl) (Steps.refl _) (argsL := [(.ref t14), (.ref ob12)]) (rest := []) (lenOf pd_2 rfl) rfl (by show 2 * 0 + _ ≤ _; exact Nat.le_of_eq rfl) (hb hby at_184) (fun _ _ => ⟨rfl, e364, (by decide : 5 + 0 ≤ _), (by decide : 40 + 0 ≤ _)⟩)
                  dsimp only [Pt.U, Pt.locs, Pt.cells, Pt.slots] at X400 l400 y400 z400 st400 hQ400
                  subst l400 y400 z400
                  obtain ⟨rfl, N400q, Kq400, p400_0, p400_1, p400_2, p400_3, p400_4, p400_5, p400_6, p400_7, p400_8, p400_9, p400_10⟩ := hQ400
                  have N400 := Fr.app N363 N400q
                  refine own_on st400 ?_
                  have Zp400 : n0 ≤ T400.heap.size := Nat.le_trans Zp363 Kq400.1
                  show own_G p e below Φ T400 (mkF m 187 #[.val (.int p0), .val (.long q1), .second, .val (.long q2), .second, .val (.int (1 : Int32)), .val (.int (1 : Int32)), .val (.int (1 : Int32)), .val (.int z8), .val (.ref ob5), .val (.ref ob7), .val (.ref ob9), .val (.ref ob12), .val (.ref ob18), .val (.ref t14), .val (.ref ob12), .unset] [])
                  refine own_go (fun _ => XS.aload X400.here hx rfl (hb hby at_187) rfl rfl) ?_
                  show own_G p e below Φ T400 (mkF m 189 #[.val (.int p0), .val (.long q1), .second, .val (.long q2), .second, .val (.int (1 : Int32)), .val (.int (1 : Int32)), .val (.int (1 : Int32)), .val (.int z8), .val (.ref ob5), .val (.ref ob7), .val (.ref ob9), .val (.ref ob12), .val (.ref ob18), .val (.ref t14), .val (.ref ob12), .unset] [(.ref ob9)])
                  obtain ⟨cq401, kq401, q401a, q401b, q401c⟩ := isOf hZ rfl p400_0
                  obtain ⟨_, _, ⟨T401, zL401, zk401, zn401⟩, -, X401, ⟨Lc401, hQ401, l401, y401, z401⟩, st401⟩ := X400.virtualBack hx (y := (⟨"corro/core/Order", "level", "()Lcorro/core/Level;"⟩ : MethodName)) (z := (⟨"corro/core/Order", "level", "()Lcorro/core/Level;"⟩ : MethodName)) hown (mvT hZ (wd_39 hw)) (mvT hZ (wd_40 hw)) (notFace_of_selects (args := #[]) (mvT hZ (wd_42 hw))) (mvT hZ (wd_42 hw)) (mvT hZ (wd_41 hw)) (by decide) (backOf (W := 0) (rmGlevel l Z a0 hw [] ob9 (.ref t14) T400.heap n0 Zp400 p400_1 rfl) hZ (wd_43 hw) (wd_11 hw) (by decide) (by decide)) q401a q401c (g := (mkF m 189 #[.val (.int p0), .val (.long q1), .second, .val (.long q2), .second, .val (.int (1 : Int32)), .val (.int (1 : Int32)), .val (.int (1 : Int32)), .val (.int z8), .val (.ref ob5), .val (.ref ob7), .val (.ref ob9), .val (.ref ob12), .val (.ref ob18), .val (.ref t14), .val (.ref ob12), .unset] [(.ref ob9)])) rfl (by rw [hml]; rfl) (Steps.refl _) (argsL := []) (rest := []) (lenOf pd_3 rfl) rfl (by show 2 * 0 + _ ≤ _; exact Nat.le_of_eq rfl) (hb hby at_189) (fun _ _ => ⟨rfl, rfl, (by decide : 5 + 0 ≤ _), (by decide : 40 + 0 ≤ _)⟩)
                  dsimp only [Pt.U, Pt.locs, Pt.cells, Pt.slots] at X401 l401 y401 z401 st401 hQ401
                  subst l401 y401 z401
                  obtain ⟨rfl, N401q, hs401⟩ := hQ401
                  have N401 := Fr.app N400 N401q
                  refine own_on st401 ?_
                  show own_G p e below Φ T401 (mkF m 192 #[.val (.int p0), .val (.long q1), .second, .val (.long q2), .second, .val (.int (1 : Int32)), .val (.int (1 : Int32)), .val (.int (1 : Int32)), .val (.int z8), .val (.ref ob5), .val (.ref ob7), .val (.ref ob9), .val (.ref ob12), .val (.ref ob18), .val (.ref t14), .val (.ref ob12), .unset] [(.ref t14)])
                  refine own_go (fun _ => XS.aload X401.here hx rfl (hb hby at_192) rfl rfl) ?_
                  show own_G p e below Φ T401 (mkF m 194 #[.val (.int p0), .val (.long q1), .second, .val (.long q2), .second, .val (.int (1 : Int32)), .val (.int (1 : Int32)), .val (.int (1 : Int32)), .val (.int z8), .val (.ref ob5), .val (.ref ob7), .val (.ref ob9), .val (.ref ob12), .val (.ref ob18), .val (.ref t14), .val (.ref ob12), .unset] [(.ref t14), (.ref t14)])
                  refine own_go (fun _ => Jvm.RoadKit.acmp (g := (mkF m 194 #[.val (.int p0), .val (.long q1), .second, .val (.long q2), .second, .val (.int (1 : Int32)), .val (.int (1 : Int32)), .val (.int (1 : Int32)), .val (.int z8), .val (.ref ob5), .val (.ref ob7), .val (.ref ob9), .val (.ref ob12), .val (.ref ob18), .val (.ref t14), .val (.ref ob12), .unset] [(.ref t14), (.ref t14)])) X401 hx rfl rfl rfl (pc0 := 194) (pc' := 197) (same := true) rfl (hb hby at_194) rfl (decide_eq_true rfl) (by decide) (by decide)) ?_
                  show own_G p e below Φ T401 (mkF m 197 #[.val (.int p0), .val (.long q1), .second, .val (.long q2), .second, .val (.int (1 : Int32)), .val (.int (1 : Int32)), .val (.int (1 : Int32)), .val (.int z8), .val (.ref ob5), .val (.ref ob7), .val (.ref ob9), .val (.ref ob12), .val (.ref ob18), .val (.ref t14), .val (.ref ob12), .unset] [])
                  refine own_go (fun _ => XS.aload X401.here hx rfl (hb hby at_197) rfl rfl) ?_
                  show own_G p e below Φ T401 (mkF m 199 #[.val (.int p0), .val (.long q1), .second, .val (.long q2), .second, .val (.int (1 : Int32)), .val (.int (1 : Int32)), .val (.int (1 : Int32)), .val (.int z8), .val (.ref ob5), .val (.ref ob7), .val (.ref ob9), .val (.ref ob12), .val (.ref ob18), .val (.ref t14), .val (.ref ob12), .unset] [(.ref ob9)])
                  obtain ⟨cq402, kq402, q402a, q402b, q402c⟩ := isOf hZ hs401 p400_0
                  obtain ⟨_, _, ⟨T402, zL402, zk402, zn402⟩, -, X402, ⟨Lc402, hQ402, l402, y402, z402⟩, st402⟩ := X401.virtualBack hx (y := (⟨"corro/core/Order", "previous", "()Lcorro/core/Order;"⟩ : MethodName)) (z := (⟨"corro/core/Order", "previous", "()Lcorro/core/Order;"⟩ : MethodName)) hown (mvT hZ (wd_44 hw)) (mvT hZ (wd_45 hw)) (notFace_of_selects (args := #[]) (mvT hZ (wd_47 hw))) (mvT hZ (wd_47 hw)) (mvT hZ (wd_46 hw)) (by decide) (backOf (W := 0) (rmGprevious l Z a0 hw [] ob9 (.ref ob12) T400.heap n0 Zp400 p400_2 rfl) hZ (wd_48 hw) (wd_11 hw) (by decide) (by decide)) q402a q402c (g := (mkF m 199 #[.val (.int p0), .val (.long q1), .second, .val (.long q2), .second, .val (.int (1 : Int32)), .val (.int (1 : Int32)), .val (.int (1 : Int32)), .val (.int z8), .val (.ref ob5), .val (.ref ob7), .val (.ref ob9), .val (.ref ob12), .val (.ref ob18), .val (.ref t14), .val (.ref ob12), .unset] [(.ref ob9)])) rfl (by rw [hml]; rfl) (Steps.refl _) (argsL := []) (rest := []) (lenOf pd_4 rfl) rfl (by show 2 * 0 + _ ≤ _; exact Nat.le_of_eq rfl) (hb hby at_199) (fun _ _ => ⟨rfl, hs401, (by decide : 5 + 0 ≤ _), (by decide : 40 + 0 ≤ _)⟩)
                  dsimp only [Pt.U, Pt.locs, Pt.cells, Pt.slots] at X402 l402 y402 z402 st402 hQ402
                  subst l402 y402 z402
                  obtain ⟨rfl, N402q, hs402⟩ := hQ402
                  have N402 := Fr.app N401 N402q
                  refine own_on st402 ?_
                  show own_G p e below Φ T402 (mkF m 202 #[.val (.int p0), .val (.long q1), .second, .val (.long q2), .second, .val (.int (1 : Int32)), .val (.int (1 : Int32)), .val (.int (1 : Int32)), .val (.int z8), .val (.ref ob5), .val (.ref ob7), .val (.ref ob9), .val (.ref ob12), .val (.ref ob18), .val (.ref t14), .val (.ref ob12), .unset] [(.ref ob12)])
                  refine own_go (fun _ => XS.aload X402.here hx rfl (hb hby at_202) rfl rfl) ?_
                  show own_G p e below Φ T402 (mkF m 204 #[.val (.int p0), .val (.long q1), .second, .val (.long q2), .second, .val (.int (1 : Int32)), .val (.int (1 : Int32)), .val (.int (1 : Int32)), .val (.int z8), .val (.ref ob5), .val (.ref ob7), .val (.ref ob9), .val (.ref ob12), .val (.ref ob18), .val (.ref t14), .val (.ref ob12), .unset] [(.ref ob12), (.ref ob12)])
                  refine own_go (fun _ => Jvm.RoadKit.acmp (g := (mkF m 204 #[.val (.int p0), .val (.long q1), .second, .val (.long q2), .second, .val (.int (1 : Int32)), .val (.int (1 : Int32)), .val (.int (1 : Int32)), .val (.int z8), .val (.ref ob5), .val (.ref ob7), .val (.ref ob9), .val (.ref ob12), .val (.ref ob18), .val (.ref t14), .val (.ref ob12), .unset] [(.ref ob12), (.ref ob12)])) X402 hx rfl rfl rfl (pc0 := 204) (pc' := 207) (same := true) rfl (hb hby at_204) rfl (decide_eq_true rfl) (by decide) (by decide)) ?_
                  show own_G p e below Φ T402 (mkF m 207 #[.val (.int p0), .val (.long q1), .second, .val (.long q2), .second, .val (.int (1 : Int32)), .val (.int (1 : Int32)), .val (.int (1 : Int32)), .val (.int z8), .val (.ref ob5), .val (.ref ob7), .val (.ref ob9), .val (.ref ob12), .val (.ref ob18), .val (.ref t14), .val (.ref ob12), .unset] [])
                  refine own_go (fun _ => XS.aload X402.here hx rfl (hb hby at_207) rfl rfl) ?_
                  show own_G p e below Φ T402 (mkF m 209 #[.val (.int p0), .val (.long q1), .second, .val (.long q2), .second, .val (.int (1 : Int32)), .val (.int (1 : Int32)), .val (.int (1 : Int32)), .val (.int z8), .val (.ref ob5), .val (.ref ob7), .val (.ref ob9), .val (.ref ob12), .val (.ref ob18), .val (.ref t14), .val (.ref ob12), .unset] [(.ref ob9)])
                  obtain ⟨cq403, kq403, q403a, q403b, q403c⟩ := isOf hZ hs402 p400_0
                  obtain ⟨_, _, ⟨T403, zL403, zk403, zn403⟩, -, X403, ⟨Lc403, hQ403, l403, y403, z403⟩, st403⟩ := X402.virtualBack hx (y := (⟨"corro/core/Order", "next", "()Lcorro/core/Order;"⟩ : MethodName)) (z := (⟨"corro/core/Order", "next", "()Lcorro/core/Order;"⟩ : MethodName)) hown (mvT hZ (wd_49 hw)) (mvT hZ (wd_50 hw)) (notFace_of_selects (args := #[]) (mvT hZ (wd_52 hw))) (mvT hZ (wd_52 hw)) (mvT hZ (wd_51 hw)) (by decide) (backOf (W := 0) (rmGnext l Z a0 hw [] ob9 .null T400.heap n0 Zp400 p400_3 rfl) hZ (wd_53 hw) (wd_11 hw) (by decide) (by decide)) q403a q403c (g := (mkF m 209 #[.val (.int p0), .val (.long q1), .second, .val (.long q2), .second, .val (.int (1 : Int32)), .val (.int (1 : Int32)), .val (.int (1 : Int32)), .val (.int z8), .val (.ref ob5), .val (.ref ob7), .val (.ref ob9), .val (.ref ob12), .val (.ref ob18), .val (.ref t14), .val (.ref ob12), .unset] [(.ref ob9)])) rfl (by rw [hml]; rfl) (Steps.refl _) (argsL := []) (rest := []) (lenOf pd_4 rfl) rfl (by show 2 * 0 + _ ≤ _; exact Nat.le_of_eq rfl) (hb hby at_209) (fun _ _ => ⟨rfl, hs402, (by decide : 5 + 0 ≤ _), (by decide : 40 + 0 ≤ _)⟩)
                  dsimp only [Pt.U, Pt.locs, Pt.cells, Pt.slots] at X403 l403 y403 z403 st403 hQ403
                  subst l403 y403 z403
                  obtain ⟨rfl, N403q, hs403⟩ := hQ403
                  have N403 := Fr.app N402 N403q
                  refine own_on st403 ?_
                  show own_G p e below Φ T403 (mkF m 212 #[.val (.int p0), .val (.long q1), .second, .val (.long q2), .second, .val (.int (1 : Int32)), .val (.int (1 : Int32)), .val (.int (1 : Int32)), .val (.int z8), .val (.ref ob5), .val (.ref ob7), .val (.ref ob9), .val (.ref ob12), .val (.ref ob18), .val (.ref t14), .val (.ref ob12), .unset] [.null])
                  refine own_go (fun _ => XS.ifnonnullNo X403.here hx rfl (hb hby at_212) rfl) ?_
                  show own_G p e below Φ T403 (mkF m 215 #[.val (.int p0), .val (.long q1), .second, .val (.long q2), .second, .val (.int (1 : Int32)), .val (.int (1 : Int32)), .val (.int (1 : Int32)), .val (.int z8), .val (.ref ob5), .val (.ref ob7), .val (.ref ob9), .val (.ref ob12), .val (.ref ob18), .val (.ref t14), .val (.ref ob12), .unset] [])
                  refine own_go (fun _ => XS.iconst X403.here hx rfl (hb hby at_215)) ?_
                  show own_G p e below Φ T403 (mkF m 216 #[.val (.int p0), .val (.long q1), .second, .val (.long q2), .second, .val (.int (1 : Int32)), .val (.int (1 : Int32)), .val (.int (1 : Int32)), .val (.int z8), .val (.ref ob5), .val (.ref ob7), .val (.ref ob9), .val (.ref ob12), .val (.ref ob18), .val (.ref t14), .val (.ref ob12), .unset] [(.int (1 : Int32))])
                  refine own_go (fun _ => XS.goto X403.here hx rfl (pc0 := 216) (pc' := 220) rfl (hb hby at_216) (by decide) (by decide)) ?_
                  show own_G p e below Φ T403 (mkF m 220 #[.val (.int p0), .val (.long q1), .second, .val (.long q2), .second, .val (.int (1 : Int32)), .val (.int (1 : Int32)), .val (.int (1 : Int32)), .val (.int z8), .val (.ref ob5), .val (.ref ob7), .val (.ref ob9), .val (.ref ob12), .val (.ref ob18), .val (.ref t14), .val (.ref ob12), .unset] [(.int (1 : Int32))])
                  refine own_go (fun _ => XS.istore X403.here hx rfl (hb hby at_220) rfl (l' := #[.val (.int p0), .val (.long q1), .second, .val (.long q2), .second, .val (.int (1 : Int32)), .val (.int (1 : Int32)), .val (.int (1 : Int32)), .val (.int z8), .val (.ref ob5), .val (.ref ob7), .val (.ref ob9), .val (.ref ob12), .val (.ref ob18), .val (.ref t14), .val (.ref ob12), .val (.int (1 : Int32))]) rfl) ?_
                  show own_G p e below Φ T403 (mkF m 222 #[.val (.int p0), .val (.long q1), .second, .val (.long q2), .second, .val (.int (1 : Int32)), .val (.int (1 : Int32)), .val (.int (1 : Int32)), .val (.int z8), .val (.ref ob5), .val (.ref ob7), .val (.ref ob9), .val (.ref ob12), .val (.ref ob18), .val (.ref t14), .val (.ref ob12), .val (.int (1 : Int32))] [])
                  refine own_go (fun _ => XS.iload X403.here hx rfl (hb hby at_222) rfl) ?_
                  show own_G p e below Φ T403 (mkF m 224 #[.val (.int p0), .val (.long q1), .second, .val (.long q2), .second, .val (.int (1 : Int32)), .val (.int (1 : Int32)), .val (.int (1 : Int32)), .val (.int z8), .val (.ref ob5), .val (.ref ob7), .val (.ref ob9), .val (.ref ob12), .val (.ref ob18), .val (.ref t14), .val (.ref ob12), .val (.int (1 : Int32))] [(.int (1 : Int32))])
                  refine own_go (fun _ => XS.ifNo X403.here hx rfl (hb hby at_224) rfl (Jvm.Free.XT.i0_eq_f (by decide : ¬ ((1 : Int32) = (0 : Int32))))) ?_
                  show own_G p e below Φ T403 (mkF m 227 #[.val (.int p0), .val (.long q1), .second, .val (.long q2), .second, .val (.int (1 : Int32)), .val (.int (1 : Int32)), .val (.int (1 : Int32)), .val (.int z8), .val (.ref ob5), .val (.ref ob7), .val (.ref ob9), .val (.ref ob12), .val (.ref ob18), .val (.ref t14), .val (.ref ob12), .val (.int (1 : Int32))] [])
                  refine own_go (fun _ => XS.aload X403.here hx rfl (hb hby at_227) rfl rfl) ?_
                  show own_G p e below Φ T403 (mkF m 229 #[.val (.int p0), .val (.long q1), .second, .val (.long q2), .second, .val (.int (1 : Int32)), .val (.int (1 : Int32)), .val (.int (1 : Int32)), .val (.int z8), .val (.ref ob5), .val (.ref ob7), .val (.ref ob9), .val (.ref ob12), .val (.ref ob18), .val (.ref t14), .val (.ref ob12), .val (.int (1 : Int32))] [(.ref ob12)])
                  have f405 : Exa Z T400.heap ob12 "corro/core/Order" := p363_0.keep Kq400
                  obtain ⟨cq404, kq404, q404a, q404b, q404c⟩ := isOf hZ hs403 f405
                  obtain ⟨_, _, ⟨T404, zL404, zk404, zn404⟩, -, X404, ⟨Lc404, hQ404, l404, y404, z404⟩, st404⟩ := X403.virtualBack hx (y := (⟨"corro/core/Order", "next", "()Lcorro/core/Order;"⟩ : MethodName)) (z := (⟨"corro/core/Order", "next", "()Lcorro/core/Order;"⟩ : MethodName)) hown (mvT hZ (wd_49 hw)) (mvT hZ (wd_50 hw)) (notFace_of_selects (args := #[]) (mvT hZ (wd_52 hw))) (mvT hZ (wd_52 hw)) (mvT hZ (wd_51 hw)) (by decide) (backOf (W := 0) (rmGnext l Z a0 hw [] ob12 (.ref ob9) T400.heap n0 Zp400 p400_6 rfl) hZ (wd_53 hw) (wd_11 hw) (by decide) (by decide)) q404a q404c (g := (mkF m 229 #[.val (.int p0), .val (.long q1), .second, .val (.long q2), .second, .val (.int (1 : Int32)), .val (.int (1 : Int32)), .val (.int (1 : Int32)), .val (.int z8), .val (.ref ob5), .val (.ref ob7), .val (.ref ob9), .val (.ref ob12), .val (.ref ob18), .val (.ref t14), .val (.ref ob12), .val (.int (1 : Int32))] [(.ref ob12)])) rfl (by rw [hml]; rfl) (Steps.refl _) (argsL := []) (rest := []) (lenOf pd_4 rfl) rfl (by show 2 * 0 + _ ≤ _; exact Nat.le_of_eq rfl) (hb hby at_229) (fun _ _ => ⟨rfl, hs403, (by decide : 5 + 0 ≤ _), (by decide : 40 + 0 ≤ _)⟩)
                  dsimp only [Pt.U, Pt.locs, Pt.cells, Pt.slots] at X404 l404 y404 z404 st404 hQ404
                  subst l404 y404 z404
                  obtain ⟨rfl, N404q, hs404⟩ := hQ404
                  have N404 := Fr.app N403 N404q
                  refine own_on st404 ?_
                  show own_G p e below Φ T404 (mkF m 232 #[.val (.int p0), .val (.long q1), .second, .val (.long q2), .second, .val (.int (1 : Int32)), .val (.int (1 : Int32)), .val (.int (1 : Int32)), .val (.int z8), .val (.ref ob5), .val (.ref ob7), .val (.ref ob9), .val (.ref ob12), .val (.ref ob18), .val (.ref t14), .val (.ref ob12), .val (.int (1 : Int32))] [(.ref ob9)])
                  refine own_go (fun _ => XS.iload X404.here hx rfl (hb hby at_232) rfl) ?_
                  show own_G p e below Φ T404 (mkF m 234 #[.val (.int p0), .val (.long q1), .second, .val (.long q2), .second, .val (.int (1 : Int32)), .val (.int (1 : Int32)), .val (.int (1 : Int32)), .val (.int z8), .val (.ref ob5), .val (.ref ob7), .val (.ref ob9), .val (.ref ob12), .val (.ref ob18), .val (.ref t14), .val (.ref ob12), .val (.int (1 : Int32))] [(.int (1 : Int32)), (.ref ob9)])
                  refine own_go (fun _ => XS.ifNo X404.here hx rfl (hb hby at_234) rfl (Jvm.Free.XT.i0_eq_f (by decide : ¬ ((1 : Int32) = (0 : Int32))))) ?_
                  show own_G p e below Φ T404 (mkF m 237 #[.val (.int p0), .val (.long q1), .second, .val (.long q2), .second, .val (.int (1 : Int32)), .val (.int (1 : Int32)), .val (.int (1 : Int32)), .val (.int z8), .val (.ref ob5), .val (.ref ob7), .val (.ref ob9), .val (.ref ob12), .val (.ref ob18), .val (.ref t14), .val (.ref ob12), .val (.int (1 : Int32))] [(.ref ob9)])
                  refine own_go (fun _ => XS.aload X404.here hx rfl (hb hby at_237) rfl rfl) ?_
                  show own_G p e below Φ T404 (mkF m 239 #[.val (.int p0), .val (.long q1), .second, .val (.long q2), .second, .val (.int (1 : Int32)), .val (.int (1 : Int32)), .val (.int (1 : Int32)), .val (.int z8), .val (.ref ob5), .val (.ref ob7), .val (.ref ob9), .val (.ref ob12), .val (.ref ob18), .val (.ref t14), .val (.ref ob12), .val (.int (1 : Int32))] [(.ref ob9), (.ref ob9)])
                  refine own_go (fun _ => XS.goto X404.here hx rfl (pc0 := 239) (pc' := 243) rfl (hb hby at_239) (by decide) (by decide)) ?_
                  show own_G p e below Φ T404 (mkF m 243 #[.val (.int p0), .val (.long q1), .second, .val (.long q2), .second, .val (.int (1 : Int32)), .val (.int (1 : Int32)), .val (.int (1 : Int32)), .val (.int z8), .val (.ref ob5), .val (.ref ob7), .val (.ref ob9), .val (.ref ob12), .val (.ref ob18), .val (.ref t14), .val (.ref ob12), .val (.int (1 : Int32))] [(.ref ob9), (.ref ob9)])
                  refine own_go (fun _ => Jvm.RoadKit.acmp (g := (mkF m 243 #[.val (.int p0), .val (.long q1), .second, .val (.long q2), .second, .val (.int (1 : Int32)), .val (.int (1 : Int32)), .val (.int (1 : Int32)), .val (.int z8), .val (.ref ob5), .val (.ref ob7), .val (.ref ob9), .val (.ref ob12), .val (.ref ob18), .val (.ref t14), .val (.ref ob12), .val (.int (1 : Int32))] [(.ref ob9), (.ref ob9)])) X404 hx rfl rfl rfl (pc0 := 243) (pc' := 246) (same := true) rfl (hb hby at_243) rfl (decide_eq_true rfl) (by decide) (by decide)) ?_
                  show own_G p e below Φ T404 (mkF m 246 #[.val (.int p0), .val (.long q1), .second, .val (.long q2), .second, .val (.int (1 : Int32)), .val (.int (1 : Int32)), .val (.int (1 : Int32)), .val (.int z8), .val (.ref ob5), .val (.ref ob7), .val (.ref ob9), .val (.ref ob12), .val (.ref ob18), .val (.ref t14), .val (.ref ob12), .val (.int (1 : Int32))] [])
                  refine own_go (fun _ => XS.iconst X404.here hx rfl (hb hby at_246)) ?_
                  show own_G p e below Φ T404 (mkF m 247 #[.val (.int p0), .val (.long q1), .second, .val (.long q2), .second, .val (.int (1 : Int32)), .val (.int (1 : Int32)), .val (.int (1 : Int32)), .val (.int z8), .val (.ref ob5), .val (.ref ob7), .val (.ref ob9), .val (.ref ob12), .val (.ref ob18), .val (.ref t14), .val (.ref ob12), .val (.int (1 : Int32))] [(.int (1 : Int32))])
                  refine own_go (fun _ => XS.goto X404.here hx rfl (pc0 := 247) (pc' := 251) rfl (hb hby at_247) (by decide) (by decide)) ?_
                  show own_G p e below Φ T404 (mkF m 251 #[.val (.int p0), .val (.long q1), .second, .val (.long q2), .second, .val (.int (1 : Int32)), .val (.int (1 : Int32)), .val (.int (1 : Int32)), .val (.int z8), .val (.ref ob5), .val (.ref ob7), .val (.ref ob9), .val (.ref ob12), .val (.ref ob18), .val (.ref t14), .val (.ref ob12), .val (.int (1 : Int32))] [(.int (1 : Int32))])
                  refine own_go (fun _ => XS.istore X404.here hx rfl (hb hby at_251) rfl (l' := #[.val (.int p0), .val (.long q1), .second, .val (.long q2), .second, .val (.int (1 : Int32)), .val (.int (1 : Int32)), .val (.int (1 : Int32)), .val (.int z8), .val (.ref ob5), .val (.ref ob7), .val (.ref ob9), .val (.ref ob12), .val (.ref ob18), .val (.ref t14), .val (.ref ob12), .val (.int (1 : Int32))]) rfl) ?_
                  show own_G p e below Φ T404 (mkF m 253 #[.val (.int p0), .val (.long q1), .second, .val (.long q2), .second, .val (.int (1 : Int32)), .val (.int (1 : Int32)), .val (.int (1 : Int32)), .val (.int z8), .val (.ref ob5), .val (.ref ob7), .val (.ref ob9), .val (.ref ob12), .val (.ref ob18), .val (.ref t14), .val (.ref ob12), .val (.int (1 : Int32))] [])
                  refine own_go (fun _ => XS.iload X404.here hx rfl (hb hby at_253) rfl) ?_
                  show own_G p e below Φ T404 (mkF m 255 #[.val (.int p0), .val (.long q1), .second, .val (.long q2), .second, .val (.int (1 : Int32)), .val (.int (1 : Int32)), .val (.int (1 : Int32)), .val (.int z8), .val (.ref ob5), .val (.ref ob7), .val (.ref ob9), .val (.ref ob12), .val (.ref ob18), .val (.ref t14), .val (.ref ob12), .val (.int (1 : Int32))] [(.int (1 : Int32))])
                  refine own_go (fun _ => XS.ifNo X404.here hx rfl (hb hby at_255) rfl (Jvm.Free.XT.i0_eq_f (by decide : ¬ ((1 : Int32) = (0 : Int32))))) ?_
                  show own_G p e below Φ T404 (mkF m 258 #[.val (.int p0), .val (.long q1), .second, .val (.long q2), .second, .val (.int (1 : Int32)), .val (.int (1 : Int32)), .val (.int (1 : Int32)), .val (.int z8), .val (.ref ob5), .val (.ref ob7), .val (.ref ob9), .val (.ref ob12), .val (.ref ob18), .val (.ref t14), .val (.ref ob12), .val (.int (1 : Int32))] [])
                  refine own_go (fun _ => XS.aload X404.here hx rfl (hb hby at_258) rfl rfl) ?_
                  show own_G p e below Φ T404 (mkF m 260 #[.val (.int p0), .val (.long q1), .second, .val (.long q2), .second, .val (.int (1 : Int32)), .val (.int (1 : Int32)), .val (.int (1 : Int32)), .val (.int z8), .val (.ref ob5), .val (.ref ob7), .val (.ref ob9), .val (.ref ob12), .val (.ref ob18), .val (.ref t14), .val (.ref ob12), .val (.int (1 : Int32))] [(.ref ob12)])
                  obtain ⟨cq406, kq406, q406a, q406b, q406c⟩ := isOf hZ hs404 f405
                  obtain ⟨_, _, ⟨T406, zL406, zk406, zn406⟩, -, X406, ⟨Lc406, hQ406, l406, y406, z406⟩, st406⟩ := X404.virtualBack hx (y := (⟨"corro/core/Order", "previous", "()Lcorro/core/Order;"⟩ : MethodName)) (z := (⟨"corro/core/Order", "previous", "()Lcorro/core/Order;"⟩ : MethodName)) hown (mvT hZ (wd_44 hw)) (mvT hZ (wd_45 hw)) (notFace_of_selects (args := #[]) (mvT hZ (wd_47 hw))) (mvT hZ (wd_47 hw)) (mvT hZ (wd_46 hw)) (by decide) (backOf (W := 0) (rmGprevious l Z a0 hw [] ob12 .null T400.heap n0 Zp400 p400_5 rfl) hZ (wd_48 hw) (wd_11 hw) (by decide) (by decide)) q406a q406c (g := (mkF m 260 #[.val (.int p0), .val (.long q1), .second, .val (.long q2), .second, .val (.int (1 : Int32)), .val (.int (1 : Int32)), .val (.int (1 : Int32)), .val (.int z8), .val (.ref ob5), .val (.ref ob7), .val (.ref ob9), .val (.ref ob12), .val (.ref ob18), .val (.ref t14), .val (.ref ob12), .val (.int (1 : Int32))] [(.ref ob12)])) rfl (by rw [hml]; rfl) (Steps.refl _) (argsL := []) (rest := []) (lenOf pd_4 rfl) rfl (by show 2 * 0 + _ ≤ _; exact Nat.le_of_eq rfl) (hb hby at_260) (fun _ _ => ⟨rfl, hs404, (by decide : 5 + 0 ≤ _), (by decide : 40 + 0 ≤ _)⟩)
                  dsimp only [Pt.U, Pt.locs, Pt.cells, Pt.slots] at X406 l406 y406 z406 st406 hQ406
                  subst l406 y406 z406
                  obtain ⟨rfl, N406q, hs406⟩ := hQ406
                  have N406 := Fr.app N404 N406q
                  refine own_on st406 ?_
                  show own_G p e below Φ T406 (mkF m 263 #[.val (.int p0), .val (.long q1), .second, .val (.long q2), .second, .val (.int (1 : Int32)), .val (.int (1 : Int32)), .val (.int (1 : Int32)), .val (.int z8), .val (.ref ob5), .val (.ref ob7), .val (.ref ob9), .val (.ref ob12), .val (.ref ob18), .val (.ref t14), .val (.ref ob12), .val (.int (1 : Int32))] [.null])
                  refine own_go (fun _ => XS.ifnonnullNo X406.here hx rfl (hb hby at_263) rfl) ?_
                  show own_G p e below Φ T406 (mkF m 266 #[.val (.int p0), .val (.long q1), .second, .val (.long q2), .second, .val (.int (1 : Int32)), .val (.int (1 : Int32)), .val (.int (1 : Int32)), .val (.int z8), .val (.ref ob5), .val (.ref ob7), .val (.ref ob9), .val (.ref ob12), .val (.ref ob18), .val (.ref t14), .val (.ref ob12), .val (.int (1 : Int32))] [])
                  refine own_go (fun _ => XS.aload X406.here hx rfl (hb hby at_266) rfl rfl) ?_
                  show own_G p e below Φ T406 (mkF m 268 #[.val (.int p0), .val (.long q1), .second, .val (.long q2), .second, .val (.int (1 : Int32)), .val (.int (1 : Int32)), .val (.int (1 : Int32)), .val (.int z8), .val (.ref ob5), .val (.ref ob7), .val (.ref ob9), .val (.ref ob12), .val (.ref ob18), .val (.ref t14), .val (.ref ob12), .val (.int (1 : Int32))] [(.ref ob12)])
                  obtain ⟨cq407, kq407, q407a, q407b, q407c⟩ := isOf hZ hs406 f405
                  obtain ⟨_, _, ⟨T407, zL407, zk407, zn407⟩, -, X407, ⟨Lc407, hQ407, l407, y407, z407⟩, st407⟩ := X406.virtualBack hx (y := (⟨"corro/core/Order", "level", "()Lcorro/core/Level;"⟩ : MethodName)) (z := (⟨"corro/core/Order", "level", "()Lcorro/core/Level;"⟩ : MethodName)) hown (mvT hZ (wd_39 hw)) (mvT hZ (wd_40 hw)) (notFace_of_selects (args := #[]) (mvT hZ (wd_42 hw))) (mvT hZ (wd_42 hw)) (mvT hZ (wd_41 hw)) (by decide) (backOf (W := 0) (rmGlevel l Z a0 hw [] ob12 (.ref ob5) T400.heap n0 Zp400 p400_4 rfl) hZ (wd_43 hw) (wd_11 hw) (by decide) (by decide)) q407a q407c (g := (mkF m 268 #[.val (.int p0), .val (.long q1), .second, .val (.long q2), .second, .val (.int (1 : Int32)), .val (.int (1 : Int32)), .val (.int (1 : Int32)), .val (.int z8), .val (.ref ob5), .val (.ref ob7), .val (.ref ob9), .val (.ref ob12), .val (.ref ob18), .val (.ref t14), .val (.ref ob12), .val (.int (1 : Int32))] [(.ref ob12)])) rfl (by rw [hml]; rfl) (Steps.refl _) (argsL := []) (rest := []) (lenOf pd_3 rfl) rfl (by show 2 * 0 + _ ≤ _; exact Nat.le_of_eq rfl) (hb hby at_268) (fun _ _ => ⟨rfl, hs406, (by decide : 5 + 0 ≤ _), (by decide : 40 + 0 ≤ _)⟩)
                  dsimp only [Pt.U, Pt.locs, Pt.cells, Pt.slots] at X407 l407 y407 z407 st407 hQ407
                  subst l407 y407 z407
                  obtain ⟨rfl, N407q, hs407⟩ := hQ407
                  have N407 := Fr.app N406 N407q
                  refine own_on st407 ?_
                  show own_G p e below Φ T407 (mkF m 271 #[.val (.int p0), .val (.long q1), .second, .val (.long q2), .second, .val (.int (1 : Int32)), .val (.int (1 : Int32)), .val (.int (1 : Int32)), .val (.int z8), .val (.ref ob5), .val (.ref ob7), .val (.ref ob9), .val (.ref ob12), .val (.ref ob18), .val (.ref t14), .val (.ref ob12), .val (.int (1 : Int32))] [(.ref ob5)])
                  refine own_go (fun _ => XS.iload X407.here hx rfl (hb hby at_271) rfl) ?_
                  show own_G p e below Φ T407 (mkF m 273 #[.val (.int p0), .val (.long q1), .second, .val (.long q2), .second, .val (.int (1 : Int32)), .val (.int (1 : Int32)), .val (.int (1 : Int32)), .val (.int z8), .val (.ref ob5), .val (.ref ob7), .val (.ref ob9), .val (.ref ob12), .val (.ref ob18), .val (.ref t14), .val (.ref ob12), .val (.int (1 : Int32))] [(.int (1 : Int32)), (.ref ob5)])
                  refine own_go (fun _ => XS.ifNo X407.here hx rfl (hb hby at_273) rfl (Jvm.Free.XT.i0_eq_f (by decide : ¬ ((1 : Int32) = (0 : Int32))))) ?_
                  show own_G p e below Φ T407 (mkF m 276 #[.val (.int p0), .val (.long q1), .second, .val (.long q2), .second, .val (.int (1 : Int32)), .val (.int (1 : Int32)), .val (.int (1 : Int32)), .val (.int z8), .val (.ref ob5), .val (.ref ob7), .val (.ref ob9), .val (.ref ob12), .val (.ref ob18), .val (.ref t14), .val (.ref ob12), .val (.int (1 : Int32))] [(.ref ob5)])
                  refine own_go (fun _ => XS.aload X407.here hx rfl (hb hby at_276) rfl rfl) ?_
                  show own_G p e below Φ T407 (mkF m 278 #[.val (.int p0), .val (.long q1), .second, .val (.long q2), .second, .val (.int (1 : Int32)), .val (.int (1 : Int32)), .val (.int (1 : Int32)), .val (.int z8), .val (.ref ob5), .val (.ref ob7), .val (.ref ob9), .val (.ref ob12), .val (.ref ob18), .val (.ref t14), .val (.ref ob12), .val (.int (1 : Int32))] [(.ref ob5), (.ref ob5)])
                  refine own_go (fun _ => XS.goto X407.here hx rfl (pc0 := 278) (pc' := 282) rfl (hb hby at_278) (by decide) (by decide)) ?_
                  show own_G p e below Φ T407 (mkF m 282 #[.val (.int p0), .val (.long q1), .second, .val (.long q2), .second, .val (.int (1 : Int32)), .val (.int (1 : Int32)), .val (.int (1 : Int32)), .val (.int z8), .val (.ref ob5), .val (.ref ob7), .val (.ref ob9), .val (.ref ob12), .val (.ref ob18), .val (.ref t14), .val (.ref ob12), .val (.int (1 : Int32))] [(.ref ob5), (.ref ob5)])
                  refine own_go (fun _ => Jvm.RoadKit.acmp (g := (mkF m 282 #[.val (.int p0), .val (.long q1), .second, .val (.long q2), .second, .val (.int (1 : Int32)), .val (.int (1 : Int32)), .val (.int (1 : Int32)), .val (.int z8), .val (.ref ob5), .val (.ref ob7), .val (.ref ob9), .val (.ref ob12), .val (.ref ob18), .val (.ref t14), .val (.ref ob12), .val (.int (1 : Int32))] [(.ref ob5), (.ref ob5)])) X407 hx rfl rfl rfl (pc0 := 282) (pc' := 285) (same := true) rfl (hb hby at_282) rfl (decide_eq_true rfl) (by decide) (by decide)) ?_
                  show own_G p e below Φ T407 (mkF m 285 #[.val (.int p0), .val (.long q1), .second, .val (.long q2), .second, .val (.int (1 : Int32)), .val (.int (1 : Int32)), .val (.int (1 : Int32)), .val (.int z8), .val (.ref ob5), .val (.ref ob7), .val (.ref ob9), .val (.ref ob12), .val (.ref ob18), .val (.ref t14), .val (.ref ob12), .val (.int (1 : Int32))] [])
                  refine own_go (fun _ => XS.iconst X407.here hx rfl (hb hby at_285)) ?_
                  show own_G p e below Φ T407 (mkF m 286 #[.val (.int p0), .val (.long q1), .second, .val (.long q2), .second, .val (.int (1 : Int32)), .val (.int (1 : Int32)), .val (.int (1 : Int32)), .val (.int z8), .val (.ref ob5), .val (.ref ob7), .val (.ref ob9), .val (.ref ob12), .val (.ref ob18), .val (.ref t14), .val (.ref ob12), .val (.int (1 : Int32))] [(.int (1 : Int32))])
                  refine own_go (fun _ => XS.goto X407.here hx rfl (pc0 := 286) (pc' := 290) rfl (hb hby at_286) (by decide) (by decide)) ?_
                  show own_G p e below Φ T407 (mkF m 290 #[.val (.int p0), .val (.long q1), .second, .val (.long q2), .second, .val (.int (1 : Int32)), .val (.int (1 : Int32)), .val (.int (1 : Int32)), .val (.int z8), .val (.ref ob5), .val (.ref ob7), .val (.ref ob9), .val (.ref ob12), .val (.ref ob18), .val (.ref t14), .val (.ref ob12), .val (.int (1 : Int32))] [(.int (1 : Int32))])
                  refine own_go (fun _ => XS.istore X407.here hx rfl (hb hby at_290) rfl (l' := #[.val (.int p0), .val (.long q1), .second, .val (.long q2), .second, .val (.int (1 : Int32)), .val (.int (1 : Int32)), .val (.int (1 : Int32)), .val (.int z8), .val (.ref ob5), .val (.ref ob7), .val (.ref ob9), .val (.ref ob12), .val (.ref ob18), .val (.ref t14), .val (.ref ob12), .val (.int (1 : Int32))]) rfl) ?_
                  show own_G p e below Φ T407 (mkF m 292 #[.val (.int p0), .val (.long q1), .second, .val (.long q2), .second, .val (.int (1 : Int32)), .val (.int (1 : Int32)), .val (.int (1 : Int32)), .val (.int z8), .val (.ref ob5), .val (.ref ob7), .val (.ref ob9), .val (.ref ob12), .val (.ref ob18), .val (.ref t14), .val (.ref ob12), .val (.int (1 : Int32))] [])
                  refine own_go (fun _ => XS.iload X407.here hx rfl (hb hby at_292) rfl) ?_
                  show own_G p e below Φ T407 (mkF m 294 #[.val (.int p0), .val (.long q1), .second, .val (.long q2), .second, .val (.int (1 : Int32)), .val (.int (1 : Int32)), .val (.int (1 : Int32)), .val (.int z8), .val (.ref ob5), .val (.ref ob7), .val (.ref ob9), .val (.ref ob12), .val (.ref ob18), .val (.ref t14), .val (.ref ob12), .val (.int (1 : Int32))] [(.int (1 : Int32))])
                  refine own_go (fun _ => XS.ifNo X407.here hx rfl (hb hby at_294) rfl (Jvm.Free.XT.i0_eq_f (by decide : ¬ ((1 : Int32) = (0 : Int32))))) ?_
                  show own_G p e below Φ T407 (mkF m 297 #[.val (.int p0), .val (.long q1), .second, .val (.long q2), .second, .val (.int (1 : Int32)), .val (.int (1 : Int32)), .val (.int (1 : Int32)), .val (.int z8), .val (.ref ob5), .val (.ref ob7), .val (.ref ob9), .val (.ref ob12), .val (.ref ob18), .val (.ref t14), .val (.ref ob12), .val (.int (1 : Int32))] [])
                  refine own_go (fun _ => XS.aload X407.here hx rfl (hb hby at_297) rfl rfl) ?_
                  show own_G p e below Φ T407 (mkF m 299 #[.val (.int p0), .val (.long q1), .second, .val (.long q2), .second, .val (.int (1 : Int32)), .val (.int (1 : Int32)), .val (.int (1 : Int32)), .val (.int z8), .val (.ref ob5), .val (.ref ob7), .val (.ref ob9), .val (.ref ob12), .val (.ref ob18), .val (.ref t14), .val (.ref ob12), .val (.int (1 : Int32))] [(.ref ob18)])
                  have f408 : Fld Z T363.heap ob18 "corro/core/Order" "previous" "Lcorro/core/Order;" (.ref ob9) := p262_2.keep Kq363 (ninS (Ne.symm ne_ob12_ob18) nin0)
                  have f409 : Fld Z T400.heap ob18 "corro/core/Order" "previous" "Lcorro/core/Order;" (.ref ob9) := f408.keep Kq400 (ninS (Ne.symm ne_ob9_ob18) (ninS (Ne.symm ne_ob12_ob18) nin0))
                  have f411 : Exa Z T363.heap ob18 "corro/core/Order" := p262_0.keep Kq363
                  have f412 : Exa Z T400.heap ob18 "corro/core/Order" := f411.keep Kq400
                  obtain ⟨cq410, kq410, q410a, q410b, q410c⟩ := isOf hZ hs407 f412
                  obtain ⟨_, _, ⟨T410, zL410, zk410, zn410⟩, -, X410, ⟨Lc410, hQ410, l410, y410, z410⟩, st410⟩ := X407.virtualBack hx (y := (⟨"corro/core/Order", "previous", "()Lcorro/core/Order;"⟩ : MethodName)) (z := (⟨"corro/core/Order", "previous", "()Lcorro/core/Order;"⟩ : MethodName)) hown (mvT hZ (wd_44 hw)) (mvT hZ (wd_45 hw)) (notFace_of_selects (args := #[]) (mvT hZ (wd_47 hw))) (mvT hZ (wd_47 hw)) (mvT hZ (wd_46 hw)) (by decide) (backOf (W := 0) (rmGprevious l Z a0 hw [] ob18 (.ref ob9) T400.heap n0 Zp400 f409 rfl) hZ (wd_48 hw) (wd_11 hw) (by decide) (by decide)) q410a q410c (g := (mkF m 299 #[.val (.int p0), .val (.long q1), .second, .val (.long q2), .second, .val (.int (1 : Int32)), .val (.int (1 : Int32)), .val (.int (1 : Int32)), .val (.int z8), .val (.ref ob5), .val (.ref ob7), .val (.ref ob9), .val (.ref ob12), .val (.ref ob18), .val (.ref t14), .val (.ref ob12), .val (.int (1 : Int32))] [(.ref ob18)])) rfl (by rw [hml]; rfl) (Steps.refl _) (argsL := []) (rest := []) (lenOf pd_4 rfl) rfl (by show 2 * 0 + _ ≤ _; exact Nat.le_of_eq rfl) (hb hby at_299) (fun _ _ => ⟨rfl, hs407, (by decide : 5 + 0 ≤ _), (by decide : 40 + 0 ≤ _)⟩)
                  dsimp only [Pt.U, Pt.locs, Pt.cells, Pt.slots] at X410 l410 y410 z410 st410 hQ410
                  subst l410 y410 z410
                  obtain ⟨rfl, N410q, hs410⟩ := hQ410
                  have N410 := Fr.app N407 N410q
                  refine own_on st410 ?_
                  show own_G p e below Φ T410 (mkF m 302 #[.val (.int p0), .val (.long q1), .second, .val (.long q2), .second, .val (.int (1 : Int32)), .val (.int (1 : Int32)), .val (.int (1 : Int32)), .val (.int z8), .val (.ref ob5), .val (.ref ob7), .val (.ref ob9), .val (.ref ob12), .val (.ref ob18), .val (.ref t14), .val (.ref ob12), .val (.int (1 : Int32))] [(.ref ob9)])
                  refine own_go (fun _ => XS.iload X410.here hx rfl (hb hby at_302) rfl) ?_
                  show own_G p e below Φ T410 (mkF m 304 #[.val (.int p0), .val (.long q1), .second, .val (.long q2), .second, .val (.int (1 : Int32)), .val (.int (1 : Int32)), .val (.int (1 : Int32)), .val (.int z8), .val (.ref ob5), .val (.ref ob7), .val (.ref ob9), .val (.ref ob12), .val (.ref ob18), .val (.ref t14), .val (.ref ob12), .val (.int (1 : Int32))] [(.int (1 : Int32)), (.ref ob9)])
                  refine own_go (fun _ => XS.ifNo X410.here hx rfl (hb hby at_304) rfl (Jvm.Free.XT.i0_eq_f (by decide : ¬ ((1 : Int32) = (0 : Int32))))) ?_
                  show own_G p e below Φ T410 (mkF m 307 #[.val (.int p0), .val (.long q1), .second, .val (.long q2), .second, .val (.int (1 : Int32)), .val (.int (1 : Int32)), .val (.int (1 : Int32)), .val (.int z8), .val (.ref ob5), .val (.ref ob7), .val (.ref ob9), .val (.ref ob12), .val (.ref ob18), .val (.ref t14), .val (.ref ob12), .val (.int (1 : Int32))] [(.ref ob9)])
                  refine own_go (fun _ => XS.aload X410.here hx rfl (hb hby at_307) rfl rfl) ?_
                  show own_G p e below Φ T410 (mkF m 309 #[.val (.int p0), .val (.long q1), .second, .val (.long q2), .second, .val (.int (1 : Int32)), .val (.int (1 : Int32)), .val (.int (1 : Int32)), .val (.int z8), .val (.ref ob5), .val (.ref ob7), .val (.ref ob9), .val (.ref ob12), .val (.ref ob18), .val (.ref t14), .val (.ref ob12), .val (.int (1 : Int32))] [(.ref ob9), (.ref ob9)])
                  refine own_go (fun _ => XS.goto X410.here hx rfl (pc0 := 309) (pc' := 313) rfl (hb hby at_309) (by decide) (by decide)) ?_
                  show own_G p e below Φ T410 (mkF m 313 #[.val (.int p0), .val (.long q1), .second, .val (.long q2), .second, .val (.int (1 : Int32)), .val (.int (1 : Int32)), .val (.int (1 : Int32)), .val (.int z8), .val (.ref ob5), .val (.ref ob7), .val (.ref ob9), .val (.ref ob12), .val (.ref ob18), .val (.ref t14), .val (.ref ob12), .val (.int (1 : Int32))] [(.ref ob9), (.ref ob9)])
                  refine own_go (fun _ => Jvm.RoadKit.acmp (g := (mkF m 313 #[.val (.int p0), .val (.long q1), .second, .val (.long q2), .second, .val (.int (1 : Int32)), .val (.int (1 : Int32)), .val (.int (1 : Int32)), .val (.int z8), .val (.ref ob5), .val (.ref ob7), .val (.ref ob9), .val (.ref ob12), .val (.ref ob18), .val (.ref t14), .val (.ref ob12), .val (.int (1 : Int32))] [(.ref ob9), (.ref ob9)])) X410 hx rfl rfl rfl (pc0 := 313) (pc' := 316) (same := true) rfl (hb hby at_313) rfl (decide_eq_true rfl) (by decide) (by decide)) ?_
                  show own_G p e below Φ T410 (mkF m 316 #[.val (.int p0), .val (.long q1), .second, .val (.long q2), .second, .val (.int (1 : Int32)), .val (.int (1 : Int32)), .val (.int (1 : Int32)), .val (.int z8), .val (.ref ob5), .val (.ref ob7), .val (.ref ob9), .val (.ref ob12), .val (.ref ob18), .val (.ref t14), .val (.ref ob12), .val (.int (1 : Int32))] [])
                  refine own_go (fun _ => XS.aload X410.here hx rfl (hb hby at_316) rfl rfl) ?_
                  show own_G p e below Φ T410 (mkF m 318 #[.val (.int p0), .val (.long q1), .second, .val (.long q2), .second, .val (.int (1 : Int32)), .val (.int (1 : Int32)), .val (.int (1 : Int32)), .val (.int z8), .val (.ref ob5), .val (.ref ob7), .val (.ref ob9), .val (.ref ob12), .val (.ref ob18), .val (.ref t14), .val (.ref ob12), .val (.int (1 : Int32))] [(.ref ob18)])
                  have f413 : Fld Z T363.heap ob18 "corro/core/Order" "next" "Lcorro/core/Order;" .null := p262_3.keep Kq363 (ninS (Ne.symm ne_ob12_ob18) nin0)
                  have f414 : Fld Z T400.heap ob18 "corro/core/Order" "next" "Lcorro/core/Order;" .null := f413.keep Kq400 (ninS (Ne.symm ne_ob9_ob18) (ninS (Ne.symm ne_ob12_ob18) nin0))
                  obtain ⟨cq415, kq415, q415a, q415b, q415c⟩ := isOf hZ hs410 f412
                  obtain ⟨_, _, ⟨T415, zL415, zk415, zn415⟩, -, X415, ⟨Lc415, hQ415, l415, y415, z415⟩, st415⟩ := X410.virtualBack hx (y := (⟨"corro/core/Order", "next", "()Lcorro/core/Order;"⟩ : MethodName)) (z := (⟨"corro/core/Order", "next", "()Lcorro/core/Order;"⟩ : MethodName)) hown (mvT hZ (wd_49 hw)) (mvT hZ (wd_50 hw)) (notFace_of_selects (args := #[]) (mvT hZ (wd_52 hw))) (mvT hZ (wd_52 hw)) (mvT hZ (wd_51 hw)) (by decide) (backOf (W := 0) (rmGnext l Z a0 hw [] ob18 .null T400.heap n0 Zp400 f414 rfl) hZ (wd_53 hw) (wd_11 hw) (by decide) (by decide)) q415a q415c (g := (mkF m 318 #[.val (.int p0), .val (.long q1), .second, .val (.long q2), .second, .val (.int (1 : Int32)), .val (.int (1 : Int32)), .val (.int (1 : Int32)), .val (.int z8), .val (.ref ob5), .val (.ref ob7), .val (.ref ob9), .val (.ref ob12), .val (.ref ob18), .val (.ref t14), .val (.ref ob12), .val (.int (1 : Int32))] [(.ref ob18)])) rfl (by rw [hml]; rfl) (Steps.refl _) (argsL := []) (rest := []) (lenOf pd_4 rfl) rfl (by show 2 * 0 + _ ≤ _; exact Nat.le_of_eq rfl) (hb hby at_318) (fun _ _ => ⟨rfl, hs410, (by decide : 5 + 0 ≤ _), (by decide : 40 + 0 ≤ _)⟩)
                  dsimp only [Pt.U, Pt.locs, Pt.cells, Pt.slots] at X415 l415 y415 z415 st415 hQ415
                  subst l415 y415 z415
                  obtain ⟨rfl, N415q, hs415⟩ := hQ415
                  have N415 := Fr.app N410 N415q
                  refine own_on st415 ?_
                  show own_G p e below Φ T415 (mkF m 321 #[.val (.int p0), .val (.long q1), .second, .val (.long q2), .second, .val (.int (1 : Int32)), .val (.int (1 : Int32)), .val (.int (1 : Int32)), .val (.int z8), .val (.ref ob5), .val (.ref ob7), .val (.ref ob9), .val (.ref ob12), .val (.ref ob18), .val (.ref t14), .val (.ref ob12), .val (.int (1 : Int32))] [.null])
                  refine own_go (fun _ => XS.ifnonnullNo X415.here hx rfl (hb hby at_321) rfl) ?_
                  show own_G p e below Φ T415 (mkF m 324 #[.val (.int p0), .val (.long q1), .second, .val (.long q2), .second, .val (.int (1 : Int32)), .val (.int (1 : Int32)), .val (.int (1 : Int32)), .val (.int z8), .val (.ref ob5), .val (.ref ob7), .val (.ref ob9), .val (.ref ob12), .val (.ref ob18), .val (.ref t14), .val (.ref ob12), .val (.int (1 : Int32))] [])
                  refine own_go (fun _ => XS.iconst X415.here hx rfl (hb hby at_324)) ?_
                  show own_G p e below Φ T415 (mkF m 325 #[.val (.int p0), .val (.long q1), .second, .val (.long q2), .second, .val (.int (1 : Int32)), .val (.int (1 : Int32)), .val (.int (1 : Int32)), .val (.int z8), .val (.ref ob5), .val (.ref ob7), .val (.ref ob9), .val (.ref ob12), .val (.ref ob18), .val (.ref t14), .val (.ref ob12), .val (.int (1 : Int32))] [(.int (1 : Int32))])
                  refine own_go (fun _ => XS.goto X415.here hx rfl (pc0 := 325) (pc' := 329) rfl (hb hby at_325) (by decide) (by decide)) ?_
                  show own_G p e below Φ T415 (mkF m 329 #[.val (.int p0), .val (.long q1), .second, .val (.long q2), .second, .val (.int (1 : Int32)), .val (.int (1 : Int32)), .val (.int (1 : Int32)), .val (.int z8), .val (.ref ob5), .val (.ref ob7), .val (.ref ob9), .val (.ref ob12), .val (.ref ob18), .val (.ref t14), .val (.ref ob12), .val (.int (1 : Int32))] [(.int (1 : Int32))])
                  refine own_go (fun _ => XS.istore X415.here hx rfl (hb hby at_329) rfl (l' := #[.val (.int p0), .val (.long q1), .second, .val (.long q2), .second, .val (.int (1 : Int32)), .val (.int (1 : Int32)), .val (.int (1 : Int32)), .val (.int z8), .val (.ref ob5), .val (.ref ob7), .val (.ref ob9), .val (.ref ob12), .val (.ref ob18), .val (.ref t14), .val (.ref ob12), .val (.int (1 : Int32))]) rfl) ?_
                  show own_G p e below Φ T415 (mkF m 331 #[.val (.int p0), .val (.long q1), .second, .val (.long q2), .second, .val (.int (1 : Int32)), .val (.int (1 : Int32)), .val (.int (1 : Int32)), .val (.int z8), .val (.ref ob5), .val (.ref ob7), .val (.ref ob9), .val (.ref ob12), .val (.ref ob18), .val (.ref t14), .val (.ref ob12), .val (.int (1 : Int32))] [])
                  refine own_go (fun _ => XS.iload X415.here hx rfl (hb hby at_331) rfl) ?_
                  show own_G p e below Φ T415 (mkF m 333 #[.val (.int p0), .val (.long q1), .second, .val (.long q2), .second, .val (.int (1 : Int32)), .val (.int (1 : Int32)), .val (.int (1 : Int32)), .val (.int z8), .val (.ref ob5), .val (.ref ob7), .val (.ref ob9), .val (.ref ob12), .val (.ref ob18), .val (.ref t14), .val (.ref ob12), .val (.int (1 : Int32))] [(.int (1 : Int32))])
                  refine own_go (fun _ => XS.ifNo X415.here hx rfl (hb hby at_333) rfl (Jvm.Free.XT.i0_eq_f (by decide : ¬ ((1 : Int32) = (0 : Int32))))) ?_
                  show own_G p e below Φ T415 (mkF m 336 #[.val (.int p0), .val (.long q1), .second, .val (.long q2), .second, .val (.int (1 : Int32)), .val (.int (1 : Int32)), .val (.int (1 : Int32)), .val (.int z8), .val (.ref ob5), .val (.ref ob7), .val (.ref ob9), .val (.ref ob12), .val (.ref ob18), .val (.ref t14), .val (.ref ob12), .val (.int (1 : Int32))] [])
                  refine own_go (fun _ => XS.aload X415.here hx rfl (hb hby at_336) rfl rfl) ?_
                  show own_G p e below Φ T415 (mkF m 338 #[.val (.int p0), .val (.long q1), .second, .val (.long q2), .second, .val (.int (1 : Int32)), .val (.int (1 : Int32)), .val (.int (1 : Int32)), .val (.int z8), .val (.ref ob5), .val (.ref ob7), .val (.ref ob9), .val (.ref ob12), .val (.ref ob18), .val (.ref t14), .val (.ref ob12), .val (.int (1 : Int32))] [(.ref ob9)])
                  obtain ⟨cq416, kq416, q416a, q416b, q416c⟩ := isOf hZ hs415 p400_0
                  obtain ⟨_, _, ⟨T416, zL416, zk416, zn416⟩, -, X416, ⟨Lc416, hQ416, l416, y416, z416⟩, st416⟩ := X415.virtualBack hx (y := (⟨"corro/core/Order", "quantity", "()J"⟩ : MethodName)) (z := (⟨"corro/core/Order", "quantity", "()J"⟩ : MethodName)) hown (mvT hZ (wd_54 hw)) (mvT hZ (wd_55 hw)) (notFace_of_selects (args := #[]) (mvT hZ (wd_57 hw))) (mvT hZ (wd_57 hw)) (mvT hZ (wd_56 hw)) (by decide) (backOf (W := 0) (rmGquantity l Z a0 hw [] ob9 q1 T400.heap n0 Zp400 p400_7) hZ (wd_58 hw) (wd_11 hw) (by decide) (by decide)) q416a q416c (g := (mkF m 338 #[.val (.int p0), .val (.long q1), .second, .val (.long q2), .second, .val (.int (1 : Int32)), .val (.int (1 : Int32)), .val (.int (1 : Int32)), .val (.int z8), .val (.ref ob5), .val (.ref ob7), .val (.ref ob9), .val (.ref ob12), .val (.ref ob18), .val (.ref t14), .val (.ref ob12), .val (.int (1 : Int32))] [(.ref ob9)])) rfl (by rw [hml]; rfl) (Steps.refl _) (argsL := []) (rest := []) (lenOf pd_5 rfl) rfl (by show 2 * 0 + _ ≤ _; exact Nat.le_of_eq rfl) (hb hby at_338) (fun _ _ => ⟨rfl, hs415, (by decide : 5 + 0 ≤ _), (by decide : 40 + 0 ≤ _)⟩)
                  dsimp only [Pt.U, Pt.locs, Pt.cells, Pt.slots] at X416 l416 y416 z416 st416 hQ416
                  subst l416 y416 z416
                  obtain ⟨rfl, N416q, hs416⟩ := hQ416
                  have N416 := Fr.app N415 N416q
                  refine own_on st416 ?_
                  show own_G p e below Φ T416 (mkF m 341 #[.val (.int p0), .val (.long q1), .second, .val (.long q2), .second, .val (.int (1 : Int32)), .val (.int (1 : Int32)), .val (.int (1 : Int32)), .val (.int z8), .val (.ref ob5), .val (.ref ob7), .val (.ref ob9), .val (.ref ob12), .val (.ref ob18), .val (.ref t14), .val (.ref ob12), .val (.int (1 : Int32))] [(.long q1)])
                  refine own_go (fun _ => XS.lloadN X416.here hx rfl (hb hby at_341) rfl) ?_
                  show own_G p e below Φ T416 (mkF m 342 #[.val (.int p0), .val (.long q1), .second, .val (.long q2), .second, .val (.int (1 : Int32)), .val (.int (1 : Int32)), .val (.int (1 : Int32)), .val (.int z8), .val (.ref ob5), .val (.ref ob7), .val (.ref ob9), .val (.ref ob12), .val (.ref ob18), .val (.ref t14), .val (.ref ob12), .val (.int (1 : Int32))] [(.long q1), (.long q1)])
                  refine own_go (fun _ => XS.lcmp X416.here hx rfl (hb hby at_342) rfl) ?_
                  show own_G p e below Φ T416 (mkF m 343 #[.val (.int p0), .val (.long q1), .second, .val (.long q2), .second, .val (.int (1 : Int32)), .val (.int (1 : Int32)), .val (.int (1 : Int32)), .val (.int z8), .val (.ref ob5), .val (.ref ob7), .val (.ref ob9), .val (.ref ob12), .val (.ref ob18), .val (.ref t14), .val (.ref ob12), .val (.int (1 : Int32))] [(.int (lcmpW q1 q1))])
                  refine own_go (fun _ => XS.ifNo X416.here hx rfl (hb hby at_343) rfl (Jvm.Free.XT.ll_ne_f (rfl : q1 = q1))) ?_
                  show own_G p e below Φ T416 (mkF m 346 #[.val (.int p0), .val (.long q1), .second, .val (.long q2), .second, .val (.int (1 : Int32)), .val (.int (1 : Int32)), .val (.int (1 : Int32)), .val (.int z8), .val (.ref ob5), .val (.ref ob7), .val (.ref ob9), .val (.ref ob12), .val (.ref ob18), .val (.ref t14), .val (.ref ob12), .val (.int (1 : Int32))] [])
                  refine own_go (fun _ => XS.aload X416.here hx rfl (hb hby at_346) rfl rfl) ?_
                  show own_G p e below Φ T416 (mkF m 348 #[.val (.int p0), .val (.long q1), .second, .val (.long q2), .second, .val (.int (1 : Int32)), .val (.int (1 : Int32)), .val (.int (1 : Int32)), .val (.int z8), .val (.ref ob5), .val (.ref ob7), .val (.ref ob9), .val (.ref ob12), .val (.ref ob18), .val (.ref t14), .val (.ref ob12), .val (.int (1 : Int32))] [(.ref ob9)])
                  obtain ⟨cq417, kq417, q417a, q417b, q417c⟩ := isOf hZ hs416 p400_0
                  obtain ⟨_, _, ⟨T417, zL417, zk417, zn417⟩, -, X417, ⟨Lc417, hQ417, l417, y417, z417⟩, st417⟩ := X416.virtualBack hx (y := (⟨"corro/core/Order", "price", "()J"⟩ : MethodName)) (z := (⟨"corro/core/Order", "price", "()J"⟩ : MethodName)) hown (mvT hZ (wd_59 hw)) (mvT hZ (wd_60 hw)) (notFace_of_selects (args := #[]) (mvT hZ (wd_62 hw))) (mvT hZ (wd_62 hw)) (mvT hZ (wd_61 hw)) (by decide) (backOf (W := 0) (rmGprice l Z a0 hw [] ob9 q2 T400.heap n0 Zp400 p400_8) hZ (wd_63 hw) (wd_11 hw) (by decide) (by decide)) q417a q417c (g := (mkF m 348 #[.val (.int p0), .val (.long q1), .second, .val (.long q2), .second, .val (.int (1 : Int32)), .val (.int (1 : Int32)), .val (.int (1 : Int32)), .val (.int z8), .val (.ref ob5), .val (.ref ob7), .val (.ref ob9), .val (.ref ob12), .val (.ref ob18), .val (.ref t14), .val (.ref ob12), .val (.int (1 : Int32))] [(.ref ob9)])) rfl (by rw [hml]; rfl) (Steps.refl _) (argsL := []) (rest := []) (lenOf pd_5 rfl) rfl (by show 2 * 0 + _ ≤ _; exact Nat.le_of_eq rfl) (hb hby at_348) (fun _ _ => ⟨rfl, hs416, (by decide : 5 + 0 ≤ _), (by decide : 40 + 0 ≤ _)⟩)
                  dsimp only [Pt.U, Pt.locs, Pt.cells, Pt.slots] at X417 l417 y417 z417 st417 hQ417
                  subst l417 y417 z417
                  obtain ⟨rfl, N417q, hs417⟩ := hQ417
                  have N417 := Fr.app N416 N417q
                  refine own_on st417 ?_
                  show own_G p e below Φ T417 (mkF m 351 #[.val (.int p0), .val (.long q1), .second, .val (.long q2), .second, .val (.int (1 : Int32)), .val (.int (1 : Int32)), .val (.int (1 : Int32)), .val (.int z8), .val (.ref ob5), .val (.ref ob7), .val (.ref ob9), .val (.ref ob12), .val (.ref ob18), .val (.ref t14), .val (.ref ob12), .val (.int (1 : Int32))] [(.long q2)])
                  refine own_go (fun _ => XS.lloadN X417.here hx rfl (hb hby at_351) rfl) ?_
                  show own_G p e below Φ T417 (mkF m 352 #[.val (.int p0), .val (.long q1), .second, .val (.long q2), .second, .val (.int (1 : Int32)), .val (.int (1 : Int32)), .val (.int (1 : Int32)), .val (.int z8), .val (.ref ob5), .val (.ref ob7), .val (.ref ob9), .val (.ref ob12), .val (.ref ob18), .val (.ref t14), .val (.ref ob12), .val (.int (1 : Int32))] [(.long q2), (.long q2)])
                  refine own_go (fun _ => XS.lcmp X417.here hx rfl (hb hby at_352) rfl) ?_
                  show own_G p e below Φ T417 (mkF m 353 #[.val (.int p0), .val (.long q1), .second, .val (.long q2), .second, .val (.int (1 : Int32)), .val (.int (1 : Int32)), .val (.int (1 : Int32)), .val (.int z8), .val (.ref ob5), .val (.ref ob7), .val (.ref ob9), .val (.ref ob12), .val (.ref ob18), .val (.ref t14), .val (.ref ob12), .val (.int (1 : Int32))] [(.int (lcmpW q2 q2))])
                  refine own_go (fun _ => XS.ifNo X417.here hx rfl (hb hby at_353) rfl (Jvm.Free.XT.ll_ne_f (rfl : q2 = q2))) ?_
                  show own_G p e below Φ T417 (mkF m 356 #[.val (.int p0), .val (.long q1), .second, .val (.long q2), .second, .val (.int (1 : Int32)), .val (.int (1 : Int32)), .val (.int (1 : Int32)), .val (.int z8), .val (.ref ob5), .val (.ref ob7), .val (.ref ob9), .val (.ref ob12), .val (.ref ob18), .val (.ref t14), .val (.ref ob12), .val (.int (1 : Int32))] [])
                  refine own_go (fun _ => XS.iconst X417.here hx rfl (hb hby at_356)) ?_
                  show own_G p e below Φ T417 (mkF m 357 #[.val (.int p0), .val (.long q1), .second, .val (.long q2), .second, .val (.int (1 : Int32)), .val (.int (1 : Int32)), .val (.int (1 : Int32)), .val (.int z8), .val (.ref ob5), .val (.ref ob7), .val (.ref ob9), .val (.ref ob12), .val (.ref ob18), .val (.ref t14), .val (.ref ob12), .val (.int (1 : Int32))] [(.int (1 : Int32))])
                  refine own_go (fun _ => XS.goto X417.here hx rfl (pc0 := 357) (pc' := 361) rfl (hb hby at_357) (by decide) (by decide)) ?_
                  show own_G p e below Φ T417 (mkF m 361 #[.val (.int p0), .val (.long q1), .second, .val (.long q2), .second, .val (.int (1 : Int32)), .val (.int (1 : Int32)), .val (.int (1 : Int32)), .val (.int z8), .val (.ref ob5), .val (.ref ob7), .val (.ref ob9), .val (.ref ob12), .val (.ref ob18), .val (.ref t14), .val (.ref ob12), .val (.int (1 : Int32))] [(.int (1 : Int32))])
                  refine own_go (fun _ => XS.istore X417.here hx rfl (hb hby at_361) rfl (l' := #[.val (.int p0), .val (.long q1), .second, .val (.long q2), .second, .val (.int (1 : Int32)), .val (.int (1 : Int32)), .val (.int (1 : Int32)), .val (.int z8), .val (.ref ob5), .val (.ref ob7), .val (.ref ob9), .val (.ref ob12), .val (.ref ob18), .val (.ref t14), .val (.ref ob12), .val (.int (1 : Int32))]) rfl) ?_
                  show own_G p e below Φ T417 (mkF m 363 #[.val (.int p0), .val (.long q1), .second, .val (.long q2), .second, .val (.int (1 : Int32)), .val (.int (1 : Int32)), .val (.int (1 : Int32)), .val (.int z8), .val (.ref ob5), .val (.ref ob7), .val (.ref ob9), .val (.ref ob12), .val (.ref ob18), .val (.ref t14), .val (.ref ob12), .val (.int (1 : Int32))] [])
                  refine own_go (fun _ => XS.iload X417.here hx rfl (hb hby at_363) rfl) ?_
                  show own_G p e below Φ T417 (mkF m 365 #[.val (.int p0), .val (.long q1), .second, .val (.long q2), .second, .val (.int (1 : Int32)), .val (.int (1 : Int32)), .val (.int (1 : Int32)), .val (.int z8), .val (.ref ob5), .val (.ref ob7), .val (.ref ob9), .val (.ref ob12), .val (.ref ob18), .val (.ref t14), .val (.ref ob12), .val (.int (1 : Int32))] [(.int (1 : Int32))])
                  rw [hΦ]
                  refine own_ret X417 (v := some (.int (1 : Int32))) (fun h => by rw [Bd.returns] at h; cases h) (BodyLoose.notSynchronized Bd) (fun fs hr => retN X417 hx (t := .boolean) Bd.returns (by simp) (hb hby at_365) hr) ?_ (by decide) (by decide)
                  rw [hs417]
                  exact ⟨rfl, N417⟩
              by_cases hc153 : z8 = (0 : Int32)
              · refine own_go (fun _ => XS.ifYes X363.here hx rfl (pc0 := 153) (pc' := 161) rfl (hb hby at_153) rfl (Jvm.Free.XT.i0_eq_t hc153) (by decide) (by decide)) ?_
                show own_G p e below Φ T363 (mkF m 161 #[.val (.int p0), .val (.long q1), .second, .val (.long q2), .second, .val (.int z5), .val (.int (1 : Int32)), .val (.int (1 : Int32)), .val (.int z8), .val (.ref ob5), .val (.ref ob7), .val (.ref ob9), .val (.ref ob12), .val (.ref ob18), .unset, .unset, .unset] [])
                refine own_go (fun _ => XS.aload X363.here hx rfl (hb hby at_161) rfl rfl) ?_
                exact hJ163_364 _ X363 rfl _ 
              · refine own_go (fun _ => XS.ifNo X363.here hx rfl (hb hby at_153) rfl (Jvm.Free.XT.i0_eq_f hc153)) ?_
                show own_G p e below Φ T363 (mkF m 156 #[.val (.int p0), .val (.long q1), .second, .val (.long q2), .second, .val (.int z5), .val (.int (1 : Int32)), .val (.int (1 : Int32)), .val (.int z8), .val (.ref ob5), .val (.ref ob7), .val (.ref ob9), .val (.ref ob12), .val (.ref ob18), .unset, .unset, .unset] [])
                refine own_go (fun _ => XS.aload X363.here hx rfl (hb hby at_156) rfl rfl) ?_
                show own_G p e below Φ T363 (mkF m 158 #[.val (.int p0), .val (.long q1), .second, .val (.long q2), .second, .val (.int z5), .val (.int (1 : Int32)), .val (.int (1 : Int32)), .val (.int z8), .val (.ref ob5), .val (.ref ob7), .val (.ref ob9), .val (.ref ob12), .val (.ref ob18), .unset, .unset, .unset] [(.ref ob5)])
                refine own_go (fun _ => XS.goto X363.here hx rfl (pc0 := 158) (pc' := 163) rfl (hb hby at_158) (by decide) (by decide)) ?_
                exact hJ163_364 _ X363 rfl _ 
        by_cases hc43 : (p0 &&& (8 : Int32)) = (0 : Int32)
        · refine own_go (fun _ => XS.ifYes X3.here hx rfl (pc0 := 43) (pc' := 50) rfl (hb hby at_43) rfl (Jvm.Free.XT.i0_eq_t hc43) (by decide) (by decide)) ?_
          show own_G p e below Φ T3 (mkF m 50 #[.val (.int p0), .val (.long q1), .second, .val (.long q2), .second, .val (.int z5), .val (.int z6), .val (.int z7), .unset, .unset, .unset, .unset, .unset, .unset, .unset, .unset, .unset] [])
          refine own_go (fun _ => XS.iconst X3.here hx rfl (hb hby at_50)) ?_
          exact hJ51_4 _ X3 e3 _ (by first | exact Or.inr rfl | exact Or.inl rfl)
        · refine own_go (fun _ => XS.ifNo X3.here hx rfl (hb hby at_43) rfl (Jvm.Free.XT.i0_eq_f hc43)) ?_
          show own_G p e below Φ T3 (mkF m 46 #[.val (.int p0), .val (.long q1), .second, .val (.long q2), .second, .val (.int z5), .val (.int z6), .val (.int z7), .unset, .unset, .unset, .unset, .unset, .unset, .unset, .unset, .unset] [])
          refine own_go (fun _ => XS.iconst X3.here hx rfl (hb hby at_46)) ?_
          show own_G p e below Φ T3 (mkF m 47 #[.val (.int p0), .val (.long q1), .second, .val (.long q2), .second, .val (.int z5), .val (.int z6), .val (.int z7), .unset, .unset, .unset, .unset, .unset, .unset, .unset, .unset, .unset] [(.int (1 : Int32))])
          refine own_go (fun _ => XS.goto X3.here hx rfl (pc0 := 47) (pc' := 51) rfl (hb hby at_47) (by decide) (by decide)) ?_
          exact hJ51_4 _ X3 e3 _ (by first | exact Or.inr rfl | exact Or.inl rfl)
      by_cases hc29 : (p0 &&& (4 : Int32)) = (0 : Int32)
      · refine own_go (fun _ => XS.ifYes X2.here hx rfl (pc0 := 29) (pc' := 36) rfl (hb hby at_29) rfl (Jvm.Free.XT.i0_eq_t hc29) (by decide) (by decide)) ?_
        show own_G p e below Φ T2 (mkF m 36 #[.val (.int p0), .val (.long q1), .second, .val (.long q2), .second, .val (.int z5), .val (.int z6), .unset, .unset, .unset, .unset, .unset, .unset, .unset, .unset, .unset, .unset] [])
        refine own_go (fun _ => XS.iconst X2.here hx rfl (hb hby at_36)) ?_
        exact hJ37_3 _ X2 e2 _ (by first | exact Or.inr rfl | exact Or.inl rfl)
      · refine own_go (fun _ => XS.ifNo X2.here hx rfl (hb hby at_29) rfl (Jvm.Free.XT.i0_eq_f hc29)) ?_
        show own_G p e below Φ T2 (mkF m 32 #[.val (.int p0), .val (.long q1), .second, .val (.long q2), .second, .val (.int z5), .val (.int z6), .unset, .unset, .unset, .unset, .unset, .unset, .unset, .unset, .unset, .unset] [])
        refine own_go (fun _ => XS.iconst X2.here hx rfl (hb hby at_32)) ?_
        show own_G p e below Φ T2 (mkF m 33 #[.val (.int p0), .val (.long q1), .second, .val (.long q2), .second, .val (.int z5), .val (.int z6), .unset, .unset, .unset, .unset, .unset, .unset, .unset, .unset, .unset, .unset] [(.int (1 : Int32))])
        refine own_go (fun _ => XS.goto X2.here hx rfl (pc0 := 33) (pc' := 37) rfl (hb hby at_33) (by decide) (by decide)) ?_
        exact hJ37_3 _ X2 e2 _ (by first | exact Or.inr rfl | exact Or.inl rfl)
    by_cases hc16 : (p0 &&& (2 : Int32)) = (0 : Int32)
    · refine own_go (fun _ => XS.ifYes X1.here hx rfl (pc0 := 16) (pc' := 23) rfl (hb hby at_16) rfl (Jvm.Free.XT.i0_eq_t hc16) (by decide) (by decide)) ?_
      show own_G p e below Φ T1 (mkF m 23 #[.val (.int p0), .val (.long q1), .second, .val (.long q2), .second, .val (.int z5), .unset, .unset, .unset, .unset, .unset, .unset, .unset, .unset, .unset, .unset, .unset] [])
      refine own_go (fun _ => XS.iconst X1.here hx rfl (hb hby at_23)) ?_
      exact hJ24_2 _ X1 e1 _ (by first | exact Or.inr rfl | exact Or.inl rfl)
    · refine own_go (fun _ => XS.ifNo X1.here hx rfl (hb hby at_16) rfl (Jvm.Free.XT.i0_eq_f hc16)) ?_
      show own_G p e below Φ T1 (mkF m 19 #[.val (.int p0), .val (.long q1), .second, .val (.long q2), .second, .val (.int z5), .unset, .unset, .unset, .unset, .unset, .unset, .unset, .unset, .unset, .unset, .unset] [])
      refine own_go (fun _ => XS.iconst X1.here hx rfl (hb hby at_19)) ?_
      show own_G p e below Φ T1 (mkF m 20 #[.val (.int p0), .val (.long q1), .second, .val (.long q2), .second, .val (.int z5), .unset, .unset, .unset, .unset, .unset, .unset, .unset, .unset, .unset, .unset, .unset] [(.int (1 : Int32))])
      refine own_go (fun _ => XS.goto X1.here hx rfl (pc0 := 20) (pc' := 24) rfl (hb hby at_20) (by decide) (by decide)) ?_
      exact hJ24_2 _ X1 e1 _ (by first | exact Or.inr rfl | exact Or.inl rfl)
  by_cases hc3 : (p0 &&& (1 : Int32)) = (0 : Int32)
  · refine own_go (fun _ => XS.ifYes X0.here hx rfl (pc0 := 3) (pc' := 10) rfl (hb hby at_3) rfl (Jvm.Free.XT.i0_eq_t hc3) (by decide) (by decide)) ?_
    show own_G p e below Φ s₁ (mkF m 10 #[.val (.int p0), .val (.long q1), .second, .val (.long q2), .second, .unset, .unset, .unset, .unset, .unset, .unset, .unset, .unset, .unset, .unset, .unset, .unset] [])
    refine own_go (fun _ => XS.iconst X0.here hx rfl (hb hby at_10)) ?_
    exact hJ11_1 _ X0 e0 _ (by first | exact Or.inr rfl | exact Or.inl rfl)
  · refine own_go (fun _ => XS.ifNo X0.here hx rfl (hb hby at_3) rfl (Jvm.Free.XT.i0_eq_f hc3)) ?_
    show own_G p e below Φ s₁ (mkF m 6 #[.val (.int p0), .val (.long q1), .second, .val (.long q2), .second, .unset, .unset, .unset, .unset, .unset, .unset, .unset, .unset, .unset, .unset, .unset, .unset] [])
    refine own_go (fun _ => XS.iconst X0.here hx rfl (hb hby at_6)) ?_
    show own_G p e below Φ s₁ (mkF m 7 #[.val (.int p0), .val (.long q1), .second, .val (.long q2), .second, .unset, .unset, .unset, .unset, .unset, .unset, .unset, .unset, .unset, .unset, .unset, .unset] [(.int (1 : Int32))])
    refine own_go (fun _ => XS.goto X0.here hx rfl (pc0 := 7) (pc' := 11) rfl (hb hby at_7) (by decide) (by decide)) ?_
    exact hJ11_1 _ X0 e0 _ (by first | exact Or.inr rfl | exact Or.inl rfl)
set_option maxRecDepth 65536 in
set_option maxHeartbeats 40000000 in
theorem comes_1 {Post : Tables → Env → Array Value → State → Outcome → State → Prop} (hpost : ∀ tb e args s v u, (limb_1_1.after args s (.returned v) u = true ∧ limb_1_2.after args s (.returned v) u = true ∧ True) → FrameEnd s (.returned v) u (Jvm.fieldLocs frame_1_writes args s ++ Jvm.arrayLocs frame_1_arrays args s ++ Jvm.staticLocs frame_1_statics s) 24 192 → Post tb e args s (.returned v) u) :
    ArmFor flags0 classFile x code maxLocals ret World_1 tables_1 room_1 Calls_1 rest_1 Pre_1 Post := by
  intro l hfl _ _ p e ha hc hk s m args below hf hA hF happ hP
  obtain ⟨hcalls, hrest, hpre⟩ := hP
  obtain ⟨-, -, -, hnamed, -, -, -, hat⟩ := (Spec.applies_iff hf).mp happ
  obtain ⟨hg, hn⟩ := and_e (Cond.before_iff.mp (show (Jvm.Cond.and given_1 narrow_1).before args s = true from hpre))
  obtain ⟨g1, g2⟩ := and_e hg
  obtain ⟨g3, g4⟩ := and_e g2
  obtain ⟨g5, g6⟩ := and_e g4
  obtain ⟨w0, w1, w2, rfl⟩ : ∃ w0 w1 w2 : Value, args = #[w0, w1, w2] := by
    have hs : args.size = 3 := by simpa [Cond.value, given_1] using g1
    obtain ⟨L⟩ := args
    match L, hs with
    | [w0, w1, w2], _ => exact ⟨w0, w1, w2, rfl⟩
  have hw := fun d (hd : d ∈ tables_1) => atoms_spec (ws := Jvm.Cond.code x code maxLocals ret :: tables_1) hat d (List.mem_cons_of_mem _ hd)
  obtain ⟨i0, ei0⟩ := is_v g3
  obtain rfl : w0 = (.int i0) := Option.some.inj ei0
  obtain ⟨i1, ei1⟩ := isL_v g5
  obtain rfl : w1 = (.long i1) := Option.some.inj ei1
  obtain ⟨i2, ei2⟩ := isL_v g6
  obtain rfl : w2 = (.long i2) := Option.some.inj ei2
  obtain ⟨n, o, h1, h2, h3, _, L, rfl, ⟨rfl, N⟩, hq⟩ := rm0 l s _ hw tables_1 i0 i1 i2 s.heap s.heap.size (Nat.le_refl _)  p e ha hc hk s m _ below hf ((Spec.applies_iff_loose hf).mp happ).1 ⟨rfl, State.Warmed39.refl s, rfl⟩ trivial
  refine ⟨n, _, h1, h2, h3, hpost _ _ _ _ _ _ ⟨Cond.after_iff.mpr rfl, Cond.after_iff.mpr (eq_i res_at (Term.int_eval (1)) rfl), trivial⟩ ⟨hq.1, hq.2.1, (hq.2.2.sift fun y hy => Or.inr (N y hy)).mono (by decide) (by decide)⟩⟩
theorem main_1_1 : Claimed_1_1 := comes_1 fun _ _ _ _ _ _ h hF => ⟨h.1, hF⟩
theorem main_1_2 : Claimed_1_2 := comes_1 fun _ _ _ _ _ _ h hF => ⟨h.2.1, hF⟩
end Jvm.Pilot.@@N@@
namespace Jvm.Pilot.@@N@@
open Jvm Jvm.ClassFile Sem Op Lib Jvm.Free Jvm.Stand Jvm.Pilot.@@N@@.Jvm.D
/-! MADE BY PROGRAM (witnessworld.py) out of the Statement's table words and the real class files: 10 classes; the members and pool entries that the words name. The judged class is class 1, her method 1. -/
namespace start1
open Jvm.ClassFile
def u (s : String) : CpInfo := .utf8 (stringToUtf16 s)
/-- a pool by its gaps: so many unusable entries, then the entry; so many at the end -/
def gap : Nat → List CpInfo → List CpInfo
  | 0, r => r
  | n + 1, r => .unusable :: gap n r
def poolList (es : List (Nat × CpInfo)) (last : Nat) : List CpInfo := es.foldr (fun e r => gap e.1 (e.2 :: r)) (gap last [])
def pool (es : List (Nat × CpInfo)) (last : Nat) : Array CpInfo := ⟨poolList es last⟩
def fileOf (pool : Array CpInfo) (this : Nat) (attrs : Array Attribute := #[]) (ms : Array MethodInfo := #[]) (fl : Nat := 33) (sup : Nat := 0) (ifs : Array Nat := #[]) (fds : Array FieldInfo := #[]) : ClassFile where
  minorVersion := 0
  majorVersion := 65
  constantPool := pool
  accessFlags := fl
  thisClass := this
  superClass := sup
  interfaces := ifs
  fields := fds
  methods := ms
  attributes := attrs
def plain (name : String) (sup : Option ClassId) : Class where
  name := name
  kind := .ordinary
  loader := none
  accessFlags := 33
  super := sup
  interfaces := #[]
  cf := none
  fields := #[]
  methods := #[]
  instanceTypes := #[]
  staticTypes := #[]
  resolved := #[]
  callSites := []
  init := .initialized
  statics := none
  mirror := none

def pool0 : Array CpInfo := pool [(5, u "<init>"), (0, u "()V"), (1, .class_ 10), (1, u "java/lang/Object")] 113

def k0c0 : Code := { maxStack := 0, maxLocals := 1, code := object_method_1_code, exceptionTable := #[], attributes := #[] }
def k0m0 : Method := { name := "<init>", desc := "()V", sig := { parameters := [], returnType := none }, accessFlags := 1, code := some k0c0 }
/-- java/lang/Object -/
def k0 : Class := { plain "java/lang/Object" none with
  accessFlags := 33
  interfaces := #[]
  cf := some (fileOf pool0 8 #[] #[{ accessFlags := 1, nameIndex := 5, descriptorIndex := 6, attributes := #[] }] 33 0 #[] #[])
  fields := #[]
  methods := #[k0m0]
  instanceTypes := #[]
  staticTypes := #[]
  resolved := Array.replicate 124 none
  statics := none }

def pool1 : Array CpInfo := pool [(2, .class_ 4), (0, .nameAndType 5 6), (0, u "java/lang/Object"), (0, u "<init>"), (0, u "()V"), (0, .class_ 8), (0, u "corro/core/Level"), (0, .methodref 7 3), (0, .class_ 11), (0, u "corro/core/Order"), (0, .methodref 10 13), (0, .nameAndType 5 14), (0, u "(Ljava/lang/String;Lcorro/core/Side;JLcorro/core/OrderType;JLcorro/core/TimeInForce;)V"), (0, .methodref 10 16), (0, .nameAndType 17 18), (0, u "join"), (0, u "(Lcorro/core/Level;Lcorro/core/Order;)V"), (0, .methodref 10 20), (0, .nameAndType 21 22), (0, u "level"), (0, u "()Lcorro/core/Level;"), (0, .methodref 10 24), (0, .nameAndType 25 26), (0, u "previous"), (0, u "()Lcorro/core/Order;"), (0, .methodref 10 28), (0, .nameAndType 29 26), (0, u "next"), (0, .methodref 10 31), (0, .nameAndType 32 33), (0, u "quantity"), (0, u "()J"), (0, .methodref 10 35), (0, .nameAndType 36 33), (0, u "price"), (0, .class_ 38), (0, u "corro/core/OrderJoinPinLaw"), (2, u "law"), (0, u "(IJJ)Z")] 3

def k1m0 : Method := { name := "<init>", desc := "()V", sig := { parameters := [], returnType := none }, accessFlags := 1, code := none }
def k1c1 : Code := { maxStack := 10, maxLocals := 17, code := code, exceptionTable := #[], attributes := #[] }
def k1m1 : Method := { name := "law", desc := "(IJJ)Z", sig := { parameters := [.int, .long, .long], returnType := some .boolean }, accessFlags := 9, code := some k1c1 }
/-- corro/core/OrderJoinPinLaw -/
def k1 : Class := { plain "corro/core/OrderJoinPinLaw" (some 0) with
  accessFlags := 49
  interfaces := #[]
  cf := some (fileOf pool1 37 #[] #[{ accessFlags := 1, nameIndex := 5, descriptorIndex := 6, attributes := #[] }, { accessFlags := 9, nameIndex := 41, descriptorIndex := 42, attributes := #[] }] 49 2 #[] #[])
  fields := #[]
  methods := #[k1m0, k1m1]
  instanceTypes := #[]
  staticTypes := #[]
  resolved := Array.replicate 46 none
  statics := none }

def pool2 : Array CpInfo := pool [(1, .methodref 2 3), (0, .class_ 4), (0, .nameAndType 5 6), (0, u "java/lang/Object"), (0, u "<init>"), (0, u "()V"), (1, .class_ 10), (1, u "corro/core/Level"), (0, u "first"), (0, u "Lcorro/core/Order;"), (18, u "last")] 20

def k2c0 : Code := { maxStack := 1, maxLocals := 1, code := prog_13_method_1_code, exceptionTable := #[], attributes := #[] }
def k2m0 : Method := { name := "<init>", desc := "()V", sig := { parameters := [], returnType := none }, accessFlags := 0, code := some k2c0 }
/-- corro/core/Level -/
def k2 : Class := { plain "corro/core/Level" (some 0) with
  accessFlags := 48
  interfaces := #[]
  cf := some (fileOf pool2 8 #[] #[{ accessFlags := 0, nameIndex := 5, descriptorIndex := 6, attributes := #[] }] 48 2 #[] #[{ accessFlags := 2, nameIndex := 11, descriptorIndex := 12, attributes := #[] }, { accessFlags := 2, nameIndex := 31, descriptorIndex := 12, attributes := #[] }])
  fields := #[{ name := "first", type := (.object "corro/core/Order"), accessFlags := 2, slot := 0, constantValue := 0 }, { name := "last", type := (.object "corro/core/Order"), accessFlags := 2, slot := 1, constantValue := 0 }]
  methods := #[k2m0]
  instanceTypes := #[(.object "corro/core/Order"), (.object "corro/core/Order")]
  staticTypes := #[]
  resolved := Array.replicate 52 none
  statics := none }

def pool3 : Array CpInfo := pool [(1, .methodref 2 3), (0, .class_ 4), (0, .nameAndType 5 6), (0, u "java/lang/Object"), (0, u "<init>"), (0, u "()V"), (0, .fieldref 8 9), (0, .class_ 10), (0, .nameAndType 11 12), (0, u "corro/core/Order"), (0, u "id"), (0, u "Ljava/lang/String;"), (0, .fieldref 8 14), (0, .nameAndType 15 16), (0, u "side"), (0, u "Lcorro/core/Side;"), (0, .fieldref 8 18), (0, .nameAndType 19 20), (0, u "type"), (0, u "Lcorro/core/OrderType;"), (0, .fieldref 8 22), (0, .nameAndType 23 24), (0, u "timeInForce"), (0, u "Lcorro/core/TimeInForce;"), (0, .fieldref 8 26), (0, .nameAndType 27 28), (0, u "quantity"), (0, u "J"), (0, .fieldref 8 30), (0, .nameAndType 31 28), (0, u "price"), (2, u "filled"), (2, u "book"), (0, u "Lcorro/core/OrderBook;"), (8, u "arrival"), (0, .fieldref 8 49), (0, .nameAndType 50 51), (0, u "level"), (0, u "Lcorro/core/Level;"), (0, .fieldref 8 53), (0, .nameAndType 54 55), (0, u "next"), (0, u "Lcorro/core/Order;"), (0, .fieldref 8 57), (0, .nameAndType 58 55), (0, u "previous"), (0, u "(Ljava/lang/String;Lcorro/core/Side;JLcorro/core/OrderType;JLcorro/core/TimeInForce;)V"), (6, u "()J"), (12, u "()Lcorro/core/Level;"), (0, u "()Lcorro/core/Order;"), (0, u "join"), (0, u "(Lcorro/core/Level;Lcorro/core/Order;)V")] 6

def k3c0 : Code := { maxStack := 3, maxLocals := 9, code := prog_18_method_1_code, exceptionTable := #[], attributes := #[] }
def k3m0 : Method := { name := "<init>", desc := "(Ljava/lang/String;Lcorro/core/Side;JLcorro/core/OrderType;JLcorro/core/TimeInForce;)V", sig := { parameters := [(.object "java/lang/String"), (.object "corro/core/Side"), .long, (.object "corro/core/OrderType"), .long, (.object "corro/core/TimeInForce")], returnType := none }, accessFlags := 0, code := some k3c0 }
def k3c1 : Code := { maxStack := 2, maxLocals := 1, code := prog_18_method_6_code, exceptionTable := #[], attributes := #[] }
def k3m1 : Method := { name := "price", desc := "()J", sig := { parameters := [], returnType := some .long }, accessFlags := 1, code := some k3c1 }
def k3c2 : Code := { maxStack := 2, maxLocals := 1, code := prog_18_method_8_code, exceptionTable := #[], attributes := #[] }
def k3m2 : Method := { name := "quantity", desc := "()J", sig := { parameters := [], returnType := some .long }, accessFlags := 1, code := some k3c2 }
def k3c3 : Code := { maxStack := 1, maxLocals := 1, code := prog_18_method_16_code, exceptionTable := #[], attributes := #[] }
def k3m3 : Method := { name := "level", desc := "()Lcorro/core/Level;", sig := { parameters := [], returnType := some (.object "corro/core/Level") }, accessFlags := 0, code := some k3c3 }
def k3c4 : Code := { maxStack := 1, maxLocals := 1, code := prog_18_method_17_code, exceptionTable := #[], attributes := #[] }
def k3m4 : Method := { name := "next", desc := "()Lcorro/core/Order;", sig := { parameters := [], returnType := some (.object "corro/core/Order") }, accessFlags := 0, code := some k3c4 }
def k3c5 : Code := { maxStack := 1, maxLocals := 1, code := prog_18_method_18_code, exceptionTable := #[], attributes := #[] }
def k3m5 : Method := { name := "previous", desc := "()Lcorro/core/Order;", sig := { parameters := [], returnType := some (.object "corro/core/Order") }, accessFlags := 0, code := some k3c5 }
def k3c6 : Code := { maxStack := 2, maxLocals := 3, code := prog_18_method_19_code, exceptionTable := #[], attributes := #[] }
def k3m6 : Method := { name := "join", desc := "(Lcorro/core/Level;Lcorro/core/Order;)V", sig := { parameters := [(.object "corro/core/Level"), (.object "corro/core/Order")], returnType := none }, accessFlags := 0, code := some k3c6 }
/-- corro/core/Order -/
def k3 : Class := { plain "corro/core/Order" (some 0) with
  accessFlags := 49
  interfaces := #[]
  cf := some (fileOf pool3 8 #[] #[{ accessFlags := 0, nameIndex := 5, descriptorIndex := 59, attributes := #[] }, { accessFlags := 1, nameIndex := 31, descriptorIndex := 66, attributes := #[] }, { accessFlags := 1, nameIndex := 27, descriptorIndex := 66, attributes := #[] }, { accessFlags := 0, nameIndex := 50, descriptorIndex := 79, attributes := #[] }, { accessFlags := 0, nameIndex := 54, descriptorIndex := 80, attributes := #[] }, { accessFlags := 0, nameIndex := 58, descriptorIndex := 80, attributes := #[] }, { accessFlags := 0, nameIndex := 81, descriptorIndex := 82, attributes := #[] }] 49 2 #[] #[{ accessFlags := 18, nameIndex := 11, descriptorIndex := 12, attributes := #[] }, { accessFlags := 18, nameIndex := 15, descriptorIndex := 16, attributes := #[] }, { accessFlags := 18, nameIndex := 19, descriptorIndex := 20, attributes := #[] }, { accessFlags := 18, nameIndex := 23, descriptorIndex := 24, attributes := #[] }, { accessFlags := 2, nameIndex := 31, descriptorIndex := 28, attributes := #[] }, { accessFlags := 2, nameIndex := 27, descriptorIndex := 28, attributes := #[] }, { accessFlags := 2, nameIndex := 34, descriptorIndex := 28, attributes := #[] }, { accessFlags := 2, nameIndex := 37, descriptorIndex := 38, attributes := #[] }, { accessFlags := 2, nameIndex := 47, descriptorIndex := 28, attributes := #[] }, { accessFlags := 2, nameIndex := 50, descriptorIndex := 51, attributes := #[] }, { accessFlags := 2, nameIndex := 58, descriptorIndex := 55, attributes := #[] }, { accessFlags := 2, nameIndex := 54, descriptorIndex := 55, attributes := #[] }])
  fields := #[{ name := "id", type := (.object "java/lang/String"), accessFlags := 18, slot := 0, constantValue := 0 }, { name := "side", type := (.object "corro/core/Side"), accessFlags := 18, slot := 1, constantValue := 0 }, { name := "type", type := (.object "corro/core/OrderType"), accessFlags := 18, slot := 2, constantValue := 0 }, { name := "timeInForce", type := (.object "corro/core/TimeInForce"), accessFlags := 18, slot := 3, constantValue := 0 }, { name := "price", type := .long, accessFlags := 2, slot := 4, constantValue := 0 }, { name := "quantity", type := .long, accessFlags := 2, slot := 5, constantValue := 0 }, { name := "filled", type := .long, accessFlags := 2, slot := 6, constantValue := 0 }, { name := "book", type := (.object "corro/core/OrderBook"), accessFlags := 2, slot := 7, constantValue := 0 }, { name := "arrival", type := .long, accessFlags := 2, slot := 8, constantValue := 0 }, { name := "level", type := (.object "corro/core/Level"), accessFlags := 2, slot := 9, constantValue := 0 }, { name := "previous", type := (.object "corro/core/Order"), accessFlags := 2, slot := 10, constantValue := 0 }, { name := "next", type := (.object "corro/core/Order"), accessFlags := 2, slot := 11, constantValue := 0 }]
  methods := #[k3m0, k3m1, k3m2, k3m3, k3m4, k3m5, k3m6]
  instanceTypes := #[(.object "java/lang/String"), (.object "corro/core/Side"), (.object "corro/core/OrderType"), (.object "corro/core/TimeInForce"), .long, .long, .long, (.object "corro/core/OrderBook"), .long, (.object "corro/core/Level"), (.object "corro/core/Order"), (.object "corro/core/Order")]
  staticTypes := #[]
  resolved := Array.replicate 89 none
  statics := none }

def pool4 : Array CpInfo := pool [(1, u "java/lang/Cloneable"), (0, .class_ 1), (0, u "java/lang/Object"), (0, .class_ 3)] 3

/-- java/lang/Cloneable -/
def k4 : Class := { plain "java/lang/Cloneable" (some 0) with
  accessFlags := 1537
  interfaces := #[]
  cf := some (fileOf pool4 2 #[] #[] 1537 4 #[] #[])
  fields := #[]
  methods := #[]
  instanceTypes := #[]
  staticTypes := #[]
  resolved := Array.replicate 8 none
  statics := none }

def pool5 : Array CpInfo := pool [(1, u "java/io/Serializable"), (0, .class_ 1), (0, u "java/lang/Object"), (0, .class_ 3)] 3

/-- java/io/Serializable -/
def k5 : Class := { plain "java/io/Serializable" (some 0) with
  accessFlags := 1537
  interfaces := #[]
  cf := some (fileOf pool5 2 #[] #[] 1537 4 #[] #[])
  fields := #[]
  methods := #[]
  instanceTypes := #[]
  staticTypes := #[]
  resolved := Array.replicate 8 none
  statics := none }

/-- the primitive byte -/
def k6 : Class := { plain "byte" none with kind := .primitive 'B', accessFlags := 0x411 }
/-- [B -/
def k7 : Class := { plain "[B" (some 0) with kind := .array 6 .byte, interfaces := #[4, 5], accessFlags := 1041 }

/-- the primitive int -/
def k8 : Class := { plain "int" none with kind := .primitive 'I', accessFlags := 0x411 }
/-- [I -/
def k9 : Class := { plain "[I" (some 0) with kind := .array 8 .int, interfaces := #[4, 5], accessFlags := 1041 }

def heap : Heap := #[]
def classes : Array Class := #[k0, k1, k2, k3, k4, k5, k6, k7, k8, k9]
def interned : List (Array UInt16 × Addr) := []
def slotsUsed : Nat := 0
def theMethod : MethodId := ⟨1, 1⟩
def args0 : Array Value := #[.int 5, .long 5, .long 5]
def aboutOver (below : List Frame) : State where
  vm := { classes := classes, interned := interned.toArray }
  heap := heap
  slotsUsed := slotsUsed
  threads := #[{ frames := .invoking theMethod args0 :: below }]
def below0 : List Frame := [.native { method := ⟨0, 0⟩, args := #[] }]
def about1 : State := aboutOver below0
def p0 : Program := .bare "" "" ""
def e0 : Env := launch0.env 0 0 0
theorem w_frames : about1.frames = Frame.invoking theMethod args0 :: below0 := rfl
set_option maxRecDepth 65536 in
theorem w_args : argsFit about1.vm theMethod args0 = true := by decide +kernel
set_option maxRecDepth 65536 in
theorem w_heap : heapFits about1 = true := by decide +kernel
set_option maxRecDepth 65536 in
theorem w_runnable : about1.curStatus? = some .runnable := by decide +kernel
set_option maxRecDepth 65536 in
theorem w_alone : about1.alone = true := by decide +kernel
set_option maxRecDepth 65536 in
theorem w_named : about1.methodNamed? x = some theMethod := by decide +kernel
set_option maxRecDepth 65536 in
theorem w_hears : about1.hears theMethod below0 = true := by decide +kernel
set_option maxRecDepth 65536 in
theorem w_ripe : about1.ripe theMethod args0 below0 = true := by decide +kernel
theorem w_running : about1.status = .running := rfl
set_option maxRecDepth 65536 in
theorem w_room : about1.hasRoom e0.platform room_1 = true :=
  launch0.hasRoom_least _ room_1 (by decide +kernel) (by decide +kernel) (by decide +kernel) (by decide +kernel) (by decide +kernel) (by decide +kernel)
theorem allAtoms_all (ts : List Jvm.Cond) (a : Array Jvm.Value) (st : Jvm.State) : (allAtoms ts).before a st = ts.all (fun c => c.before a st) := by
  induction ts with
  | nil => rfl
  | cons c t ih =>
    show (Jvm.Cond.and c (allAtoms t)).before a st = _
    rw [Jvm.Cond.before_and, ih, List.all_cons]
def words1 : List Jvm.Cond := Jvm.Cond.code x code maxLocals ret :: tables_1
/-- a 'code' word, met by the world's own term for the bytes: nothing is compared byte by byte -/
theorem code_word {y : MethodName} {bytes : ByteArray} {mx : Nat} {rt : Option FieldType} {a : Array Value} {s : State} {m : MethodId} {meth : Method} {c : Code} (h1 : s.methodNamed? y = some m) (h2 : s.vm.method? m = some meth) (h3 : meth.code = some c) (h4 : c.code = bytes)
    (h5 : (c.maxLocals == mx && c.exceptionTable.isEmpty && decide (c.maxStack ≤ mostOperands) && decide (meth.sig.returnType = rt) && !meth.locks && decide (parseMethodDescriptor y.desc = some meth.sig)) = true) : (Jvm.Cond.code y bytes mx rt).before a s = true := by
  simp only [Bool.and_eq_true, beq_iff_eq, Bool.not_eq_true', decide_eq_true_eq] at h5
  obtain ⟨⟨⟨⟨⟨g1, g2⟩, g3⟩, g4⟩, g5⟩, g6⟩ := h5
  simp [Cond.before, Cond.holds, Cond.value, h1, h2, h3, h4, g1, g2, g3, g4, g5, g6]
def isCode : Jvm.Cond → Bool
  | .code _ _ _ _ => true
  | _ => false
theorem all_split {L : List Jvm.Cond} {P : Jvm.Cond → Bool} (h1 : L.all (fun c => isCode c || P c) = true) (h2 : ∀ c ∈ L.filter isCode, P c = true) : L.all P = true := by
  refine List.all_eq_true.mpr fun c hc => ?_
  have h := List.all_eq_true.mp h1 c hc
  rcases Bool.eq_false_or_eq_true (isCode c) with hi | hi
  · exact h2 c (List.mem_filter.mpr ⟨hc, hi⟩)
  · simpa [hi] using h
set_option maxRecDepth 65536 in
theorem w_c0 : (Jvm.Cond.code x code maxLocals ret).before args0 about1 = true := code_word (m := ⟨1, 1⟩) (meth := k1m1) (c := k1c1) (by decide +kernel) rfl rfl rfl (by decide +kernel)
set_option maxRecDepth 65536 in
theorem w_c1 : (Jvm.Cond.code ({ cls := "corro/core/Level", name := "<init>", desc := "()V" } : Jvm.MethodName) prog_13_method_1_code (1 : Nat) (Option.none : Option Jvm.ClassFile.FieldType)).before args0 about1 = true := code_word (m := ⟨2, 0⟩) (meth := k2m0) (c := k2c0) (by decide +kernel) rfl rfl rfl (by decide +kernel)
set_option maxRecDepth 65536 in
theorem w_c2 : (Jvm.Cond.code ({ cls := "java/lang/Object", name := "<init>", desc := "()V" } : Jvm.MethodName) object_method_1_code (1 : Nat) (Option.none : Option Jvm.ClassFile.FieldType)).before args0 about1 = true := code_word (m := ⟨0, 0⟩) (meth := k0m0) (c := k0c0) (by decide +kernel) rfl rfl rfl (by decide +kernel)
set_option maxRecDepth 65536 in
theorem w_c3 : (Jvm.Cond.code ({ cls := "corro/core/Order", name := "<init>", desc := "(Ljava/lang/String;Lcorro/core/Side;JLcorro/core/OrderType;JLcorro/core/TimeInForce;)V" } : Jvm.MethodName) prog_18_method_1_code (9 : Nat) (Option.none : Option Jvm.ClassFile.FieldType)).before args0 about1 = true := code_word (m := ⟨3, 0⟩) (meth := k3m0) (c := k3c0) (by decide +kernel) rfl rfl rfl (by decide +kernel)
set_option maxRecDepth 65536 in
theorem w_c4 : (Jvm.Cond.code ({ cls := "corro/core/Order", name := "join", desc := "(Lcorro/core/Level;Lcorro/core/Order;)V" } : Jvm.MethodName) prog_18_method_19_code (3 : Nat) (Option.none : Option Jvm.ClassFile.FieldType)).before args0 about1 = true := code_word (m := ⟨3, 6⟩) (meth := k3m6) (c := k3c6) (by decide +kernel) rfl rfl rfl (by decide +kernel)
set_option maxRecDepth 65536 in
theorem w_c5 : (Jvm.Cond.code ({ cls := "corro/core/Order", name := "level", desc := "()Lcorro/core/Level;" } : Jvm.MethodName) prog_18_method_16_code (1 : Nat) (Option.some (Jvm.ClassFile.FieldType.object "corro/core/Level"))).before args0 about1 = true := code_word (m := ⟨3, 3⟩) (meth := k3m3) (c := k3c3) (by decide +kernel) rfl rfl rfl (by decide +kernel)
set_option maxRecDepth 65536 in
theorem w_c6 : (Jvm.Cond.code ({ cls := "corro/core/Order", name := "previous", desc := "()Lcorro/core/Order;" } : Jvm.MethodName) prog_18_method_18_code (1 : Nat) (Option.some (Jvm.ClassFile.FieldType.object "corro/core/Order"))).before args0 about1 = true := code_word (m := ⟨3, 5⟩) (meth := k3m5) (c := k3c5) (by decide +kernel) rfl rfl rfl (by decide +kernel)
set_option maxRecDepth 65536 in
theorem w_c7 : (Jvm.Cond.code ({ cls := "corro/core/Order", name := "next", desc := "()Lcorro/core/Order;" } : Jvm.MethodName) prog_18_method_17_code (1 : Nat) (Option.some (Jvm.ClassFile.FieldType.object "corro/core/Order"))).before args0 about1 = true := code_word (m := ⟨3, 4⟩) (meth := k3m4) (c := k3c4) (by decide +kernel) rfl rfl rfl (by decide +kernel)
set_option maxRecDepth 65536 in
theorem w_c8 : (Jvm.Cond.code ({ cls := "corro/core/Order", name := "quantity", desc := "()J" } : Jvm.MethodName) prog_18_method_8_code (1 : Nat) (Option.some Jvm.ClassFile.FieldType.long)).before args0 about1 = true := code_word (m := ⟨3, 2⟩) (meth := k3m2) (c := k3c2) (by decide +kernel) rfl rfl rfl (by decide +kernel)
set_option maxRecDepth 65536 in
theorem w_c9 : (Jvm.Cond.code ({ cls := "corro/core/Order", name := "price", desc := "()J" } : Jvm.MethodName) prog_18_method_6_code (1 : Nat) (Option.some Jvm.ClassFile.FieldType.long)).before args0 about1 = true := code_word (m := ⟨3, 1⟩) (meth := k3m1) (c := k3c1) (by decide +kernel) rfl rfl rfl (by decide +kernel)
def codes1 : List Jvm.Cond := [Jvm.Cond.code x code maxLocals ret, Jvm.Cond.code ({ cls := "corro/core/Level", name := "<init>", desc := "()V" } : Jvm.MethodName) prog_13_method_1_code (1 : Nat) (Option.none : Option Jvm.ClassFile.FieldType), Jvm.Cond.code ({ cls := "java/lang/Object", name := "<init>", desc := "()V" } : Jvm.MethodName) object_method_1_code (1 : Nat) (Option.none : Option Jvm.ClassFile.FieldType), Jvm.Cond.code ({ cls := "corro/core/Order", name := "<init>", desc := "(Ljava/lang/String;Lcorro/core/Side;JLcorro/core/OrderType;JLcorro/core/TimeInForce;)V" } : Jvm.MethodName) prog_18_method_1_code (9 : Nat) (Option.none : Option Jvm.ClassFile.FieldType), Jvm.Cond.code ({ cls := "corro/core/Order", name := "join", desc := "(Lcorro/core/Level;Lcorro/core/Order;)V" } : Jvm.MethodName) prog_18_method_19_code (3 : Nat) (Option.none : Option Jvm.ClassFile.FieldType), Jvm.Cond.code ({ cls := "corro/core/Order", name := "level", desc := "()Lcorro/core/Level;" } : Jvm.MethodName) prog_18_method_16_code (1 : Nat) (Option.some (Jvm.ClassFile.FieldType.object "corro/core/Level")), Jvm.Cond.code ({ cls := "corro/core/Order", name := "previous", desc := "()Lcorro/core/Order;" } : Jvm.MethodName) prog_18_method_18_code (1 : Nat) (Option.some (Jvm.ClassFile.FieldType.object "corro/core/Order")), Jvm.Cond.code ({ cls := "corro/core/Order", name := "next", desc := "()Lcorro/core/Order;" } : Jvm.MethodName) prog_18_method_17_code (1 : Nat) (Option.some (Jvm.ClassFile.FieldType.object "corro/core/Order")), Jvm.Cond.code ({ cls := "corro/core/Order", name := "quantity", desc := "()J" } : Jvm.MethodName) prog_18_method_8_code (1 : Nat) (Option.some Jvm.ClassFile.FieldType.long), Jvm.Cond.code ({ cls := "corro/core/Order", name := "price", desc := "()J" } : Jvm.MethodName) prog_18_method_6_code (1 : Nat) (Option.some Jvm.ClassFile.FieldType.long)]
set_option maxRecDepth 65536 in
theorem codes_eq : words1.filter isCode = codes1 := rfl
theorem w_codes : ∀ c ∈ words1.filter isCode, c.before args0 about1 = true := by
  rw [codes_eq]
  intro c hc
  simp only [codes1, List.mem_cons, List.not_mem_nil, or_false] at hc
  rcases hc with rfl | rfl | rfl | rfl | rfl | rfl | rfl | rfl | rfl | rfl
  · exact w_c0
  · exact w_c1
  · exact w_c2
  · exact w_c3
  · exact w_c4
  · exact w_c5
  · exact w_c6
  · exact w_c7
  · exact w_c8
  · exact w_c9
set_option maxRecDepth 65536 in
theorem w_t1 : (words1.take 24).all (fun c => isCode c || c.before args0 about1) = true := by decide +kernel
set_option maxRecDepth 65536 in
theorem w_t2 : ((words1.drop 24).take 24).all (fun c => isCode c || c.before args0 about1) = true := by decide +kernel
set_option maxRecDepth 65536 in
theorem w_t3 : ((words1.drop 24).drop 24).all (fun c => isCode c || c.before args0 about1) = true := by decide +kernel
theorem w_tables : (allAtoms (Jvm.Cond.code x code maxLocals ret :: tables_1)).before args0 about1 = true := by
  rw [allAtoms_all]
  show words1.all (fun c => c.before args0 about1) = true
  refine all_split ?_ w_codes
  rw [← List.take_append_drop 24 words1, List.all_append, w_t1, ← List.take_append_drop 24 (words1.drop 24), List.all_append, w_t2, w_t3]
  rfl
set_option maxRecDepth 65536 in
theorem w_case : (Jvm.Cond.and given_1 narrow_1).before args0 about1 = true := by decide +kernel
theorem w_applies : (headSpec (Jvm.Cond.code x code maxLocals ret :: tables_1) room_1).applies x e0.platform about1 = true :=
  (Spec.applies_iff w_frames).mpr ⟨w_running, w_runnable, w_alone, w_named, w_hears, w_ripe, w_room, w_tables⟩
theorem atStart : AtStart classFile x code maxLocals ret World_1 tables_1 room_1 Calls_1 rest_1 Pre_1 launch0 p0 e0 about1 theMethod args0 below0 :=
  ⟨lists_1, trivial, launch0.admits_env _ _ _, launch0.least_env, fairChoices_fair.cas, fairChoices_fair.clock, w_frames, w_args, w_heap, w_applies, trivial, trivial, w_case⟩
end start1
theorem witness_1 : WitnessClaimed_1 := ⟨start1.p0, start1.e0, start1.about1, start1.theMethod, start1.args0, start1.below0, start1.atStart⟩
end Jvm.Pilot.@@N@@
