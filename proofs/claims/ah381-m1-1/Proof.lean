import JvmDerived
import JvmDerived.Pilot.@@N@@Statement
import JvmDerived.Pilot.@@N@@Code
set_option linter.unusedVariables false
set_option linter.unusedSimpArgs false
namespace Jvm.RoadKit
open Sem ClassFile Op Lib Jvm.Stand Jvm.Free Jvm.LawKit
section Own
variable {p : Program} {l : Launch} {e : Env} {R : Room} {s : State} {m : MethodId} {args : Array Value} {below : List Frame} {meth : Method} {c : Code} {T T' : State} {locs : List Loc} {cells slots : Nat} {g g' : JFrame} {Φ : State → Prop}
/-- from this frame the run comes to a state with Φ -/
def own_G (p : Program) (e : Env) (below : List Frame) (Φ : State → Prop) (T : State) (g : JFrame) : Prop := ∃ t, Steps p.tables e below (T.setTop g) t ∧ Φ t
/-- what the end of a method with the answer Q is -/
def own_E (s : State) (below : List Frame) (Q : Option Value → Heap → List Loc → Prop) (k n : Nat) (t : State) : Prop := ∃ o, t.status = .running ∧ Ended t below o ∧ ∃ v L, o = .returned v ∧ Q v t.heap L ∧ FrameEnd s o t L k n
def own_Al (_ : Stand p l e R s m args below meth c T locs cells slots) (T' : State) : Prop := Stand p l e R s m args below meth c T' locs cells slots
theorem own_go (h : ∀ t, Steps p.tables e below (T'.setTop g') t → Steps p.tables e below (T.setTop g) t) (k : own_G p e below Φ T' g') : own_G p e below Φ T g := by
  obtain ⟨t, a, b⟩ := k
  exact ⟨t, h t a, b⟩
theorem own_on (h : Steps p.tables e below (T.setTop g) (T'.setTop g')) (k : own_G p e below Φ T' g') : own_G p e below Φ T g := by
  obtain ⟨t, a, b⟩ := k
  exact ⟨t, h.trans a, b⟩
theorem own_ret (X : Stand p l e R s m args below meth c T locs cells slots) {Q : Option Value → Heap → List Loc → Prop} {k n : Nat} {v : Option Value} (hv : meth.sig.returnType = none → v = none) (hlocks : meth.locks = false)
    (hst : ∀ fs, (∀ (f : JFrame) (acts : List Action), f.method = m → f.locked = none → f.entered = [] → (doReturn e (T.setTop f) acts v).1 = T.setFrames fs) → Steps p.tables e below (T.setTop g) (T.setFrames fs))
    (hq : Q v T.heap locs) (hc : cells ≤ k) (hn : slots ≤ n) : own_G p e below (own_E s below Q k n) T g := by
  obtain ⟨fs, hr, hrun, hended, hW, hsame⟩ := X.leave hv hlocks
  exact ⟨_, hst fs hr, _, hrun, hended, _, _, rfl, hq, ⟨_, rfl⟩, hW, hsame.mono hc hn⟩
def own_EW (s : State) (below : List Frame) (Q : Option Value → Heap → List Loc → Prop) (k n : Nat) (t : State) : Prop := ∃ o, t.status = .running ∧ Ended t below o ∧ ∃ v L, o = .returned v ∧ Q v t.heap L ∧ ReturnedEndW s o t L k n
theorem own_retW {vm₁ : Vm} (X : Stand p l e R (s.setVm vm₁) m args below meth c T locs cells slots) {q : Nat} (hS : s.Since vm₁ q) (hq' : q ≤ T.heap.size) {Q : Option Value → Heap → List Loc → Prop} {k n : Nat} {v : Option Value} (hv : meth.sig.returnType = none → v = none) (hlocks : meth.locks = false)
    (hst : ∀ fs, (∀ (f : JFrame) (acts : List Action), f.method = m → f.locked = none → f.entered = [] → (doReturn e (T.setTop f) acts v).1 = T.setFrames fs) → Steps p.tables e below (T.setTop g) (T.setFrames fs))
    (hq : Q v T.heap locs) (hc : cells ≤ k) (hn : slots ≤ n) : own_G p e below (own_EW s below Q k n) T g := by
  obtain ⟨fs, hr, hrun, hended, h1, h2, h3, h4⟩ := X.leaveW hS hq' hv hlocks
  exact ⟨_, hst fs hr, _, hrun, hended, _, _, rfl, hq, h1, h2, h3, h4.mono hc hn⟩
theorem own_lrem_eq (x y : Int64) : x - (x / y) * y = x % y := by
  apply Int64.toInt_inj.mp
  have r := rng64 (x % y)
  have hm : (x % y).toInt = x.toInt - y.toInt * x.toInt.tdiv y.toInt := by rw [Int64.toInt_mod, Int.tmod_def]
  have hs : (x - x / y * y).toInt = (x.toInt - y.toInt * x.toInt.tdiv y.toInt).bmod (2 ^ 64) := by
    rw [Int64.toInt_sub, Int64.toInt_mul, Int64.toInt_div, Int.bmod_mul_bmod, Int.sub_bmod_bmod, Int.mul_comm]
  rw [hs, ← hm]
  exact Int.bmod_eq_of_le (by omega) (by omega)
theorem own_lremM {target : State} (X : Stand p l e R s m args below meth c T locs cells slots) (hx : p.tables.exec = Jvm.exec) (hg : g.method = m) {x y : Int64} {rest : List Value} (hd : decode c.code g.pc = .ok (.lrem, 1)) (hs : g.stack = .long y :: .long x :: rest) (hy : y ≠ 0)
    (hr : Steps p.tables e below (T.setTop { g with pc := g.pc + 1, stack := .long (x % y) :: rest }) target) : Steps p.tables e below (T.setTop g) target :=
  XS.lrem X.here hx hg hd hs hy (by rw [own_lrem_eq]; exact hr)
theorem own_nar {v : Value} {t : FieldType} (h : v.isRef = true) : narrow t v = v := by
  rcases ref_cases h with rfl | ⟨a, rfl⟩ <;> cases t <;> rfl
end Own
end Jvm.RoadKit
namespace Jvm.Pilot.@@N@@
open Jvm Jvm.ClassFile Sem Op Lib Jvm.Free Jvm.Stand Jvm.LawKit Jvm.RoadKit Bundle Jvm.Pilot.@@N@@.Jvm.D

theorem own_mask (p : Int32) : 0 ≤ (p &&& (2147483647 : Int32)).toInt := by
  have h := mt (Jvm.Free.XT.and_neg32 p (2147483647 : Int32)).mp (fun q => absurd q.2 (by decide))
  rw [Jvm.Free.XT.negI32] at h
  omega
theorem own_mod (p q : Int32) (hq : 0 < q.toInt) : 0 ≤ ((p &&& (2147483647 : Int32)) % q).toInt ∧ ((p &&& (2147483647 : Int32)) % q).toInt < q.toInt := by
  rw [Int32.toInt_mod]
  exact ⟨Int.tmod_nonneg _ (own_mask p), Int.tmod_lt_of_pos _ hq⟩
theorem own_i {x : Int32} (y : Int32) (h : x.toInt = y.toInt) : x = y := Int32.toInt_inj.mp h
theorem own_n {p x : Int32} (h : (1 : Int32) + ((p &&& (2147483647 : Int32)) % (3 : Int32)) = x) : x = 1 ∨ x = 2 ∨ x = 3 := by
  have hm := own_mod p 3 (by decide)
  have h1 : (1 : Int32).toInt = 1 := by decide
  have h3 : (3 : Int32).toInt = 3 := by decide
  rw [h3] at hm
  have ha : x.toInt = 1 + ((p &&& (2147483647 : Int32)) % (3 : Int32)).toInt := by
    rw [← h, Jvm.Free.XT.add32 ⟨by omega, by omega⟩, h1]
  have q : x.toInt = 1 ∨ x.toInt = 2 ∨ x.toInt = 3 := by omega
  rcases q with q | q | q
  · exact Or.inl (own_i 1 q)
  · exact Or.inr (Or.inl (own_i 2 q))
  · exact Or.inr (Or.inr (own_i 3 q))
theorem own_cases {p q n k : Int32} (h : (1 : Int32) + ((p &&& (2147483647 : Int32)) % (3 : Int32)) = n) (h' : (q &&& (2147483647 : Int32)) % n = k) :
    (n = 1 ∧ k = 0) ∨ (n = 2 ∧ k = 0) ∨ (n = 2 ∧ k = 1) ∨ (n = 3 ∧ k = 0) ∨ (n = 3 ∧ k = 1) ∨ (n = 3 ∧ k = 2) := by
  rcases own_n h with rfl | rfl | rfl
  · have hm := own_mod q 1 (by decide)
    rw [h', show (1 : Int32).toInt = 1 by decide] at hm
    exact Or.inl ⟨rfl, own_i 0 (by rw [show (0 : Int32).toInt = 0 by decide]; omega)⟩
  · have hm := own_mod q 2 (by decide)
    rw [h', show (2 : Int32).toInt = 2 by decide] at hm
    have q : k.toInt = 0 ∨ k.toInt = 1 := by omega
    rcases q with q | q
    · exact Or.inr (Or.inl ⟨rfl, own_i 0 q⟩)
    · exact Or.inr (Or.inr (Or.inl ⟨rfl, own_i 1 q⟩))
  · have hm := own_mod q 3 (by decide)
    rw [h', show (3 : Int32).toInt = 3 by decide] at hm
    have q : k.toInt = 0 ∨ k.toInt = 1 ∨ k.toInt = 2 := by omega
    rcases q with q | q | q
    · exact Or.inr (Or.inr (Or.inr (Or.inl ⟨rfl, own_i 0 q⟩)))
    · exact Or.inr (Or.inr (Or.inr (Or.inr (Or.inl ⟨rfl, own_i 1 q⟩))))
    · exact Or.inr (Or.inr (Or.inr (Or.inr (Or.inr ⟨rfl, own_i 2 q⟩))))
theorem own_ne0 {p n : Int32} (h : (1 : Int32) + ((p &&& (2147483647 : Int32)) % (3 : Int32)) = n) : n ≠ 0 := by
  rcases own_n h with rfl | rfl | rfl <;> decide

theorem d1_0 : decode prog_13_method_1_code 0 = .ok (.aload_n 0, 1) := by decide +kernel
theorem d1_1 : decode prog_13_method_1_code 1 = .ok (.invokespecial 1, 3) := by decide +kernel
theorem wd_7 {Z : State} {a0 : Array Value} (hw : ∀ d ∈ tables_1, d.before a0 Z = true) : ((Jvm.Cond.methodLink "corro/core/Level" (1 : Nat) ({ cls := "java/lang/Object", name := "<init>", desc := "()V" } : Jvm.MethodName)) : Jvm.Cond).before a0 Z = true := hw _ (List.mem_of_getElem? (i := 7) rfl)
theorem wd_8 {Z : State} {a0 : Array Value} (hw : ∀ d ∈ tables_1, d.before a0 Z = true) : ((Jvm.Cond.instanceMethod ({ cls := "java/lang/Object", name := "<init>", desc := "()V" } : Jvm.MethodName)) : Jvm.Cond).before a0 Z = true := hw _ (List.mem_of_getElem? (i := 8) rfl)
theorem wd_9 {Z : State} {a0 : Array Value} (hw : ∀ d ∈ tables_1, d.before a0 Z = true) : ((Jvm.Cond.code ({ cls := "java/lang/Object", name := "<init>", desc := "()V" } : Jvm.MethodName) object_method_1_code (1 : Nat) (Option.none : Option Jvm.ClassFile.FieldType)) : Jvm.Cond).before a0 Z = true := hw _ (List.mem_of_getElem? (i := 9) rfl)
theorem d1_4 : decode prog_13_method_1_code 4 = .ok (.return_, 1) := by decide +kernel
theorem pn_0 : plainName "corro/core/Level" = true := by first | (simp [plainName, overriddenIn]; done) | decide +kernel
theorem ef_rmL (m : MethodId) (a1 : Addr) : entryFrame m #[(.ref a1)] 1 = mkF m 0 #[.val (.ref a1)] [] := by first | (simp [entryFrame, mkF, argsToLocals, Value.category]; done) | rfl
def Q_rmL (Z : State) (a1 : Addr) (h0 : Heap) (n0 : Nat) (v : Option Value) (h : Heap) (L : List Loc) : Prop := v = none ∧ Fr n0 L ∧ h = h0
set_option maxRecDepth 65536 in
set_option maxHeartbeats 40000000 in
theorem rmL (l : Launch) (Z : State) (a0 : Array Value) (hw : ∀ d ∈ tables_1, d.before a0 Z = true) (ws : List Jvm.Cond) (a1 : Addr) (h0 : Heap) (n0 : Nat) (Z0 : n0 ≤ h0.size)  :
    MetFree l (⟨"corro/core/Level", "<init>", "()V"⟩ : MethodName) (head1 (Jvm.Cond.code (⟨"corro/core/Level", "<init>", "()V"⟩ : MethodName) prog_13_method_1_code 1 none :: ws) ({ frames := 1, cells := 0, slots := 0, locals := 12 } : Room)) (fun a U => a = #[(.ref a1)] ∧ Z.Warmed39 U.vm ∧ U.heap = h0) (fun _ _ _ _ _ => True) (fun _ U o U' => ∃ v L, o = .returned v ∧ Q_rmL Z a1 h0 n0 v U'.heap L ∧ FrameEnd U o U' L ({ frames := 1, cells := 0, slots := 0, locals := 12 } : Room).cells ({ frames := 1, cells := 0, slots := 0, locals := 12 } : Room).slots) := by
  refine MetFree.of_bodySF (plainFor_of_name pn_0) hisR ?_
  intro p e s m args below meth c s₁ Bd hml0 hP hK
  obtain ⟨rfl, hZ, hh⟩ := hP
  have hx := Bd.exec
  have hby := Bd.bytes
  have hml : c.maxLocals = 1 := hml0
  have hown : s.vm.findClass "corro/core/Level" = some m.cls := findClass_of_methodNamed Bd.named
  have hnm := (name_of_methodNamed Bd.named Bd.method).1
  have X0 : Stand p l e ({ frames := 1, cells := 0, slots := 0, locals := 12 } : Room) s m #[(.ref a1)] below meth c s₁ [] 0 0 := Stand.of_body Bd
  have e0 : s₁.heap = h0 := by rw [← hh, Bd.state]; rfl
  have N0 := Fr.nil n0
  suffices G0 : own_G p e below (own_E s below (Q_rmL Z a1 h0 n0) ({ frames := 1, cells := 0, slots := 0, locals := 12 } : Room).cells ({ frames := 1, cells := 0, slots := 0, locals := 12 } : Room).slots) s₁ (mkF m 0 #[.val (.ref a1)] []) by
    obtain ⟨zt, zst, zo, zq1, zq2, zq3⟩ := G0
    exact ⟨zt, zo, castTop (ef_rmL m a1) zst, zq1, zq2, zq3⟩
  obtain ⟨Φ, hΦ⟩ : ∃ Φ, Φ = own_E s below (Q_rmL Z a1 h0 n0) ({ frames := 1, cells := 0, slots := 0, locals := 12 } : Room).cells ({ frames := 1, cells := 0, slots := 0, locals := 12 } : Room).slots := ⟨_, rfl⟩
  rw [← hΦ]
  show own_G p e below Φ s₁ (mkF m 0 #[.val (.ref a1)] [])
  refine own_go (fun _ => XS.aloadN X0.here hx rfl (hb hby d1_0) rfl rfl) ?_
  show own_G p e below Φ s₁ (mkF m 1 #[.val (.ref a1)] [(.ref a1)])
  obtain ⟨T1, X1, e1, st1⟩ := initO X0 hx hZ hown (wd_7 hw) (wd_8 hw) (wd_9 hw) e0 (g := (mkF m 1 #[.val (.ref a1)] [(.ref a1)])) rfl (by rw [hml]; rfl) rfl (hb hby d1_1) (by decide) (W := 0) (by show 2 * 0 + _ ≤ _; exact Nat.le_of_eq rfl) (by decide)
  refine own_go st1 ?_
  show own_G p e below Φ T1 (mkF m 4 #[.val (.ref a1)] [])
  rw [hΦ]
  refine own_ret X1 (v := none) (fun _ => rfl) (BodyLoose.notSynchronized Bd) (fun fs hr => X1.returnOut hx Bd.returns (hb hby d1_4) hr) ?_ (by decide) (by decide)
  rw [e1]
  exact ⟨rfl, N0, rfl⟩
theorem d3_0 : decode prog_18_method_1_code 0 = .ok (.aload_n 0, 1) := by decide +kernel
theorem d3_1 : decode prog_18_method_1_code 1 = .ok (.invokespecial 1, 3) := by decide +kernel
theorem wd_17 {Z : State} {a0 : Array Value} (hw : ∀ d ∈ tables_1, d.before a0 Z = true) : ((Jvm.Cond.methodLink "corro/core/Order" (1 : Nat) ({ cls := "java/lang/Object", name := "<init>", desc := "()V" } : Jvm.MethodName)) : Jvm.Cond).before a0 Z = true := hw _ (List.mem_of_getElem? (i := 17) rfl)
theorem d3_4 : decode prog_18_method_1_code 4 = .ok (.aload_n 0, 1) := by decide +kernel
theorem d3_5 : decode prog_18_method_1_code 5 = .ok (.aload_n 1, 1) := by decide +kernel
theorem d3_6 : decode prog_18_method_1_code 6 = .ok (.putfield 7, 3) := by decide +kernel
theorem wd_18 {Z : State} {a0 : Array Value} (hw : ∀ d ∈ tables_1, d.before a0 Z = true) : ((Jvm.Cond.fieldLink "corro/core/Order" (7 : Nat) "corro/core/Order" "id" "Ljava/lang/String;") : Jvm.Cond).before a0 Z = true := hw _ (List.mem_of_getElem? (i := 18) rfl)
theorem wd_19 {Z : State} {a0 : Array Value} (hw : ∀ d ∈ tables_1, d.before a0 Z = true) : ((Jvm.Cond.laysFinal "corro/core/Order" "corro/core/Order" "id" "Ljava/lang/String;") : Jvm.Cond).before a0 Z = true := hw _ (List.mem_of_getElem? (i := 19) rfl)
theorem wd_12 {Z : State} {a0 : Array Value} (hw : ∀ d ∈ tables_1, d.before a0 Z = true) : ((Jvm.Cond.instantiable "corro/core/Order" (12 : Nat)) : Jvm.Cond).before a0 Z = true := hw _ (List.mem_of_getElem? (i := 12) rfl)
theorem d3_9 : decode prog_18_method_1_code 9 = .ok (.aload_n 0, 1) := by decide +kernel
theorem d3_10 : decode prog_18_method_1_code 10 = .ok (.aload_n 2, 1) := by decide +kernel
theorem d3_11 : decode prog_18_method_1_code 11 = .ok (.putfield 13, 3) := by decide +kernel
theorem wd_20 {Z : State} {a0 : Array Value} (hw : ∀ d ∈ tables_1, d.before a0 Z = true) : ((Jvm.Cond.fieldLink "corro/core/Order" (13 : Nat) "corro/core/Order" "side" "Lcorro/core/Side;") : Jvm.Cond).before a0 Z = true := hw _ (List.mem_of_getElem? (i := 20) rfl)
theorem wd_21 {Z : State} {a0 : Array Value} (hw : ∀ d ∈ tables_1, d.before a0 Z = true) : ((Jvm.Cond.laysFinal "corro/core/Order" "corro/core/Order" "side" "Lcorro/core/Side;") : Jvm.Cond).before a0 Z = true := hw _ (List.mem_of_getElem? (i := 21) rfl)
theorem sl_0 {Z : State} {a0 : Array Value} (hw : ∀ d ∈ tables_1, d.before a0 Z = true) : Jvm.RoadKit.slotOf Z "corro/core/Order" "side" "Lcorro/core/Side;" ≠ Jvm.RoadKit.slotOf Z "corro/core/Order" "id" "Ljava/lang/String;" := slot_ne (C := "corro/core/Order") (Or.inr (wd_21 hw)) (Or.inr (wd_19 hw)) (by decide) (t := (.object "corro/core/Side")) (t' := (.object "java/lang/String")) (by decide) (by decide)
theorem d3_14 : decode prog_18_method_1_code 14 = .ok (.aload_n 0, 1) := by decide +kernel
theorem d3_15 : decode prog_18_method_1_code 15 = .ok (.aload 5, 2) := by decide +kernel
theorem d3_17 : decode prog_18_method_1_code 17 = .ok (.putfield 17, 3) := by decide +kernel
theorem wd_22 {Z : State} {a0 : Array Value} (hw : ∀ d ∈ tables_1, d.before a0 Z = true) : ((Jvm.Cond.fieldLink "corro/core/Order" (17 : Nat) "corro/core/Order" "type" "Lcorro/core/OrderType;") : Jvm.Cond).before a0 Z = true := hw _ (List.mem_of_getElem? (i := 22) rfl)
theorem wd_23 {Z : State} {a0 : Array Value} (hw : ∀ d ∈ tables_1, d.before a0 Z = true) : ((Jvm.Cond.laysFinal "corro/core/Order" "corro/core/Order" "type" "Lcorro/core/OrderType;") : Jvm.Cond).before a0 Z = true := hw _ (List.mem_of_getElem? (i := 23) rfl)
theorem sl_1 {Z : State} {a0 : Array Value} (hw : ∀ d ∈ tables_1, d.before a0 Z = true) : Jvm.RoadKit.slotOf Z "corro/core/Order" "type" "Lcorro/core/OrderType;" ≠ Jvm.RoadKit.slotOf Z "corro/core/Order" "id" "Ljava/lang/String;" := slot_ne (C := "corro/core/Order") (Or.inr (wd_23 hw)) (Or.inr (wd_19 hw)) (by decide) (t := (.object "corro/core/OrderType")) (t' := (.object "java/lang/String")) (by decide) (by decide)
theorem sl_2 {Z : State} {a0 : Array Value} (hw : ∀ d ∈ tables_1, d.before a0 Z = true) : Jvm.RoadKit.slotOf Z "corro/core/Order" "type" "Lcorro/core/OrderType;" ≠ Jvm.RoadKit.slotOf Z "corro/core/Order" "side" "Lcorro/core/Side;" := slot_ne (C := "corro/core/Order") (Or.inr (wd_23 hw)) (Or.inr (wd_21 hw)) (by decide) (t := (.object "corro/core/OrderType")) (t' := (.object "corro/core/Side")) (by decide) (by decide)
theorem d3_20 : decode prog_18_method_1_code 20 = .ok (.aload_n 0, 1) := by decide +kernel
theorem d3_21 : decode prog_18_method_1_code 21 = .ok (.aload 8, 2) := by decide +kernel
theorem d3_23 : decode prog_18_method_1_code 23 = .ok (.putfield 21, 3) := by decide +kernel
theorem wd_24 {Z : State} {a0 : Array Value} (hw : ∀ d ∈ tables_1, d.before a0 Z = true) : ((Jvm.Cond.fieldLink "corro/core/Order" (21 : Nat) "corro/core/Order" "timeInForce" "Lcorro/core/TimeInForce;") : Jvm.Cond).before a0 Z = true := hw _ (List.mem_of_getElem? (i := 24) rfl)
theorem wd_25 {Z : State} {a0 : Array Value} (hw : ∀ d ∈ tables_1, d.before a0 Z = true) : ((Jvm.Cond.laysFinal "corro/core/Order" "corro/core/Order" "timeInForce" "Lcorro/core/TimeInForce;") : Jvm.Cond).before a0 Z = true := hw _ (List.mem_of_getElem? (i := 25) rfl)
theorem sl_3 {Z : State} {a0 : Array Value} (hw : ∀ d ∈ tables_1, d.before a0 Z = true) : Jvm.RoadKit.slotOf Z "corro/core/Order" "timeInForce" "Lcorro/core/TimeInForce;" ≠ Jvm.RoadKit.slotOf Z "corro/core/Order" "id" "Ljava/lang/String;" := slot_ne (C := "corro/core/Order") (Or.inr (wd_25 hw)) (Or.inr (wd_19 hw)) (by decide) (t := (.object "corro/core/TimeInForce")) (t' := (.object "java/lang/String")) (by decide) (by decide)
theorem sl_4 {Z : State} {a0 : Array Value} (hw : ∀ d ∈ tables_1, d.before a0 Z = true) : Jvm.RoadKit.slotOf Z "corro/core/Order" "timeInForce" "Lcorro/core/TimeInForce;" ≠ Jvm.RoadKit.slotOf Z "corro/core/Order" "side" "Lcorro/core/Side;" := slot_ne (C := "corro/core/Order") (Or.inr (wd_25 hw)) (Or.inr (wd_21 hw)) (by decide) (t := (.object "corro/core/TimeInForce")) (t' := (.object "corro/core/Side")) (by decide) (by decide)
theorem sl_5 {Z : State} {a0 : Array Value} (hw : ∀ d ∈ tables_1, d.before a0 Z = true) : Jvm.RoadKit.slotOf Z "corro/core/Order" "timeInForce" "Lcorro/core/TimeInForce;" ≠ Jvm.RoadKit.slotOf Z "corro/core/Order" "type" "Lcorro/core/OrderType;" := slot_ne (C := "corro/core/Order") (Or.inr (wd_25 hw)) (Or.inr (wd_23 hw)) (by decide) (t := (.object "corro/core/TimeInForce")) (t' := (.object "corro/core/OrderType")) (by decide) (by decide)
theorem d3_26 : decode prog_18_method_1_code 26 = .ok (.aload_n 0, 1) := by decide +kernel
theorem d3_27 : decode prog_18_method_1_code 27 = .ok (.lload_n 3, 1) := by decide +kernel
theorem d3_28 : decode prog_18_method_1_code 28 = .ok (.putfield 25, 3) := by decide +kernel
theorem wd_26 {Z : State} {a0 : Array Value} (hw : ∀ d ∈ tables_1, d.before a0 Z = true) : ((Jvm.Cond.fieldLink "corro/core/Order" (25 : Nat) "corro/core/Order" "quantity" "J") : Jvm.Cond).before a0 Z = true := hw _ (List.mem_of_getElem? (i := 26) rfl)
theorem wd_27 {Z : State} {a0 : Array Value} (hw : ∀ d ∈ tables_1, d.before a0 Z = true) : ((Jvm.Cond.lays "corro/core/Order" "corro/core/Order" "quantity" "J") : Jvm.Cond).before a0 Z = true := hw _ (List.mem_of_getElem? (i := 27) rfl)
theorem sl_6 {Z : State} {a0 : Array Value} (hw : ∀ d ∈ tables_1, d.before a0 Z = true) : Jvm.RoadKit.slotOf Z "corro/core/Order" "quantity" "J" ≠ Jvm.RoadKit.slotOf Z "corro/core/Order" "id" "Ljava/lang/String;" := slot_ne (C := "corro/core/Order") (Or.inl (wd_27 hw)) (Or.inr (wd_19 hw)) (by decide) (t := .long) (t' := (.object "java/lang/String")) (by decide) (by decide)
theorem sl_7 {Z : State} {a0 : Array Value} (hw : ∀ d ∈ tables_1, d.before a0 Z = true) : Jvm.RoadKit.slotOf Z "corro/core/Order" "quantity" "J" ≠ Jvm.RoadKit.slotOf Z "corro/core/Order" "side" "Lcorro/core/Side;" := slot_ne (C := "corro/core/Order") (Or.inl (wd_27 hw)) (Or.inr (wd_21 hw)) (by decide) (t := .long) (t' := (.object "corro/core/Side")) (by decide) (by decide)
theorem sl_8 {Z : State} {a0 : Array Value} (hw : ∀ d ∈ tables_1, d.before a0 Z = true) : Jvm.RoadKit.slotOf Z "corro/core/Order" "quantity" "J" ≠ Jvm.RoadKit.slotOf Z "corro/core/Order" "type" "Lcorro/core/OrderType;" := slot_ne (C := "corro/core/Order") (Or.inl (wd_27 hw)) (Or.inr (wd_23 hw)) (by decide) (t := .long) (t' := (.object "corro/core/OrderType")) (by decide) (by decide)
theorem sl_9 {Z : State} {a0 : Array Value} (hw : ∀ d ∈ tables_1, d.before a0 Z = true) : Jvm.RoadKit.slotOf Z "corro/core/Order" "quantity" "J" ≠ Jvm.RoadKit.slotOf Z "corro/core/Order" "timeInForce" "Lcorro/core/TimeInForce;" := slot_ne (C := "corro/core/Order") (Or.inl (wd_27 hw)) (Or.inr (wd_25 hw)) (by decide) (t := .long) (t' := (.object "corro/core/TimeInForce")) (by decide) (by decide)
theorem d3_31 : decode prog_18_method_1_code 31 = .ok (.aload_n 0, 1) := by decide +kernel
theorem d3_32 : decode prog_18_method_1_code 32 = .ok (.lload 6, 2) := by decide +kernel
theorem d3_34 : decode prog_18_method_1_code 34 = .ok (.putfield 29, 3) := by decide +kernel
theorem wd_28 {Z : State} {a0 : Array Value} (hw : ∀ d ∈ tables_1, d.before a0 Z = true) : ((Jvm.Cond.fieldLink "corro/core/Order" (29 : Nat) "corro/core/Order" "price" "J") : Jvm.Cond).before a0 Z = true := hw _ (List.mem_of_getElem? (i := 28) rfl)
theorem wd_29 {Z : State} {a0 : Array Value} (hw : ∀ d ∈ tables_1, d.before a0 Z = true) : ((Jvm.Cond.lays "corro/core/Order" "corro/core/Order" "price" "J") : Jvm.Cond).before a0 Z = true := hw _ (List.mem_of_getElem? (i := 29) rfl)
theorem sl_10 {Z : State} {a0 : Array Value} (hw : ∀ d ∈ tables_1, d.before a0 Z = true) : Jvm.RoadKit.slotOf Z "corro/core/Order" "price" "J" ≠ Jvm.RoadKit.slotOf Z "corro/core/Order" "id" "Ljava/lang/String;" := slot_ne (C := "corro/core/Order") (Or.inl (wd_29 hw)) (Or.inr (wd_19 hw)) (by decide) (t := .long) (t' := (.object "java/lang/String")) (by decide) (by decide)
theorem sl_11 {Z : State} {a0 : Array Value} (hw : ∀ d ∈ tables_1, d.before a0 Z = true) : Jvm.RoadKit.slotOf Z "corro/core/Order" "price" "J" ≠ Jvm.RoadKit.slotOf Z "corro/core/Order" "side" "Lcorro/core/Side;" := slot_ne (C := "corro/core/Order") (Or.inl (wd_29 hw)) (Or.inr (wd_21 hw)) (by decide) (t := .long) (t' := (.object "corro/core/Side")) (by decide) (by decide)
theorem sl_12 {Z : State} {a0 : Array Value} (hw : ∀ d ∈ tables_1, d.before a0 Z = true) : Jvm.RoadKit.slotOf Z "corro/core/Order" "price" "J" ≠ Jvm.RoadKit.slotOf Z "corro/core/Order" "type" "Lcorro/core/OrderType;" := slot_ne (C := "corro/core/Order") (Or.inl (wd_29 hw)) (Or.inr (wd_23 hw)) (by decide) (t := .long) (t' := (.object "corro/core/OrderType")) (by decide) (by decide)
theorem sl_13 {Z : State} {a0 : Array Value} (hw : ∀ d ∈ tables_1, d.before a0 Z = true) : Jvm.RoadKit.slotOf Z "corro/core/Order" "price" "J" ≠ Jvm.RoadKit.slotOf Z "corro/core/Order" "timeInForce" "Lcorro/core/TimeInForce;" := slot_ne (C := "corro/core/Order") (Or.inl (wd_29 hw)) (Or.inr (wd_25 hw)) (by decide) (t := .long) (t' := (.object "corro/core/TimeInForce")) (by decide) (by decide)
theorem sl_14 {Z : State} {a0 : Array Value} (hw : ∀ d ∈ tables_1, d.before a0 Z = true) : Jvm.RoadKit.slotOf Z "corro/core/Order" "price" "J" ≠ Jvm.RoadKit.slotOf Z "corro/core/Order" "quantity" "J" := slot_ne (C := "corro/core/Order") (Or.inl (wd_29 hw)) (Or.inl (wd_27 hw)) (by decide) (t := .long) (t' := .long) (by decide) (by decide)
theorem d3_37 : decode prog_18_method_1_code 37 = .ok (.return_, 1) := by decide +kernel
theorem wd_37 {Z : State} {a0 : Array Value} (hw : ∀ d ∈ tables_1, d.before a0 Z = true) : ((Jvm.Cond.lays "corro/core/Order" "corro/core/Order" "level" "Lcorro/core/Level;") : Jvm.Cond).before a0 Z = true := hw _ (List.mem_of_getElem? (i := 37) rfl)
theorem sl_15 {Z : State} {a0 : Array Value} (hw : ∀ d ∈ tables_1, d.before a0 Z = true) : Jvm.RoadKit.slotOf Z "corro/core/Order" "level" "Lcorro/core/Level;" ≠ Jvm.RoadKit.slotOf Z "corro/core/Order" "id" "Ljava/lang/String;" := slot_ne (C := "corro/core/Order") (Or.inl (wd_37 hw)) (Or.inr (wd_19 hw)) (by decide) (t := (.object "corro/core/Level")) (t' := (.object "java/lang/String")) (by decide) (by decide)
theorem sl_16 {Z : State} {a0 : Array Value} (hw : ∀ d ∈ tables_1, d.before a0 Z = true) : Jvm.RoadKit.slotOf Z "corro/core/Order" "level" "Lcorro/core/Level;" ≠ Jvm.RoadKit.slotOf Z "corro/core/Order" "side" "Lcorro/core/Side;" := slot_ne (C := "corro/core/Order") (Or.inl (wd_37 hw)) (Or.inr (wd_21 hw)) (by decide) (t := (.object "corro/core/Level")) (t' := (.object "corro/core/Side")) (by decide) (by decide)
theorem sl_17 {Z : State} {a0 : Array Value} (hw : ∀ d ∈ tables_1, d.before a0 Z = true) : Jvm.RoadKit.slotOf Z "corro/core/Order" "level" "Lcorro/core/Level;" ≠ Jvm.RoadKit.slotOf Z "corro/core/Order" "type" "Lcorro/core/OrderType;" := slot_ne (C := "corro/core/Order") (Or.inl (wd_37 hw)) (Or.inr (wd_23 hw)) (by decide) (t := (.object "corro/core/Level")) (t' := (.object "corro/core/OrderType")) (by decide) (by decide)
theorem sl_18 {Z : State} {a0 : Array Value} (hw : ∀ d ∈ tables_1, d.before a0 Z = true) : Jvm.RoadKit.slotOf Z "corro/core/Order" "level" "Lcorro/core/Level;" ≠ Jvm.RoadKit.slotOf Z "corro/core/Order" "timeInForce" "Lcorro/core/TimeInForce;" := slot_ne (C := "corro/core/Order") (Or.inl (wd_37 hw)) (Or.inr (wd_25 hw)) (by decide) (t := (.object "corro/core/Level")) (t' := (.object "corro/core/TimeInForce")) (by decide) (by decide)
theorem sl_19 {Z : State} {a0 : Array Value} (hw : ∀ d ∈ tables_1, d.before a0 Z = true) : Jvm.RoadKit.slotOf Z "corro/core/Order" "level" "Lcorro/core/Level;" ≠ Jvm.RoadKit.slotOf Z "corro/core/Order" "quantity" "J" := slot_ne (C := "corro/core/Order") (Or.inl (wd_37 hw)) (Or.inl (wd_27 hw)) (by decide) (t := (.object "corro/core/Level")) (t' := .long) (by decide) (by decide)
theorem sl_20 {Z : State} {a0 : Array Value} (hw : ∀ d ∈ tables_1, d.before a0 Z = true) : Jvm.RoadKit.slotOf Z "corro/core/Order" "level" "Lcorro/core/Level;" ≠ Jvm.RoadKit.slotOf Z "corro/core/Order" "price" "J" := slot_ne (C := "corro/core/Order") (Or.inl (wd_37 hw)) (Or.inl (wd_29 hw)) (by decide) (t := (.object "corro/core/Level")) (t' := .long) (by decide) (by decide)
theorem wd_39 {Z : State} {a0 : Array Value} (hw : ∀ d ∈ tables_1, d.before a0 Z = true) : ((Jvm.Cond.lays "corro/core/Order" "corro/core/Order" "previous" "Lcorro/core/Order;") : Jvm.Cond).before a0 Z = true := hw _ (List.mem_of_getElem? (i := 39) rfl)
theorem sl_21 {Z : State} {a0 : Array Value} (hw : ∀ d ∈ tables_1, d.before a0 Z = true) : Jvm.RoadKit.slotOf Z "corro/core/Order" "previous" "Lcorro/core/Order;" ≠ Jvm.RoadKit.slotOf Z "corro/core/Order" "id" "Ljava/lang/String;" := slot_ne (C := "corro/core/Order") (Or.inl (wd_39 hw)) (Or.inr (wd_19 hw)) (by decide) (t := (.object "corro/core/Order")) (t' := (.object "java/lang/String")) (by decide) (by decide)
theorem sl_22 {Z : State} {a0 : Array Value} (hw : ∀ d ∈ tables_1, d.before a0 Z = true) : Jvm.RoadKit.slotOf Z "corro/core/Order" "previous" "Lcorro/core/Order;" ≠ Jvm.RoadKit.slotOf Z "corro/core/Order" "side" "Lcorro/core/Side;" := slot_ne (C := "corro/core/Order") (Or.inl (wd_39 hw)) (Or.inr (wd_21 hw)) (by decide) (t := (.object "corro/core/Order")) (t' := (.object "corro/core/Side")) (by decide) (by decide)
theorem sl_23 {Z : State} {a0 : Array Value} (hw : ∀ d ∈ tables_1, d.before a0 Z = true) : Jvm.RoadKit.slotOf Z "corro/core/Order" "previous" "Lcorro/core/Order;" ≠ Jvm.RoadKit.slotOf Z "corro/core/Order" "type" "Lcorro/core/OrderType;" := slot_ne (C := "corro/core/Order") (Or.inl (wd_39 hw)) (Or.inr (wd_23 hw)) (by decide) (t := (.object "corro/core/Order")) (t' := (.object "corro/core/OrderType")) (by decide) (by decide)
theorem sl_24 {Z : State} {a0 : Array Value} (hw : ∀ d ∈ tables_1, d.before a0 Z = true) : Jvm.RoadKit.slotOf Z "corro/core/Order" "previous" "Lcorro/core/Order;" ≠ Jvm.RoadKit.slotOf Z "corro/core/Order" "timeInForce" "Lcorro/core/TimeInForce;" := slot_ne (C := "corro/core/Order") (Or.inl (wd_39 hw)) (Or.inr (wd_25 hw)) (by decide) (t := (.object "corro/core/Order")) (t' := (.object "corro/core/TimeInForce")) (by decide) (by decide)
theorem sl_25 {Z : State} {a0 : Array Value} (hw : ∀ d ∈ tables_1, d.before a0 Z = true) : Jvm.RoadKit.slotOf Z "corro/core/Order" "previous" "Lcorro/core/Order;" ≠ Jvm.RoadKit.slotOf Z "corro/core/Order" "quantity" "J" := slot_ne (C := "corro/core/Order") (Or.inl (wd_39 hw)) (Or.inl (wd_27 hw)) (by decide) (t := (.object "corro/core/Order")) (t' := .long) (by decide) (by decide)
theorem sl_26 {Z : State} {a0 : Array Value} (hw : ∀ d ∈ tables_1, d.before a0 Z = true) : Jvm.RoadKit.slotOf Z "corro/core/Order" "previous" "Lcorro/core/Order;" ≠ Jvm.RoadKit.slotOf Z "corro/core/Order" "price" "J" := slot_ne (C := "corro/core/Order") (Or.inl (wd_39 hw)) (Or.inl (wd_29 hw)) (by decide) (t := (.object "corro/core/Order")) (t' := .long) (by decide) (by decide)
theorem wd_41 {Z : State} {a0 : Array Value} (hw : ∀ d ∈ tables_1, d.before a0 Z = true) : ((Jvm.Cond.lays "corro/core/Order" "corro/core/Order" "next" "Lcorro/core/Order;") : Jvm.Cond).before a0 Z = true := hw _ (List.mem_of_getElem? (i := 41) rfl)
theorem sl_27 {Z : State} {a0 : Array Value} (hw : ∀ d ∈ tables_1, d.before a0 Z = true) : Jvm.RoadKit.slotOf Z "corro/core/Order" "next" "Lcorro/core/Order;" ≠ Jvm.RoadKit.slotOf Z "corro/core/Order" "id" "Ljava/lang/String;" := slot_ne (C := "corro/core/Order") (Or.inl (wd_41 hw)) (Or.inr (wd_19 hw)) (by decide) (t := (.object "corro/core/Order")) (t' := (.object "java/lang/String")) (by decide) (by decide)
theorem sl_28 {Z : State} {a0 : Array Value} (hw : ∀ d ∈ tables_1, d.before a0 Z = true) : Jvm.RoadKit.slotOf Z "corro/core/Order" "next" "Lcorro/core/Order;" ≠ Jvm.RoadKit.slotOf Z "corro/core/Order" "side" "Lcorro/core/Side;" := slot_ne (C := "corro/core/Order") (Or.inl (wd_41 hw)) (Or.inr (wd_21 hw)) (by decide) (t := (.object "corro/core/Order")) (t' := (.object "corro/core/Side")) (by decide) (by decide)
theorem sl_29 {Z : State} {a0 : Array Value} (hw : ∀ d ∈ tables_1, d.before a0 Z = true) : Jvm.RoadKit.slotOf Z "corro/core/Order" "next" "Lcorro/core/Order;" ≠ Jvm.RoadKit.slotOf Z "corro/core/Order" "type" "Lcorro/core/OrderType;" := slot_ne (C := "corro/core/Order") (Or.inl (wd_41 hw)) (Or.inr (wd_23 hw)) (by decide) (t := (.object "corro/core/Order")) (t' := (.object "corro/core/OrderType")) (by decide) (by decide)
theorem sl_30 {Z : State} {a0 : Array Value} (hw : ∀ d ∈ tables_1, d.before a0 Z = true) : Jvm.RoadKit.slotOf Z "corro/core/Order" "next" "Lcorro/core/Order;" ≠ Jvm.RoadKit.slotOf Z "corro/core/Order" "timeInForce" "Lcorro/core/TimeInForce;" := slot_ne (C := "corro/core/Order") (Or.inl (wd_41 hw)) (Or.inr (wd_25 hw)) (by decide) (t := (.object "corro/core/Order")) (t' := (.object "corro/core/TimeInForce")) (by decide) (by decide)
theorem sl_31 {Z : State} {a0 : Array Value} (hw : ∀ d ∈ tables_1, d.before a0 Z = true) : Jvm.RoadKit.slotOf Z "corro/core/Order" "next" "Lcorro/core/Order;" ≠ Jvm.RoadKit.slotOf Z "corro/core/Order" "quantity" "J" := slot_ne (C := "corro/core/Order") (Or.inl (wd_41 hw)) (Or.inl (wd_27 hw)) (by decide) (t := (.object "corro/core/Order")) (t' := .long) (by decide) (by decide)
theorem sl_32 {Z : State} {a0 : Array Value} (hw : ∀ d ∈ tables_1, d.before a0 Z = true) : Jvm.RoadKit.slotOf Z "corro/core/Order" "next" "Lcorro/core/Order;" ≠ Jvm.RoadKit.slotOf Z "corro/core/Order" "price" "J" := slot_ne (C := "corro/core/Order") (Or.inl (wd_41 hw)) (Or.inl (wd_29 hw)) (by decide) (t := (.object "corro/core/Order")) (t' := .long) (by decide) (by decide)
theorem sl_33 {Z : State} {a0 : Array Value} (hw : ∀ d ∈ tables_1, d.before a0 Z = true) : Jvm.RoadKit.slotOf Z "corro/core/Order" "quantity" "J" ≠ Jvm.RoadKit.slotOf Z "corro/core/Order" "price" "J" := slot_ne (C := "corro/core/Order") (Or.inl (wd_27 hw)) (Or.inl (wd_29 hw)) (by decide) (t := .long) (t' := .long) (by decide) (by decide)
theorem pn_1 : plainName "corro/core/Order" = true := by first | (simp [plainName, overriddenIn]; done) | decide +kernel
theorem ef_rmC (m : MethodId) (a1 : Addr) (q1 : Int64) (q2 : Int64) : entryFrame m #[(.ref a1), .null, .null, (.long q1), .null, (.long q2), .null] 9 = mkF m 0 #[.val (.ref a1), .val .null, .val .null, .val (.long q1), .second, .val .null, .val (.long q2), .second, .val .null] [] := by first | (simp [entryFrame, mkF, argsToLocals, Value.category]; done) | rfl
def Q_rmC (Z : State) (a1 : Addr) (q1 : Int64) (q2 : Int64) (u0 : Value) (u1 : Value) (u2 : Value) (u3 : Value) (u4 : Value) (u5 : Value) (h0 : Heap) (n0 : Nat) (v : Option Value) (h : Heap) (L : List Loc) : Prop := v = none ∧ Fr n0 L ∧ Keep h0 h [a1] ∧ Exa Z h a1 "corro/core/Order" ∧ Fld Z h a1 "corro/core/Order" "level" "Lcorro/core/Level;" .null ∧ Fld Z h a1 "corro/core/Order" "previous" "Lcorro/core/Order;" .null ∧ Fld Z h a1 "corro/core/Order" "next" "Lcorro/core/Order;" .null ∧ Fld Z h a1 "corro/core/Order" "quantity" "J" (.long q1) ∧ Fld Z h a1 "corro/core/Order" "price" "J" (.long q2)
set_option maxRecDepth 65536 in
set_option maxHeartbeats 40000000 in
theorem rmC (l : Launch) (Z : State) (a0 : Array Value) (hw : ∀ d ∈ tables_1, d.before a0 Z = true) (ws : List Jvm.Cond) (a1 : Addr) (q1 : Int64) (q2 : Int64) (u0 : Value) (u1 : Value) (u2 : Value) (u3 : Value) (u4 : Value) (u5 : Value) (h0 : Heap) (n0 : Nat) (Z0 : n0 ≤ h0.size) (E_a1 : Exa Z h0 a1 "corro/core/Order") (F_id_a1 : Fld Z h0 a1 "corro/core/Order" "id" "Ljava/lang/String;" u0) (F_side_a1 : Fld Z h0 a1 "corro/core/Order" "side" "Lcorro/core/Side;" u1) (F_type_a1 : Fld Z h0 a1 "corro/core/Order" "type" "Lcorro/core/OrderType;" u2) (F_timeInForce_a1 : Fld Z h0 a1 "corro/core/Order" "timeInForce" "Lcorro/core/TimeInForce;" u3) (F_quantity_a1 : Fld Z h0 a1 "corro/core/Order" "quantity" "J" u4) (F_price_a1 : Fld Z h0 a1 "corro/core/Order" "price" "J" u5) (F_level_a1 : Fld Z h0 a1 "corro/core/Order" "level" "Lcorro/core/Level;" .null) (F_previous_a1 : Fld Z h0 a1 "corro/core/Order" "previous" "Lcorro/core/Order;" .null) (F_next_a1 : Fld Z h0 a1 "corro/core/Order" "next" "Lcorro/core/Order;" .null) (g_a1 : n0 ≤ a1) :
    MetFree l (⟨"corro/core/Order", "<init>", "(Ljava/lang/String;Lcorro/core/Side;JLcorro/core/OrderType;JLcorro/core/TimeInForce;)V"⟩ : MethodName) (head1 (Jvm.Cond.code (⟨"corro/core/Order", "<init>", "(Ljava/lang/String;Lcorro/core/Side;JLcorro/core/OrderType;JLcorro/core/TimeInForce;)V"⟩ : MethodName) prog_18_method_1_code 9 none :: ws) ({ frames := 1, cells := 0, slots := 0, locals := 12 } : Room)) (fun a U => a = #[(.ref a1), .null, .null, (.long q1), .null, (.long q2), .null] ∧ Z.Warmed39 U.vm ∧ U.heap = h0) (fun _ _ _ _ _ => True) (fun _ U o U' => ∃ v L, o = .returned v ∧ Q_rmC Z a1 q1 q2 u0 u1 u2 u3 u4 u5 h0 n0 v U'.heap L ∧ FrameEnd U o U' L ({ frames := 1, cells := 0, slots := 0, locals := 12 } : Room).cells ({ frames := 1, cells := 0, slots := 0, locals := 12 } : Room).slots) := by
  refine MetFree.of_bodySF (plainFor_of_name pn_1) hisR ?_
  intro p e s m args below meth c s₁ Bd hml0 hP hK
  obtain ⟨rfl, hZ, hh⟩ := hP
  have hx := Bd.exec
  have hby := Bd.bytes
  have hml : c.maxLocals = 9 := hml0
  have hown : s.vm.findClass "corro/core/Order" = some m.cls := findClass_of_methodNamed Bd.named
  have hnm := (name_of_methodNamed Bd.named Bd.method).1
  have X0 : Stand p l e ({ frames := 1, cells := 0, slots := 0, locals := 12 } : Room) s m #[(.ref a1), .null, .null, (.long q1), .null, (.long q2), .null] below meth c s₁ [] 0 0 := Stand.of_body Bd
  have e0 : s₁.heap = h0 := by rw [← hh, Bd.state]; rfl
  have N0 := Fr.nil n0
  have K0 : Keep h0 h0 [a1] := Keep.refl _ _
  suffices G0 : own_G p e below (own_E s below (Q_rmC Z a1 q1 q2 u0 u1 u2 u3 u4 u5 h0 n0) ({ frames := 1, cells := 0, slots := 0, locals := 12 } : Room).cells ({ frames := 1, cells := 0, slots := 0, locals := 12 } : Room).slots) s₁ (mkF m 0 #[.val (.ref a1), .val .null, .val .null, .val (.long q1), .second, .val .null, .val (.long q2), .second, .val .null] []) by
    obtain ⟨zt, zst, zo, zq1, zq2, zq3⟩ := G0
    exact ⟨zt, zo, castTop (ef_rmC m a1 q1 q2) zst, zq1, zq2, zq3⟩
  obtain ⟨Φ, hΦ⟩ : ∃ Φ, Φ = own_E s below (Q_rmC Z a1 q1 q2 u0 u1 u2 u3 u4 u5 h0 n0) ({ frames := 1, cells := 0, slots := 0, locals := 12 } : Room).cells ({ frames := 1, cells := 0, slots := 0, locals := 12 } : Room).slots := ⟨_, rfl⟩
  rw [← hΦ]
  show own_G p e below Φ s₁ (mkF m 0 #[.val (.ref a1), .val .null, .val .null, .val (.long q1), .second, .val .null, .val (.long q2), .second, .val .null] [])
  refine own_go (fun _ => XS.aloadN X0.here hx rfl (hb hby d3_0) rfl rfl) ?_
  show own_G p e below Φ s₁ (mkF m 1 #[.val (.ref a1), .val .null, .val .null, .val (.long q1), .second, .val .null, .val (.long q2), .second, .val .null] [(.ref a1)])
  obtain ⟨T1, X1, e1, st1⟩ := initO X0 hx hZ hown (wd_17 hw) (wd_8 hw) (wd_9 hw) e0 (g := (mkF m 1 #[.val (.ref a1), .val .null, .val .null, .val (.long q1), .second, .val .null, .val (.long q2), .second, .val .null] [(.ref a1)])) rfl (by rw [hml]; rfl) rfl (hb hby d3_1) (by decide) (W := 0) (by show 2 * 0 + _ ≤ _; exact Nat.le_of_eq rfl) (by decide)
  refine own_go st1 ?_
  show own_G p e below Φ T1 (mkF m 4 #[.val (.ref a1), .val .null, .val .null, .val (.long q1), .second, .val .null, .val (.long q2), .second, .val .null] [])
  refine own_go (fun _ => XS.aloadN X1.here hx rfl (hb hby d3_4) rfl rfl) ?_
  show own_G p e below Φ T1 (mkF m 5 #[.val (.ref a1), .val .null, .val .null, .val (.long q1), .second, .val .null, .val (.long q2), .second, .val .null] [(.ref a1)])
  refine own_go (fun _ => XS.aloadN X1.here hx rfl (hb hby d3_5) rfl rfl) ?_
  show own_G p e below Φ T1 (mkF m 6 #[.val (.ref a1), .val .null, .val .null, .val (.long q1), .second, .val .null, .val (.long q2), .second, .val .null] [.null, (.ref a1)])
  obtain ⟨T2, h2, X2, e2, W2, st2⟩ := putF X1 hx hZ hown (host := "") (Or.inl (wd_18 hw)) Via.refl e1 F_id_a1 E_a1 (Or.inr ⟨(wd_19 hw), rfl, hnm⟩) (wd_12 hw) (ty := (.object "java/lang/String")) (by decide) rfl rfl (g := (mkF m 6 #[.val (.ref a1), .val .null, .val .null, .val (.long q1), .second, .val .null, .val (.long q2), .second, .val .null] [.null, (.ref a1)])) rfl rfl (hb hby d3_6)
  refine own_go st2 ?_
  have N2 := Fr.snoc X2 N0 g_a1
  have K2 := K0.wr W2 (Or.inl (List.mem_of_getElem? (i := 0) rfl))
  have Zp2 : n0 ≤ h2.size := Nat.le_trans Z0 (Keep.of_wr W2).1
  have f2w := F_id_a1.same W2
  show own_G p e below Φ T2 (mkF m 9 #[.val (.ref a1), .val .null, .val .null, .val (.long q1), .second, .val .null, .val (.long q2), .second, .val .null] [])
  refine own_go (fun _ => XS.aloadN X2.here hx rfl (hb hby d3_9) rfl rfl) ?_
  show own_G p e below Φ T2 (mkF m 10 #[.val (.ref a1), .val .null, .val .null, .val (.long q1), .second, .val .null, .val (.long q2), .second, .val .null] [(.ref a1)])
  refine own_go (fun _ => XS.aloadN X2.here hx rfl (hb hby d3_10) rfl rfl) ?_
  show own_G p e below Φ T2 (mkF m 11 #[.val (.ref a1), .val .null, .val .null, .val (.long q1), .second, .val .null, .val (.long q2), .second, .val .null] [.null, (.ref a1)])
  have f3 : Exa Z h2 a1 "corro/core/Order" := E_a1.wr W2
  have f4 : Fld Z h2 a1 "corro/core/Order" "side" "Lcorro/core/Side;" u1 := F_side_a1.other W2 (Or.inr (sl_0 hw))
  obtain ⟨T5, h5, X5, e5, W5, st5⟩ := putF X2 hx hZ hown (host := "") (Or.inl (wd_20 hw)) Via.refl e2 f4 f3 (Or.inr ⟨(wd_21 hw), rfl, hnm⟩) (wd_12 hw) (ty := (.object "corro/core/Side")) (by decide) rfl rfl (g := (mkF m 11 #[.val (.ref a1), .val .null, .val .null, .val (.long q1), .second, .val .null, .val (.long q2), .second, .val .null] [.null, (.ref a1)])) rfl rfl (hb hby d3_11)
  refine own_go st5 ?_
  have N5 := Fr.snoc X5 N2 g_a1
  have K5 := K2.wr W5 (Or.inl (List.mem_of_getElem? (i := 0) rfl))
  have Zp5 : n0 ≤ h5.size := Nat.le_trans Zp2 (Keep.of_wr W5).1
  have f5w := f4.same W5
  show own_G p e below Φ T5 (mkF m 14 #[.val (.ref a1), .val .null, .val .null, .val (.long q1), .second, .val .null, .val (.long q2), .second, .val .null] [])
  refine own_go (fun _ => XS.aloadN X5.here hx rfl (hb hby d3_14) rfl rfl) ?_
  show own_G p e below Φ T5 (mkF m 15 #[.val (.ref a1), .val .null, .val .null, .val (.long q1), .second, .val .null, .val (.long q2), .second, .val .null] [(.ref a1)])
  refine own_go (fun _ => XS.aload X5.here hx rfl (hb hby d3_15) rfl rfl) ?_
  show own_G p e below Φ T5 (mkF m 17 #[.val (.ref a1), .val .null, .val .null, .val (.long q1), .second, .val .null, .val (.long q2), .second, .val .null] [.null, (.ref a1)])
  have f6 : Exa Z h5 a1 "corro/core/Order" := f3.wr W5
  have f7 : Fld Z h2 a1 "corro/core/Order" "type" "Lcorro/core/OrderType;" u2 := F_type_a1.other W2 (Or.inr (sl_1 hw))
  have f8 : Fld Z h5 a1 "corro/core/Order" "type" "Lcorro/core/OrderType;" u2 := f7.other W5 (Or.inr (sl_2 hw))
  obtain ⟨T9, h9, X9, e9, W9, st9⟩ := putF X5 hx hZ hown (host := "") (Or.inl (wd_22 hw)) Via.refl e5 f8 f6 (Or.inr ⟨(wd_23 hw), rfl, hnm⟩) (wd_12 hw) (ty := (.object "corro/core/OrderType")) (by decide) rfl rfl (g := (mkF m 17 #[.val (.ref a1), .val .null, .val .null, .val (.long q1), .second, .val .null, .val (.long q2), .second, .val .null] [.null, (.ref a1)])) rfl rfl (hb hby d3_17)
  refine own_go st9 ?_
  have N9 := Fr.snoc X9 N5 g_a1
  have K9 := K5.wr W9 (Or.inl (List.mem_of_getElem? (i := 0) rfl))
  have Zp9 : n0 ≤ h9.size := Nat.le_trans Zp5 (Keep.of_wr W9).1
  have f9w := f8.same W9
  show own_G p e below Φ T9 (mkF m 20 #[.val (.ref a1), .val .null, .val .null, .val (.long q1), .second, .val .null, .val (.long q2), .second, .val .null] [])
  refine own_go (fun _ => XS.aloadN X9.here hx rfl (hb hby d3_20) rfl rfl) ?_
  show own_G p e below Φ T9 (mkF m 21 #[.val (.ref a1), .val .null, .val .null, .val (.long q1), .second, .val .null, .val (.long q2), .second, .val .null] [(.ref a1)])
  refine own_go (fun _ => XS.aload X9.here hx rfl (hb hby d3_21) rfl rfl) ?_
  show own_G p e below Φ T9 (mkF m 23 #[.val (.ref a1), .val .null, .val .null, .val (.long q1), .second, .val .null, .val (.long q2), .second, .val .null] [.null, (.ref a1)])
  have f10 : Exa Z h9 a1 "corro/core/Order" := f6.wr W9
  have f11 : Fld Z h2 a1 "corro/core/Order" "timeInForce" "Lcorro/core/TimeInForce;" u3 := F_timeInForce_a1.other W2 (Or.inr (sl_3 hw))
  have f12 : Fld Z h5 a1 "corro/core/Order" "timeInForce" "Lcorro/core/TimeInForce;" u3 := f11.other W5 (Or.inr (sl_4 hw))
  have f13 : Fld Z h9 a1 "corro/core/Order" "timeInForce" "Lcorro/core/TimeInForce;" u3 := f12.other W9 (Or.inr (sl_5 hw))
  obtain ⟨T14, h14, X14, e14, W14, st14⟩ := putF X9 hx hZ hown (host := "") (Or.inl (wd_24 hw)) Via.refl e9 f13 f10 (Or.inr ⟨(wd_25 hw), rfl, hnm⟩) (wd_12 hw) (ty := (.object "corro/core/TimeInForce")) (by decide) rfl rfl (g := (mkF m 23 #[.val (.ref a1), .val .null, .val .null, .val (.long q1), .second, .val .null, .val (.long q2), .second, .val .null] [.null, (.ref a1)])) rfl rfl (hb hby d3_23)
  refine own_go st14 ?_
  have N14 := Fr.snoc X14 N9 g_a1
  have K14 := K9.wr W14 (Or.inl (List.mem_of_getElem? (i := 0) rfl))
  have Zp14 : n0 ≤ h14.size := Nat.le_trans Zp9 (Keep.of_wr W14).1
  have f14w := f13.same W14
  show own_G p e below Φ T14 (mkF m 26 #[.val (.ref a1), .val .null, .val .null, .val (.long q1), .second, .val .null, .val (.long q2), .second, .val .null] [])
  refine own_go (fun _ => XS.aloadN X14.here hx rfl (hb hby d3_26) rfl rfl) ?_
  show own_G p e below Φ T14 (mkF m 27 #[.val (.ref a1), .val .null, .val .null, .val (.long q1), .second, .val .null, .val (.long q2), .second, .val .null] [(.ref a1)])
  refine own_go (fun _ => XS.lloadN X14.here hx rfl (hb hby d3_27) rfl) ?_
  show own_G p e below Φ T14 (mkF m 28 #[.val (.ref a1), .val .null, .val .null, .val (.long q1), .second, .val .null, .val (.long q2), .second, .val .null] [(.long q1), (.ref a1)])
  have f15 : Exa Z h14 a1 "corro/core/Order" := f10.wr W14
  have f16 : Fld Z h2 a1 "corro/core/Order" "quantity" "J" u4 := F_quantity_a1.other W2 (Or.inr (sl_6 hw))
  have f17 : Fld Z h5 a1 "corro/core/Order" "quantity" "J" u4 := f16.other W5 (Or.inr (sl_7 hw))
  have f18 : Fld Z h9 a1 "corro/core/Order" "quantity" "J" u4 := f17.other W9 (Or.inr (sl_8 hw))
  have f19 : Fld Z h14 a1 "corro/core/Order" "quantity" "J" u4 := f18.other W14 (Or.inr (sl_9 hw))
  obtain ⟨T20, h20, X20, e20, W20, st20⟩ := putF X14 hx hZ hown (host := "") (Or.inl (wd_26 hw)) Via.refl e14 f19 f15 (Or.inl (wd_27 hw)) (wd_12 hw) (ty := .long) (by decide) rfl rfl (g := (mkF m 28 #[.val (.ref a1), .val .null, .val .null, .val (.long q1), .second, .val .null, .val (.long q2), .second, .val .null] [(.long q1), (.ref a1)])) rfl rfl (hb hby d3_28)
  refine own_go st20 ?_
  have N20 := Fr.snoc X20 N14 g_a1
  have K20 := K14.wr W20 (Or.inl (List.mem_of_getElem? (i := 0) rfl))
  have Zp20 : n0 ≤ h20.size := Nat.le_trans Zp14 (Keep.of_wr W20).1
  have f20w := f19.same W20
  show own_G p e below Φ T20 (mkF m 31 #[.val (.ref a1), .val .null, .val .null, .val (.long q1), .second, .val .null, .val (.long q2), .second, .val .null] [])
  refine own_go (fun _ => XS.aloadN X20.here hx rfl (hb hby d3_31) rfl rfl) ?_
  show own_G p e below Φ T20 (mkF m 32 #[.val (.ref a1), .val .null, .val .null, .val (.long q1), .second, .val .null, .val (.long q2), .second, .val .null] [(.ref a1)])
  refine own_go (fun _ => XS.lload X20.here hx rfl (hb hby d3_32) rfl) ?_
  show own_G p e below Φ T20 (mkF m 34 #[.val (.ref a1), .val .null, .val .null, .val (.long q1), .second, .val .null, .val (.long q2), .second, .val .null] [(.long q2), (.ref a1)])
  have f21 : Exa Z h20 a1 "corro/core/Order" := f15.wr W20
  have f22 : Fld Z h2 a1 "corro/core/Order" "price" "J" u5 := F_price_a1.other W2 (Or.inr (sl_10 hw))
  have f23 : Fld Z h5 a1 "corro/core/Order" "price" "J" u5 := f22.other W5 (Or.inr (sl_11 hw))
  have f24 : Fld Z h9 a1 "corro/core/Order" "price" "J" u5 := f23.other W9 (Or.inr (sl_12 hw))
  have f25 : Fld Z h14 a1 "corro/core/Order" "price" "J" u5 := f24.other W14 (Or.inr (sl_13 hw))
  have f26 : Fld Z h20 a1 "corro/core/Order" "price" "J" u5 := f25.other W20 (Or.inr (sl_14 hw))
  obtain ⟨T27, h27, X27, e27, W27, st27⟩ := putF X20 hx hZ hown (host := "") (Or.inl (wd_28 hw)) Via.refl e20 f26 f21 (Or.inl (wd_29 hw)) (wd_12 hw) (ty := .long) (by decide) rfl rfl (g := (mkF m 34 #[.val (.ref a1), .val .null, .val .null, .val (.long q1), .second, .val .null, .val (.long q2), .second, .val .null] [(.long q2), (.ref a1)])) rfl rfl (hb hby d3_34)
  refine own_go st27 ?_
  have N27 := Fr.snoc X27 N20 g_a1
  have K27 := K20.wr W27 (Or.inl (List.mem_of_getElem? (i := 0) rfl))
  have Zp27 : n0 ≤ h27.size := Nat.le_trans Zp20 (Keep.of_wr W27).1
  have f27w := f26.same W27
  show own_G p e below Φ T27 (mkF m 37 #[.val (.ref a1), .val .null, .val .null, .val (.long q1), .second, .val .null, .val (.long q2), .second, .val .null] [])
  have f28 : Exa Z h27 a1 "corro/core/Order" := f21.wr W27
  have f29 : Fld Z h2 a1 "corro/core/Order" "level" "Lcorro/core/Level;" .null := F_level_a1.other W2 (Or.inr (sl_15 hw))
  have f30 : Fld Z h5 a1 "corro/core/Order" "level" "Lcorro/core/Level;" .null := f29.other W5 (Or.inr (sl_16 hw))
  have f31 : Fld Z h9 a1 "corro/core/Order" "level" "Lcorro/core/Level;" .null := f30.other W9 (Or.inr (sl_17 hw))
  have f32 : Fld Z h14 a1 "corro/core/Order" "level" "Lcorro/core/Level;" .null := f31.other W14 (Or.inr (sl_18 hw))
  have f33 : Fld Z h20 a1 "corro/core/Order" "level" "Lcorro/core/Level;" .null := f32.other W20 (Or.inr (sl_19 hw))
  have f34 : Fld Z h27 a1 "corro/core/Order" "level" "Lcorro/core/Level;" .null := f33.other W27 (Or.inr (sl_20 hw))
  have f35 : Fld Z h2 a1 "corro/core/Order" "previous" "Lcorro/core/Order;" .null := F_previous_a1.other W2 (Or.inr (sl_21 hw))
  have f36 : Fld Z h5 a1 "corro/core/Order" "previous" "Lcorro/core/Order;" .null := f35.other W5 (Or.inr (sl_22 hw))
  have f37 : Fld Z h9 a1 "corro/core/Order" "previous" "Lcorro/core/Order;" .null := f36.other W9 (Or.inr (sl_23 hw))
  have f38 : Fld Z h14 a1 "corro/core/Order" "previous" "Lcorro/core/Order;" .null := f37.other W14 (Or.inr (sl_24 hw))
  have f39 : Fld Z h20 a1 "corro/core/Order" "previous" "Lcorro/core/Order;" .null := f38.other W20 (Or.inr (sl_25 hw))
  have f40 : Fld Z h27 a1 "corro/core/Order" "previous" "Lcorro/core/Order;" .null := f39.other W27 (Or.inr (sl_26 hw))
  have f41 : Fld Z h2 a1 "corro/core/Order" "next" "Lcorro/core/Order;" .null := F_next_a1.other W2 (Or.inr (sl_27 hw))
  have f42 : Fld Z h5 a1 "corro/core/Order" "next" "Lcorro/core/Order;" .null := f41.other W5 (Or.inr (sl_28 hw))
  have f43 : Fld Z h9 a1 "corro/core/Order" "next" "Lcorro/core/Order;" .null := f42.other W9 (Or.inr (sl_29 hw))
  have f44 : Fld Z h14 a1 "corro/core/Order" "next" "Lcorro/core/Order;" .null := f43.other W14 (Or.inr (sl_30 hw))
  have f45 : Fld Z h20 a1 "corro/core/Order" "next" "Lcorro/core/Order;" .null := f44.other W20 (Or.inr (sl_31 hw))
  have f46 : Fld Z h27 a1 "corro/core/Order" "next" "Lcorro/core/Order;" .null := f45.other W27 (Or.inr (sl_32 hw))
  have f47 : Fld Z h27 a1 "corro/core/Order" "quantity" "J" (.long q1) := f20w.other W27 (Or.inr (sl_33 hw))
  rw [hΦ]
  refine own_ret X27 (v := none) (fun _ => rfl) (BodyLoose.notSynchronized Bd) (fun fs hr => X27.returnOut hx Bd.returns (hb hby d3_37) hr) ?_ (by decide) (by decide)
  rw [e27]
  exact ⟨rfl, N27, K27, f28, f34, f40, f46, f47, f27w⟩
theorem d4_0 : decode prog_18_method_19_code 0 = .ok (.aload_n 0, 1) := by decide +kernel
theorem d4_1 : decode prog_18_method_19_code 1 = .ok (.aload_n 1, 1) := by decide +kernel
theorem d4_2 : decode prog_18_method_19_code 2 = .ok (.putfield 48, 3) := by decide +kernel
theorem wd_36 {Z : State} {a0 : Array Value} (hw : ∀ d ∈ tables_1, d.before a0 Z = true) : ((Jvm.Cond.fieldLink "corro/core/Order" (48 : Nat) "corro/core/Order" "level" "Lcorro/core/Level;") : Jvm.Cond).before a0 Z = true := hw _ (List.mem_of_getElem? (i := 36) rfl)
theorem d4_5 : decode prog_18_method_19_code 5 = .ok (.aload_n 0, 1) := by decide +kernel
theorem d4_6 : decode prog_18_method_19_code 6 = .ok (.aload_n 2, 1) := by decide +kernel
theorem d4_7 : decode prog_18_method_19_code 7 = .ok (.putfield 56, 3) := by decide +kernel
theorem wd_38 {Z : State} {a0 : Array Value} (hw : ∀ d ∈ tables_1, d.before a0 Z = true) : ((Jvm.Cond.fieldLink "corro/core/Order" (56 : Nat) "corro/core/Order" "previous" "Lcorro/core/Order;") : Jvm.Cond).before a0 Z = true := hw _ (List.mem_of_getElem? (i := 38) rfl)
theorem sl_34 {Z : State} {a0 : Array Value} (hw : ∀ d ∈ tables_1, d.before a0 Z = true) : Jvm.RoadKit.slotOf Z "corro/core/Order" "previous" "Lcorro/core/Order;" ≠ Jvm.RoadKit.slotOf Z "corro/core/Order" "level" "Lcorro/core/Level;" := slot_ne (C := "corro/core/Order") (Or.inl (wd_39 hw)) (Or.inl (wd_37 hw)) (by decide) (t := (.object "corro/core/Order")) (t' := (.object "corro/core/Level")) (by decide) (by decide)
theorem d4_10 : decode prog_18_method_19_code 10 = .ok (.aload_n 0, 1) := by decide +kernel
theorem d4_11 : decode prog_18_method_19_code 11 = .ok (.aconst_null, 1) := by decide +kernel
theorem d4_12 : decode prog_18_method_19_code 12 = .ok (.putfield 52, 3) := by decide +kernel
theorem wd_40 {Z : State} {a0 : Array Value} (hw : ∀ d ∈ tables_1, d.before a0 Z = true) : ((Jvm.Cond.fieldLink "corro/core/Order" (52 : Nat) "corro/core/Order" "next" "Lcorro/core/Order;") : Jvm.Cond).before a0 Z = true := hw _ (List.mem_of_getElem? (i := 40) rfl)
theorem sl_35 {Z : State} {a0 : Array Value} (hw : ∀ d ∈ tables_1, d.before a0 Z = true) : Jvm.RoadKit.slotOf Z "corro/core/Order" "next" "Lcorro/core/Order;" ≠ Jvm.RoadKit.slotOf Z "corro/core/Order" "level" "Lcorro/core/Level;" := slot_ne (C := "corro/core/Order") (Or.inl (wd_41 hw)) (Or.inl (wd_37 hw)) (by decide) (t := (.object "corro/core/Order")) (t' := (.object "corro/core/Level")) (by decide) (by decide)
theorem sl_36 {Z : State} {a0 : Array Value} (hw : ∀ d ∈ tables_1, d.before a0 Z = true) : Jvm.RoadKit.slotOf Z "corro/core/Order" "next" "Lcorro/core/Order;" ≠ Jvm.RoadKit.slotOf Z "corro/core/Order" "previous" "Lcorro/core/Order;" := slot_ne (C := "corro/core/Order") (Or.inl (wd_41 hw)) (Or.inl (wd_39 hw)) (by decide) (t := (.object "corro/core/Order")) (t' := (.object "corro/core/Order")) (by decide) (by decide)
theorem d4_15 : decode prog_18_method_19_code 15 = .ok (.aload_n 2, 1) := by decide +kernel
theorem d4_16 : decode prog_18_method_19_code 16 = .ok (.ifnull 8, 3) := by decide +kernel
theorem d4_24 : decode prog_18_method_19_code 24 = .ok (.return_, 1) := by decide +kernel
theorem sl_37 {Z : State} {a0 : Array Value} (hw : ∀ d ∈ tables_1, d.before a0 Z = true) : Jvm.RoadKit.slotOf Z "corro/core/Order" "level" "Lcorro/core/Level;" ≠ Jvm.RoadKit.slotOf Z "corro/core/Order" "previous" "Lcorro/core/Order;" := slot_ne (C := "corro/core/Order") (Or.inl (wd_37 hw)) (Or.inl (wd_39 hw)) (by decide) (t := (.object "corro/core/Level")) (t' := (.object "corro/core/Order")) (by decide) (by decide)
theorem sl_38 {Z : State} {a0 : Array Value} (hw : ∀ d ∈ tables_1, d.before a0 Z = true) : Jvm.RoadKit.slotOf Z "corro/core/Order" "level" "Lcorro/core/Level;" ≠ Jvm.RoadKit.slotOf Z "corro/core/Order" "next" "Lcorro/core/Order;" := slot_ne (C := "corro/core/Order") (Or.inl (wd_37 hw)) (Or.inl (wd_41 hw)) (by decide) (t := (.object "corro/core/Level")) (t' := (.object "corro/core/Order")) (by decide) (by decide)
theorem sl_39 {Z : State} {a0 : Array Value} (hw : ∀ d ∈ tables_1, d.before a0 Z = true) : Jvm.RoadKit.slotOf Z "corro/core/Order" "previous" "Lcorro/core/Order;" ≠ Jvm.RoadKit.slotOf Z "corro/core/Order" "next" "Lcorro/core/Order;" := slot_ne (C := "corro/core/Order") (Or.inl (wd_39 hw)) (Or.inl (wd_41 hw)) (by decide) (t := (.object "corro/core/Order")) (t' := (.object "corro/core/Order")) (by decide) (by decide)
theorem ef_rmJN (m : MethodId) (a1 : Addr) (a2 : Addr) : entryFrame m #[(.ref a1), (.ref a2), .null] 3 = mkF m 0 #[.val (.ref a1), .val (.ref a2), .val .null] [] := by first | (simp [entryFrame, mkF, argsToLocals, Value.category]; done) | rfl
def Q_rmJN (Z : State) (a1 : Addr) (a2 : Addr) (l1 : Value) (v1 : Value) (x1 : Value) (h0 : Heap) (n0 : Nat) (v : Option Value) (h : Heap) (L : List Loc) : Prop := v = none ∧ Fr n0 L ∧ Keep h0 h [a1] ∧ Exa Z h a1 "corro/core/Order" ∧ Fld Z h a1 "corro/core/Order" "level" "Lcorro/core/Level;" (.ref a2) ∧ Fld Z h a1 "corro/core/Order" "previous" "Lcorro/core/Order;" .null ∧ Fld Z h a1 "corro/core/Order" "next" "Lcorro/core/Order;" .null
set_option maxRecDepth 65536 in
set_option maxHeartbeats 40000000 in
theorem rmJN (l : Launch) (Z : State) (a0 : Array Value) (hw : ∀ d ∈ tables_1, d.before a0 Z = true) (ws : List Jvm.Cond) (a1 : Addr) (a2 : Addr) (l1 : Value) (v1 : Value) (x1 : Value) (h0 : Heap) (n0 : Nat) (Z0 : n0 ≤ h0.size) (E_a1 : Exa Z h0 a1 "corro/core/Order") (F_level_a1 : Fld Z h0 a1 "corro/core/Order" "level" "Lcorro/core/Level;" l1) (F_previous_a1 : Fld Z h0 a1 "corro/core/Order" "previous" "Lcorro/core/Order;" v1) (F_next_a1 : Fld Z h0 a1 "corro/core/Order" "next" "Lcorro/core/Order;" x1) (g_a1 : n0 ≤ a1) :
    MetFree l (⟨"corro/core/Order", "join", "(Lcorro/core/Level;Lcorro/core/Order;)V"⟩ : MethodName) (head1 (Jvm.Cond.code (⟨"corro/core/Order", "join", "(Lcorro/core/Level;Lcorro/core/Order;)V"⟩ : MethodName) prog_18_method_19_code 3 none :: ws) ({ frames := 0, cells := 0, slots := 0, locals := 0 } : Room)) (fun a U => a = #[(.ref a1), (.ref a2), .null] ∧ Z.Warmed39 U.vm ∧ U.heap = h0) (fun _ _ _ _ _ => True) (fun _ U o U' => ∃ v L, o = .returned v ∧ Q_rmJN Z a1 a2 l1 v1 x1 h0 n0 v U'.heap L ∧ FrameEnd U o U' L ({ frames := 0, cells := 0, slots := 0, locals := 0 } : Room).cells ({ frames := 0, cells := 0, slots := 0, locals := 0 } : Room).slots) := by
  refine MetFree.of_bodySF (plainFor_of_name pn_1) hisR ?_
  intro p e s m args below meth c s₁ Bd hml0 hP hK
  obtain ⟨rfl, hZ, hh⟩ := hP
  have hx := Bd.exec
  have hby := Bd.bytes
  have hml : c.maxLocals = 3 := hml0
  have hown : s.vm.findClass "corro/core/Order" = some m.cls := findClass_of_methodNamed Bd.named
  have hnm := (name_of_methodNamed Bd.named Bd.method).1
  have X0 : Stand p l e ({ frames := 0, cells := 0, slots := 0, locals := 0 } : Room) s m #[(.ref a1), (.ref a2), .null] below meth c s₁ [] 0 0 := Stand.of_body Bd
  have e0 : s₁.heap = h0 := by rw [← hh, Bd.state]; rfl
  have N0 := Fr.nil n0
  have K0 : Keep h0 h0 [a1] := Keep.refl _ _
  suffices G0 : own_G p e below (own_E s below (Q_rmJN Z a1 a2 l1 v1 x1 h0 n0) ({ frames := 0, cells := 0, slots := 0, locals := 0 } : Room).cells ({ frames := 0, cells := 0, slots := 0, locals := 0 } : Room).slots) s₁ (mkF m 0 #[.val (.ref a1), .val (.ref a2), .val .null] []) by
    obtain ⟨zt, zst, zo, zq1, zq2, zq3⟩ := G0
    exact ⟨zt, zo, castTop (ef_rmJN m a1 a2) zst, zq1, zq2, zq3⟩
  obtain ⟨Φ, hΦ⟩ : ∃ Φ, Φ = own_E s below (Q_rmJN Z a1 a2 l1 v1 x1 h0 n0) ({ frames := 0, cells := 0, slots := 0, locals := 0 } : Room).cells ({ frames := 0, cells := 0, slots := 0, locals := 0 } : Room).slots := ⟨_, rfl⟩
  rw [← hΦ]
  show own_G p e below Φ s₁ (mkF m 0 #[.val (.ref a1), .val (.ref a2), .val .null] [])
  refine own_go (fun _ => XS.aloadN X0.here hx rfl (hb hby d4_0) rfl rfl) ?_
  show own_G p e below Φ s₁ (mkF m 1 #[.val (.ref a1), .val (.ref a2), .val .null] [(.ref a1)])
  refine own_go (fun _ => XS.aloadN X0.here hx rfl (hb hby d4_1) rfl rfl) ?_
  show own_G p e below Φ s₁ (mkF m 2 #[.val (.ref a1), .val (.ref a2), .val .null] [(.ref a2), (.ref a1)])
  obtain ⟨T1, h1, X1, e1, W1, st1⟩ := putF X0 hx hZ hown (host := "") (Or.inl (wd_36 hw)) Via.refl e0 F_level_a1 E_a1 (Or.inl (wd_37 hw)) (wd_12 hw) (ty := (.object "corro/core/Level")) (by decide) rfl rfl (g := (mkF m 2 #[.val (.ref a1), .val (.ref a2), .val .null] [(.ref a2), (.ref a1)])) rfl rfl (hb hby d4_2)
  refine own_go st1 ?_
  have N1 := Fr.snoc X1 N0 g_a1
  have K1 := K0.wr W1 (Or.inl (List.mem_of_getElem? (i := 0) rfl))
  have Zp1 : n0 ≤ h1.size := Nat.le_trans Z0 (Keep.of_wr W1).1
  have f1w := F_level_a1.same W1
  show own_G p e below Φ T1 (mkF m 5 #[.val (.ref a1), .val (.ref a2), .val .null] [])
  refine own_go (fun _ => XS.aloadN X1.here hx rfl (hb hby d4_5) rfl rfl) ?_
  show own_G p e below Φ T1 (mkF m 6 #[.val (.ref a1), .val (.ref a2), .val .null] [(.ref a1)])
  refine own_go (fun _ => XS.aloadN X1.here hx rfl (hb hby d4_6) rfl rfl) ?_
  show own_G p e below Φ T1 (mkF m 7 #[.val (.ref a1), .val (.ref a2), .val .null] [.null, (.ref a1)])
  have f2 : Exa Z h1 a1 "corro/core/Order" := E_a1.wr W1
  have f3 : Fld Z h1 a1 "corro/core/Order" "previous" "Lcorro/core/Order;" v1 := F_previous_a1.other W1 (Or.inr (sl_34 hw))
  obtain ⟨T4, h4, X4, e4, W4, st4⟩ := putF X1 hx hZ hown (host := "") (Or.inl (wd_38 hw)) Via.refl e1 f3 f2 (Or.inl (wd_39 hw)) (wd_12 hw) (ty := (.object "corro/core/Order")) (by decide) rfl rfl (g := (mkF m 7 #[.val (.ref a1), .val (.ref a2), .val .null] [.null, (.ref a1)])) rfl rfl (hb hby d4_7)
  refine own_go st4 ?_
  have N4 := Fr.snoc X4 N1 g_a1
  have K4 := K1.wr W4 (Or.inl (List.mem_of_getElem? (i := 0) rfl))
  have Zp4 : n0 ≤ h4.size := Nat.le_trans Zp1 (Keep.of_wr W4).1
  have f4w := f3.same W4
  show own_G p e below Φ T4 (mkF m 10 #[.val (.ref a1), .val (.ref a2), .val .null] [])
  refine own_go (fun _ => XS.aloadN X4.here hx rfl (hb hby d4_10) rfl rfl) ?_
  show own_G p e below Φ T4 (mkF m 11 #[.val (.ref a1), .val (.ref a2), .val .null] [(.ref a1)])
  refine own_go (fun _ => XS.aconstNull X4.here hx rfl (hb hby d4_11)) ?_
  show own_G p e below Φ T4 (mkF m 12 #[.val (.ref a1), .val (.ref a2), .val .null] [.null, (.ref a1)])
  have f5 : Exa Z h4 a1 "corro/core/Order" := f2.wr W4
  have f6 : Fld Z h1 a1 "corro/core/Order" "next" "Lcorro/core/Order;" x1 := F_next_a1.other W1 (Or.inr (sl_35 hw))
  have f7 : Fld Z h4 a1 "corro/core/Order" "next" "Lcorro/core/Order;" x1 := f6.other W4 (Or.inr (sl_36 hw))
  obtain ⟨T8, h8, X8, e8, W8, st8⟩ := putF X4 hx hZ hown (host := "") (Or.inl (wd_40 hw)) Via.refl e4 f7 f5 (Or.inl (wd_41 hw)) (wd_12 hw) (ty := (.object "corro/core/Order")) (by decide) rfl rfl (g := (mkF m 12 #[.val (.ref a1), .val (.ref a2), .val .null] [.null, (.ref a1)])) rfl rfl (hb hby d4_12)
  refine own_go st8 ?_
  have N8 := Fr.snoc X8 N4 g_a1
  have K8 := K4.wr W8 (Or.inl (List.mem_of_getElem? (i := 0) rfl))
  have Zp8 : n0 ≤ h8.size := Nat.le_trans Zp4 (Keep.of_wr W8).1
  have f8w := f7.same W8
  show own_G p e below Φ T8 (mkF m 15 #[.val (.ref a1), .val (.ref a2), .val .null] [])
  refine own_go (fun _ => XS.aloadN X8.here hx rfl (hb hby d4_15) rfl rfl) ?_
  show own_G p e below Φ T8 (mkF m 16 #[.val (.ref a1), .val (.ref a2), .val .null] [.null])
  refine own_go (fun _ => XS.ifnullYes X8.here hx rfl (pc0 := 16) (pc' := 24) rfl (hb hby d4_16) rfl (by decide) (by decide)) ?_
  show own_G p e below Φ T8 (mkF m 24 #[.val (.ref a1), .val (.ref a2), .val .null] [])
  have f9 : Exa Z h8 a1 "corro/core/Order" := f5.wr W8
  have f10 : Fld Z h4 a1 "corro/core/Order" "level" "Lcorro/core/Level;" (.ref a2) := f1w.other W4 (Or.inr (sl_37 hw))
  have f11 : Fld Z h8 a1 "corro/core/Order" "level" "Lcorro/core/Level;" (.ref a2) := f10.other W8 (Or.inr (sl_38 hw))
  have f12 : Fld Z h8 a1 "corro/core/Order" "previous" "Lcorro/core/Order;" .null := f4w.other W8 (Or.inr (sl_39 hw))
  rw [hΦ]
  refine own_ret X8 (v := none) (fun _ => rfl) (BodyLoose.notSynchronized Bd) (fun fs hr => X8.returnOut hx Bd.returns (hb hby d4_24) hr) ?_ (by decide) (by decide)
  rw [e8]
  exact ⟨rfl, N8, K8, f9, f11, f12, f8w⟩
theorem d4_19 : decode prog_18_method_19_code 19 = .ok (.aload_n 2, 1) := by decide +kernel
theorem d4_20 : decode prog_18_method_19_code 20 = .ok (.aload_n 0, 1) := by decide +kernel
theorem d4_21 : decode prog_18_method_19_code 21 = .ok (.putfield 52, 3) := by decide +kernel
theorem ef_rmJO (m : MethodId) (a1 : Addr) (a2 : Addr) (a3 : Addr) : entryFrame m #[(.ref a1), (.ref a2), (.ref a3)] 3 = mkF m 0 #[.val (.ref a1), .val (.ref a2), .val (.ref a3)] [] := by first | (simp [entryFrame, mkF, argsToLocals, Value.category]; done) | rfl
def Q_rmJO (Z : State) (a1 : Addr) (a2 : Addr) (a3 : Addr) (l1 : Value) (v1 : Value) (x1 : Value) (l3 : Value) (v3 : Value) (x3 : Value) (h0 : Heap) (n0 : Nat) (v : Option Value) (h : Heap) (L : List Loc) : Prop := v = none ∧ Fr n0 L ∧ Keep h0 h [a1, a3] ∧ Exa Z h a1 "corro/core/Order" ∧ Fld Z h a1 "corro/core/Order" "level" "Lcorro/core/Level;" (.ref a2) ∧ Fld Z h a1 "corro/core/Order" "previous" "Lcorro/core/Order;" (.ref a3) ∧ Fld Z h a1 "corro/core/Order" "next" "Lcorro/core/Order;" .null ∧ Fld Z h a3 "corro/core/Order" "level" "Lcorro/core/Level;" l3 ∧ Fld Z h a3 "corro/core/Order" "previous" "Lcorro/core/Order;" v3 ∧ Fld Z h a3 "corro/core/Order" "next" "Lcorro/core/Order;" (.ref a1)
set_option maxRecDepth 65536 in
set_option maxHeartbeats 40000000 in
theorem rmJO (l : Launch) (Z : State) (a0 : Array Value) (hw : ∀ d ∈ tables_1, d.before a0 Z = true) (ws : List Jvm.Cond) (a1 : Addr) (a2 : Addr) (a3 : Addr) (l1 : Value) (v1 : Value) (x1 : Value) (l3 : Value) (v3 : Value) (x3 : Value) (h0 : Heap) (n0 : Nat) (Z0 : n0 ≤ h0.size) (E_a1 : Exa Z h0 a1 "corro/core/Order") (E_a3 : Exa Z h0 a3 "corro/core/Order") (F_level_a1 : Fld Z h0 a1 "corro/core/Order" "level" "Lcorro/core/Level;" l1) (F_previous_a1 : Fld Z h0 a1 "corro/core/Order" "previous" "Lcorro/core/Order;" v1) (F_next_a1 : Fld Z h0 a1 "corro/core/Order" "next" "Lcorro/core/Order;" x1) (F_level_a3 : Fld Z h0 a3 "corro/core/Order" "level" "Lcorro/core/Level;" l3) (F_previous_a3 : Fld Z h0 a3 "corro/core/Order" "previous" "Lcorro/core/Order;" v3) (F_next_a3 : Fld Z h0 a3 "corro/core/Order" "next" "Lcorro/core/Order;" x3) (g_a1 : n0 ≤ a1) (g_a3 : n0 ≤ a3) (ne_a1_a3 : a1 ≠ a3) :
    MetFree l (⟨"corro/core/Order", "join", "(Lcorro/core/Level;Lcorro/core/Order;)V"⟩ : MethodName) (head1 (Jvm.Cond.code (⟨"corro/core/Order", "join", "(Lcorro/core/Level;Lcorro/core/Order;)V"⟩ : MethodName) prog_18_method_19_code 3 none :: ws) ({ frames := 0, cells := 0, slots := 0, locals := 0 } : Room)) (fun a U => a = #[(.ref a1), (.ref a2), (.ref a3)] ∧ Z.Warmed39 U.vm ∧ U.heap = h0) (fun _ _ _ _ _ => True) (fun _ U o U' => ∃ v L, o = .returned v ∧ Q_rmJO Z a1 a2 a3 l1 v1 x1 l3 v3 x3 h0 n0 v U'.heap L ∧ FrameEnd U o U' L ({ frames := 0, cells := 0, slots := 0, locals := 0 } : Room).cells ({ frames := 0, cells := 0, slots := 0, locals := 0 } : Room).slots) := by
  refine MetFree.of_bodySF (plainFor_of_name pn_1) hisR ?_
  intro p e s m args below meth c s₁ Bd hml0 hP hK
  obtain ⟨rfl, hZ, hh⟩ := hP
  have hx := Bd.exec
  have hby := Bd.bytes
  have hml : c.maxLocals = 3 := hml0
  have hown : s.vm.findClass "corro/core/Order" = some m.cls := findClass_of_methodNamed Bd.named
  have hnm := (name_of_methodNamed Bd.named Bd.method).1
  have X0 : Stand p l e ({ frames := 0, cells := 0, slots := 0, locals := 0 } : Room) s m #[(.ref a1), (.ref a2), (.ref a3)] below meth c s₁ [] 0 0 := Stand.of_body Bd
  have e0 : s₁.heap = h0 := by rw [← hh, Bd.state]; rfl
  have N0 := Fr.nil n0
  have K0 : Keep h0 h0 [a1, a3] := Keep.refl _ _
  suffices G0 : own_G p e below (own_E s below (Q_rmJO Z a1 a2 a3 l1 v1 x1 l3 v3 x3 h0 n0) ({ frames := 0, cells := 0, slots := 0, locals := 0 } : Room).cells ({ frames := 0, cells := 0, slots := 0, locals := 0 } : Room).slots) s₁ (mkF m 0 #[.val (.ref a1), .val (.ref a2), .val (.ref a3)] []) by
    obtain ⟨zt, zst, zo, zq1, zq2, zq3⟩ := G0
    exact ⟨zt, zo, castTop (ef_rmJO m a1 a2 a3) zst, zq1, zq2, zq3⟩
  obtain ⟨Φ, hΦ⟩ : ∃ Φ, Φ = own_E s below (Q_rmJO Z a1 a2 a3 l1 v1 x1 l3 v3 x3 h0 n0) ({ frames := 0, cells := 0, slots := 0, locals := 0 } : Room).cells ({ frames := 0, cells := 0, slots := 0, locals := 0 } : Room).slots := ⟨_, rfl⟩
  rw [← hΦ]
  show own_G p e below Φ s₁ (mkF m 0 #[.val (.ref a1), .val (.ref a2), .val (.ref a3)] [])
  refine own_go (fun _ => XS.aloadN X0.here hx rfl (hb hby d4_0) rfl rfl) ?_
  show own_G p e below Φ s₁ (mkF m 1 #[.val (.ref a1), .val (.ref a2), .val (.ref a3)] [(.ref a1)])
  refine own_go (fun _ => XS.aloadN X0.here hx rfl (hb hby d4_1) rfl rfl) ?_
  show own_G p e below Φ s₁ (mkF m 2 #[.val (.ref a1), .val (.ref a2), .val (.ref a3)] [(.ref a2), (.ref a1)])
  obtain ⟨T1, h1, X1, e1, W1, st1⟩ := putF X0 hx hZ hown (host := "") (Or.inl (wd_36 hw)) Via.refl e0 F_level_a1 E_a1 (Or.inl (wd_37 hw)) (wd_12 hw) (ty := (.object "corro/core/Level")) (by decide) rfl rfl (g := (mkF m 2 #[.val (.ref a1), .val (.ref a2), .val (.ref a3)] [(.ref a2), (.ref a1)])) rfl rfl (hb hby d4_2)
  refine own_go st1 ?_
  have N1 := Fr.snoc X1 N0 g_a1
  have K1 := K0.wr W1 (Or.inl (List.mem_of_getElem? (i := 0) rfl))
  have Zp1 : n0 ≤ h1.size := Nat.le_trans Z0 (Keep.of_wr W1).1
  have f1w := F_level_a1.same W1
  show own_G p e below Φ T1 (mkF m 5 #[.val (.ref a1), .val (.ref a2), .val (.ref a3)] [])
  refine own_go (fun _ => XS.aloadN X1.here hx rfl (hb hby d4_5) rfl rfl) ?_
  show own_G p e below Φ T1 (mkF m 6 #[.val (.ref a1), .val (.ref a2), .val (.ref a3)] [(.ref a1)])
  refine own_go (fun _ => XS.aloadN X1.here hx rfl (hb hby d4_6) rfl rfl) ?_
  show own_G p e below Φ T1 (mkF m 7 #[.val (.ref a1), .val (.ref a2), .val (.ref a3)] [(.ref a3), (.ref a1)])
  have f2 : Exa Z h1 a1 "corro/core/Order" := E_a1.wr W1
  have f3 : Fld Z h1 a1 "corro/core/Order" "previous" "Lcorro/core/Order;" v1 := F_previous_a1.other W1 (Or.inr (sl_34 hw))
  obtain ⟨T4, h4, X4, e4, W4, st4⟩ := putF X1 hx hZ hown (host := "") (Or.inl (wd_38 hw)) Via.refl e1 f3 f2 (Or.inl (wd_39 hw)) (wd_12 hw) (ty := (.object "corro/core/Order")) (by decide) rfl rfl (g := (mkF m 7 #[.val (.ref a1), .val (.ref a2), .val (.ref a3)] [(.ref a3), (.ref a1)])) rfl rfl (hb hby d4_7)
  refine own_go st4 ?_
  have N4 := Fr.snoc X4 N1 g_a1
  have K4 := K1.wr W4 (Or.inl (List.mem_of_getElem? (i := 0) rfl))
  have Zp4 : n0 ≤ h4.size := Nat.le_trans Zp1 (Keep.of_wr W4).1
  have f4w := f3.same W4
  show own_G p e below Φ T4 (mkF m 10 #[.val (.ref a1), .val (.ref a2), .val (.ref a3)] [])
  refine own_go (fun _ => XS.aloadN X4.here hx rfl (hb hby d4_10) rfl rfl) ?_
  show own_G p e below Φ T4 (mkF m 11 #[.val (.ref a1), .val (.ref a2), .val (.ref a3)] [(.ref a1)])
  refine own_go (fun _ => XS.aconstNull X4.here hx rfl (hb hby d4_11)) ?_
  show own_G p e below Φ T4 (mkF m 12 #[.val (.ref a1), .val (.ref a2), .val (.ref a3)] [.null, (.ref a1)])
  have f5 : Exa Z h4 a1 "corro/core/Order" := f2.wr W4
  have f6 : Fld Z h1 a1 "corro/core/Order" "next" "Lcorro/core/Order;" x1 := F_next_a1.other W1 (Or.inr (sl_35 hw))
  have f7 : Fld Z h4 a1 "corro/core/Order" "next" "Lcorro/core/Order;" x1 := f6.other W4 (Or.inr (sl_36 hw))
  obtain ⟨T8, h8, X8, e8, W8, st8⟩ := putF X4 hx hZ hown (host := "") (Or.inl (wd_40 hw)) Via.refl e4 f7 f5 (Or.inl (wd_41 hw)) (wd_12 hw) (ty := (.object "corro/core/Order")) (by decide) rfl rfl (g := (mkF m 12 #[.val (.ref a1), .val (.ref a2), .val (.ref a3)] [.null, (.ref a1)])) rfl rfl (hb hby d4_12)
  refine own_go st8 ?_
  have N8 := Fr.snoc X8 N4 g_a1
  have K8 := K4.wr W8 (Or.inl (List.mem_of_getElem? (i := 0) rfl))
  have Zp8 : n0 ≤ h8.size := Nat.le_trans Zp4 (Keep.of_wr W8).1
  have f8w := f7.same W8
  show own_G p e below Φ T8 (mkF m 15 #[.val (.ref a1), .val (.ref a2), .val (.ref a3)] [])
  refine own_go (fun _ => XS.aloadN X8.here hx rfl (hb hby d4_15) rfl rfl) ?_
  show own_G p e below Φ T8 (mkF m 16 #[.val (.ref a1), .val (.ref a2), .val (.ref a3)] [(.ref a3)])
  refine own_go (fun _ => XS.ifnullNo X8.here hx rfl (hb hby d4_16) rfl) ?_
  show own_G p e below Φ T8 (mkF m 19 #[.val (.ref a1), .val (.ref a2), .val (.ref a3)] [])
  refine own_go (fun _ => XS.aloadN X8.here hx rfl (hb hby d4_19) rfl rfl) ?_
  show own_G p e below Φ T8 (mkF m 20 #[.val (.ref a1), .val (.ref a2), .val (.ref a3)] [(.ref a3)])
  refine own_go (fun _ => XS.aloadN X8.here hx rfl (hb hby d4_20) rfl rfl) ?_
  show own_G p e below Φ T8 (mkF m 21 #[.val (.ref a1), .val (.ref a2), .val (.ref a3)] [(.ref a1), (.ref a3)])
  have f9 : Exa Z h1 a3 "corro/core/Order" := E_a3.wr W1
  have f10 : Exa Z h4 a3 "corro/core/Order" := f9.wr W4
  have f11 : Exa Z h8 a3 "corro/core/Order" := f10.wr W8
  have f12 : Fld Z h1 a3 "corro/core/Order" "next" "Lcorro/core/Order;" x3 := F_next_a3.other W1 (Or.inl (Ne.symm ne_a1_a3))
  have f13 : Fld Z h4 a3 "corro/core/Order" "next" "Lcorro/core/Order;" x3 := f12.other W4 (Or.inl (Ne.symm ne_a1_a3))
  have f14 : Fld Z h8 a3 "corro/core/Order" "next" "Lcorro/core/Order;" x3 := f13.other W8 (Or.inl (Ne.symm ne_a1_a3))
  obtain ⟨T15, h15, X15, e15, W15, st15⟩ := putF X8 hx hZ hown (host := "") (Or.inl (wd_40 hw)) Via.refl e8 f14 f11 (Or.inl (wd_41 hw)) (wd_12 hw) (ty := (.object "corro/core/Order")) (by decide) rfl rfl (g := (mkF m 21 #[.val (.ref a1), .val (.ref a2), .val (.ref a3)] [(.ref a1), (.ref a3)])) rfl rfl (hb hby d4_21)
  refine own_go st15 ?_
  have N15 := Fr.snoc X15 N8 g_a3
  have K15 := K8.wr W15 (Or.inl (List.mem_of_getElem? (i := 1) rfl))
  have Zp15 : n0 ≤ h15.size := Nat.le_trans Zp8 (Keep.of_wr W15).1
  have f15w := f14.same W15
  show own_G p e below Φ T15 (mkF m 24 #[.val (.ref a1), .val (.ref a2), .val (.ref a3)] [])
  have f16 : Exa Z h8 a1 "corro/core/Order" := f5.wr W8
  have f17 : Exa Z h15 a1 "corro/core/Order" := f16.wr W15
  have f18 : Fld Z h4 a1 "corro/core/Order" "level" "Lcorro/core/Level;" (.ref a2) := f1w.other W4 (Or.inr (sl_37 hw))
  have f19 : Fld Z h8 a1 "corro/core/Order" "level" "Lcorro/core/Level;" (.ref a2) := f18.other W8 (Or.inr (sl_38 hw))
  have f20 : Fld Z h15 a1 "corro/core/Order" "level" "Lcorro/core/Level;" (.ref a2) := f19.other W15 (Or.inl ne_a1_a3)
  have f21 : Fld Z h8 a1 "corro/core/Order" "previous" "Lcorro/core/Order;" (.ref a3) := f4w.other W8 (Or.inr (sl_39 hw))
  have f22 : Fld Z h15 a1 "corro/core/Order" "previous" "Lcorro/core/Order;" (.ref a3) := f21.other W15 (Or.inl ne_a1_a3)
  have f23 : Fld Z h15 a1 "corro/core/Order" "next" "Lcorro/core/Order;" .null := f8w.other W15 (Or.inl ne_a1_a3)
  have f24 : Fld Z h1 a3 "corro/core/Order" "level" "Lcorro/core/Level;" l3 := F_level_a3.other W1 (Or.inl (Ne.symm ne_a1_a3))
  have f25 : Fld Z h4 a3 "corro/core/Order" "level" "Lcorro/core/Level;" l3 := f24.other W4 (Or.inl (Ne.symm ne_a1_a3))
  have f26 : Fld Z h8 a3 "corro/core/Order" "level" "Lcorro/core/Level;" l3 := f25.other W8 (Or.inl (Ne.symm ne_a1_a3))
  have f27 : Fld Z h15 a3 "corro/core/Order" "level" "Lcorro/core/Level;" l3 := f26.other W15 (Or.inr (sl_38 hw))
  have f28 : Fld Z h1 a3 "corro/core/Order" "previous" "Lcorro/core/Order;" v3 := F_previous_a3.other W1 (Or.inl (Ne.symm ne_a1_a3))
  have f29 : Fld Z h4 a3 "corro/core/Order" "previous" "Lcorro/core/Order;" v3 := f28.other W4 (Or.inl (Ne.symm ne_a1_a3))
  have f30 : Fld Z h8 a3 "corro/core/Order" "previous" "Lcorro/core/Order;" v3 := f29.other W8 (Or.inl (Ne.symm ne_a1_a3))
  have f31 : Fld Z h15 a3 "corro/core/Order" "previous" "Lcorro/core/Order;" v3 := f30.other W15 (Or.inr (sl_39 hw))
  rw [hΦ]
  refine own_ret X15 (v := none) (fun _ => rfl) (BodyLoose.notSynchronized Bd) (fun fs hr => X15.returnOut hx Bd.returns (hb hby d4_24) hr) ?_ (by decide) (by decide)
  rw [e15]
  exact ⟨rfl, N15, K15, f17, f20, f22, f23, f27, f31, f15w⟩
theorem d5_0 : decode prog_18_method_20_code 0 = .ok (.aload_n 0, 1) := by decide +kernel
theorem d5_1 : decode prog_18_method_20_code 1 = .ok (.getfield 56, 3) := by decide +kernel
theorem d5_4 : decode prog_18_method_20_code 4 = .ok (.ifnull 14, 3) := by decide +kernel
theorem d5_18 : decode prog_18_method_20_code 18 = .ok (.aload_n 0, 1) := by decide +kernel
theorem d5_19 : decode prog_18_method_20_code 19 = .ok (.getfield 52, 3) := by decide +kernel
theorem d5_22 : decode prog_18_method_20_code 22 = .ok (.ifnull 14, 3) := by decide +kernel
theorem d5_36 : decode prog_18_method_20_code 36 = .ok (.aload_n 0, 1) := by decide +kernel
theorem d5_37 : decode prog_18_method_20_code 37 = .ok (.aconst_null, 1) := by decide +kernel
theorem d5_38 : decode prog_18_method_20_code 38 = .ok (.putfield 48, 3) := by decide +kernel
theorem d5_41 : decode prog_18_method_20_code 41 = .ok (.aload_n 0, 1) := by decide +kernel
theorem d5_42 : decode prog_18_method_20_code 42 = .ok (.aconst_null, 1) := by decide +kernel
theorem d5_43 : decode prog_18_method_20_code 43 = .ok (.putfield 56, 3) := by decide +kernel
theorem d5_46 : decode prog_18_method_20_code 46 = .ok (.aload_n 0, 1) := by decide +kernel
theorem d5_47 : decode prog_18_method_20_code 47 = .ok (.aconst_null, 1) := by decide +kernel
theorem d5_48 : decode prog_18_method_20_code 48 = .ok (.putfield 52, 3) := by decide +kernel
theorem d5_51 : decode prog_18_method_20_code 51 = .ok (.return_, 1) := by decide +kernel
theorem ef_rmV00 (m : MethodId) (a1 : Addr) : entryFrame m #[(.ref a1)] 1 = mkF m 0 #[.val (.ref a1)] [] := by first | (simp [entryFrame, mkF, argsToLocals, Value.category]; done) | rfl
def Q_rmV00 (Z : State) (a1 : Addr) (l1 : Value) (h0 : Heap) (n0 : Nat) (v : Option Value) (h : Heap) (L : List Loc) : Prop := v = none ∧ Fr n0 L ∧ Keep h0 h [a1] ∧ Exa Z h a1 "corro/core/Order" ∧ Fld Z h a1 "corro/core/Order" "level" "Lcorro/core/Level;" .null ∧ Fld Z h a1 "corro/core/Order" "previous" "Lcorro/core/Order;" .null ∧ Fld Z h a1 "corro/core/Order" "next" "Lcorro/core/Order;" .null
set_option maxRecDepth 65536 in
set_option maxHeartbeats 40000000 in
theorem rmV00 (l : Launch) (Z : State) (a0 : Array Value) (hw : ∀ d ∈ tables_1, d.before a0 Z = true) (ws : List Jvm.Cond) (a1 : Addr) (l1 : Value) (h0 : Heap) (n0 : Nat) (Z0 : n0 ≤ h0.size) (E_a1 : Exa Z h0 a1 "corro/core/Order") (F_level_a1 : Fld Z h0 a1 "corro/core/Order" "level" "Lcorro/core/Level;" l1) (F_previous_a1 : Fld Z h0 a1 "corro/core/Order" "previous" "Lcorro/core/Order;" .null) (F_next_a1 : Fld Z h0 a1 "corro/core/Order" "next" "Lcorro/core/Order;" .null) (g_a1 : n0 ≤ a1) :
    MetFree l (⟨"corro/core/Order", "leave", "()V"⟩ : MethodName) (head1 (Jvm.Cond.code (⟨"corro/core/Order", "leave", "()V"⟩ : MethodName) prog_18_method_20_code 1 none :: ws) ({ frames := 0, cells := 0, slots := 0, locals := 0 } : Room)) (fun a U => a = #[(.ref a1)] ∧ Z.Warmed39 U.vm ∧ U.heap = h0) (fun _ _ _ _ _ => True) (fun _ U o U' => ∃ v L, o = .returned v ∧ Q_rmV00 Z a1 l1 h0 n0 v U'.heap L ∧ FrameEnd U o U' L ({ frames := 0, cells := 0, slots := 0, locals := 0 } : Room).cells ({ frames := 0, cells := 0, slots := 0, locals := 0 } : Room).slots) := by
  refine MetFree.of_bodySF (plainFor_of_name pn_1) hisR ?_
  intro p e s m args below meth c s₁ Bd hml0 hP hK
  obtain ⟨rfl, hZ, hh⟩ := hP
  have hx := Bd.exec
  have hby := Bd.bytes
  have hml : c.maxLocals = 1 := hml0
  have hown : s.vm.findClass "corro/core/Order" = some m.cls := findClass_of_methodNamed Bd.named
  have hnm := (name_of_methodNamed Bd.named Bd.method).1
  have X0 : Stand p l e ({ frames := 0, cells := 0, slots := 0, locals := 0 } : Room) s m #[(.ref a1)] below meth c s₁ [] 0 0 := Stand.of_body Bd
  have e0 : s₁.heap = h0 := by rw [← hh, Bd.state]; rfl
  have N0 := Fr.nil n0
  have K0 : Keep h0 h0 [a1] := Keep.refl _ _
  suffices G0 : own_G p e below (own_E s below (Q_rmV00 Z a1 l1 h0 n0) ({ frames := 0, cells := 0, slots := 0, locals := 0 } : Room).cells ({ frames := 0, cells := 0, slots := 0, locals := 0 } : Room).slots) s₁ (mkF m 0 #[.val (.ref a1)] []) by
    obtain ⟨zt, zst, zo, zq1, zq2, zq3⟩ := G0
    exact ⟨zt, zo, castTop (ef_rmV00 m a1) zst, zq1, zq2, zq3⟩
  obtain ⟨Φ, hΦ⟩ : ∃ Φ, Φ = own_E s below (Q_rmV00 Z a1 l1 h0 n0) ({ frames := 0, cells := 0, slots := 0, locals := 0 } : Room).cells ({ frames := 0, cells := 0, slots := 0, locals := 0 } : Room).slots := ⟨_, rfl⟩
  rw [← hΦ]
  show own_G p e below Φ s₁ (mkF m 0 #[.val (.ref a1)] [])
  refine own_go (fun _ => XS.aloadN X0.here hx rfl (hb hby d5_0) rfl rfl) ?_
  show own_G p e below Φ s₁ (mkF m 1 #[.val (.ref a1)] [(.ref a1)])
  obtain ⟨T1, X1, e1, st1⟩ := getF X0 hx hZ hown (host := "") (Or.inl (wd_38 hw)) Via.refl e0 F_previous_a1 (g := (mkF m 1 #[.val (.ref a1)] [(.ref a1)])) rfl rfl (hb hby d5_1)
  refine own_go st1 ?_
  show own_G p e below Φ T1 (mkF m 4 #[.val (.ref a1)] [.null])
  refine own_go (fun _ => XS.ifnullYes X1.here hx rfl (pc0 := 4) (pc' := 18) rfl (hb hby d5_4) rfl (by decide) (by decide)) ?_
  show own_G p e below Φ T1 (mkF m 18 #[.val (.ref a1)] [])
  refine own_go (fun _ => XS.aloadN X1.here hx rfl (hb hby d5_18) rfl rfl) ?_
  show own_G p e below Φ T1 (mkF m 19 #[.val (.ref a1)] [(.ref a1)])
  obtain ⟨T2, X2, e2, st2⟩ := getF X1 hx hZ hown (host := "") (Or.inl (wd_40 hw)) Via.refl e1 F_next_a1 (g := (mkF m 19 #[.val (.ref a1)] [(.ref a1)])) rfl rfl (hb hby d5_19)
  refine own_go st2 ?_
  show own_G p e below Φ T2 (mkF m 22 #[.val (.ref a1)] [.null])
  refine own_go (fun _ => XS.ifnullYes X2.here hx rfl (pc0 := 22) (pc' := 36) rfl (hb hby d5_22) rfl (by decide) (by decide)) ?_
  show own_G p e below Φ T2 (mkF m 36 #[.val (.ref a1)] [])
  refine own_go (fun _ => XS.aloadN X2.here hx rfl (hb hby d5_36) rfl rfl) ?_
  show own_G p e below Φ T2 (mkF m 37 #[.val (.ref a1)] [(.ref a1)])
  refine own_go (fun _ => XS.aconstNull X2.here hx rfl (hb hby d5_37)) ?_
  show own_G p e below Φ T2 (mkF m 38 #[.val (.ref a1)] [.null, (.ref a1)])
  obtain ⟨T3, h3, X3, e3, W3, st3⟩ := putF X2 hx hZ hown (host := "") (Or.inl (wd_36 hw)) Via.refl e2 F_level_a1 E_a1 (Or.inl (wd_37 hw)) (wd_12 hw) (ty := (.object "corro/core/Level")) (by decide) rfl rfl (g := (mkF m 38 #[.val (.ref a1)] [.null, (.ref a1)])) rfl rfl (hb hby d5_38)
  refine own_go st3 ?_
  have N3 := Fr.snoc X3 N0 g_a1
  have K3 := K0.wr W3 (Or.inl (List.mem_of_getElem? (i := 0) rfl))
  have Zp3 : n0 ≤ h3.size := Nat.le_trans Z0 (Keep.of_wr W3).1
  have f3w := F_level_a1.same W3
  show own_G p e below Φ T3 (mkF m 41 #[.val (.ref a1)] [])
  refine own_go (fun _ => XS.aloadN X3.here hx rfl (hb hby d5_41) rfl rfl) ?_
  show own_G p e below Φ T3 (mkF m 42 #[.val (.ref a1)] [(.ref a1)])
  refine own_go (fun _ => XS.aconstNull X3.here hx rfl (hb hby d5_42)) ?_
  show own_G p e below Φ T3 (mkF m 43 #[.val (.ref a1)] [.null, (.ref a1)])
  have f4 : Exa Z h3 a1 "corro/core/Order" := E_a1.wr W3
  have f5 : Fld Z h3 a1 "corro/core/Order" "previous" "Lcorro/core/Order;" .null := F_previous_a1.other W3 (Or.inr (sl_34 hw))
  obtain ⟨T6, h6, X6, e6, W6, st6⟩ := putF X3 hx hZ hown (host := "") (Or.inl (wd_38 hw)) Via.refl e3 f5 f4 (Or.inl (wd_39 hw)) (wd_12 hw) (ty := (.object "corro/core/Order")) (by decide) rfl rfl (g := (mkF m 43 #[.val (.ref a1)] [.null, (.ref a1)])) rfl rfl (hb hby d5_43)
  refine own_go st6 ?_
  have N6 := Fr.snoc X6 N3 g_a1
  have K6 := K3.wr W6 (Or.inl (List.mem_of_getElem? (i := 0) rfl))
  have Zp6 : n0 ≤ h6.size := Nat.le_trans Zp3 (Keep.of_wr W6).1
  have f6w := f5.same W6
  show own_G p e below Φ T6 (mkF m 46 #[.val (.ref a1)] [])
  refine own_go (fun _ => XS.aloadN X6.here hx rfl (hb hby d5_46) rfl rfl) ?_
  show own_G p e below Φ T6 (mkF m 47 #[.val (.ref a1)] [(.ref a1)])
  refine own_go (fun _ => XS.aconstNull X6.here hx rfl (hb hby d5_47)) ?_
  show own_G p e below Φ T6 (mkF m 48 #[.val (.ref a1)] [.null, (.ref a1)])
  have f7 : Exa Z h6 a1 "corro/core/Order" := f4.wr W6
  have f8 : Fld Z h3 a1 "corro/core/Order" "next" "Lcorro/core/Order;" .null := F_next_a1.other W3 (Or.inr (sl_35 hw))
  have f9 : Fld Z h6 a1 "corro/core/Order" "next" "Lcorro/core/Order;" .null := f8.other W6 (Or.inr (sl_36 hw))
  obtain ⟨T10, h10, X10, e10, W10, st10⟩ := putF X6 hx hZ hown (host := "") (Or.inl (wd_40 hw)) Via.refl e6 f9 f7 (Or.inl (wd_41 hw)) (wd_12 hw) (ty := (.object "corro/core/Order")) (by decide) rfl rfl (g := (mkF m 48 #[.val (.ref a1)] [.null, (.ref a1)])) rfl rfl (hb hby d5_48)
  refine own_go st10 ?_
  have N10 := Fr.snoc X10 N6 g_a1
  have K10 := K6.wr W10 (Or.inl (List.mem_of_getElem? (i := 0) rfl))
  have Zp10 : n0 ≤ h10.size := Nat.le_trans Zp6 (Keep.of_wr W10).1
  have f10w := f9.same W10
  show own_G p e below Φ T10 (mkF m 51 #[.val (.ref a1)] [])
  have f11 : Exa Z h10 a1 "corro/core/Order" := f7.wr W10
  have f12 : Fld Z h6 a1 "corro/core/Order" "level" "Lcorro/core/Level;" .null := f3w.other W6 (Or.inr (sl_37 hw))
  have f13 : Fld Z h10 a1 "corro/core/Order" "level" "Lcorro/core/Level;" .null := f12.other W10 (Or.inr (sl_38 hw))
  have f14 : Fld Z h10 a1 "corro/core/Order" "previous" "Lcorro/core/Order;" .null := f6w.other W10 (Or.inr (sl_39 hw))
  rw [hΦ]
  refine own_ret X10 (v := none) (fun _ => rfl) (BodyLoose.notSynchronized Bd) (fun fs hr => X10.returnOut hx Bd.returns (hb hby d5_51) hr) ?_ (by decide) (by decide)
  rw [e10]
  exact ⟨rfl, N10, K10, f11, f13, f14, f10w⟩
theorem d5_25 : decode prog_18_method_20_code 25 = .ok (.aload_n 0, 1) := by decide +kernel
theorem d5_26 : decode prog_18_method_20_code 26 = .ok (.getfield 52, 3) := by decide +kernel
theorem d5_29 : decode prog_18_method_20_code 29 = .ok (.aload_n 0, 1) := by decide +kernel
theorem d5_30 : decode prog_18_method_20_code 30 = .ok (.getfield 56, 3) := by decide +kernel
theorem d5_33 : decode prog_18_method_20_code 33 = .ok (.putfield 56, 3) := by decide +kernel
theorem ef_rmV01 (m : MethodId) (a1 : Addr) : entryFrame m #[(.ref a1)] 1 = mkF m 0 #[.val (.ref a1)] [] := by first | (simp [entryFrame, mkF, argsToLocals, Value.category]; done) | rfl
def Q_rmV01 (Z : State) (a1 : Addr) (l1 : Value) (a4 : Addr) (l4 : Value) (v4 : Value) (x4 : Value) (h0 : Heap) (n0 : Nat) (v : Option Value) (h : Heap) (L : List Loc) : Prop := v = none ∧ Fr n0 L ∧ Keep h0 h [a1, a4] ∧ Exa Z h a1 "corro/core/Order" ∧ Fld Z h a1 "corro/core/Order" "level" "Lcorro/core/Level;" .null ∧ Fld Z h a1 "corro/core/Order" "previous" "Lcorro/core/Order;" .null ∧ Fld Z h a1 "corro/core/Order" "next" "Lcorro/core/Order;" .null ∧ Fld Z h a4 "corro/core/Order" "level" "Lcorro/core/Level;" l4 ∧ Fld Z h a4 "corro/core/Order" "previous" "Lcorro/core/Order;" .null ∧ Fld Z h a4 "corro/core/Order" "next" "Lcorro/core/Order;" x4
set_option maxRecDepth 65536 in
set_option maxHeartbeats 40000000 in
theorem rmV01 (l : Launch) (Z : State) (a0 : Array Value) (hw : ∀ d ∈ tables_1, d.before a0 Z = true) (ws : List Jvm.Cond) (a1 : Addr) (l1 : Value) (a4 : Addr) (l4 : Value) (v4 : Value) (x4 : Value) (h0 : Heap) (n0 : Nat) (Z0 : n0 ≤ h0.size) (E_a1 : Exa Z h0 a1 "corro/core/Order") (F_level_a1 : Fld Z h0 a1 "corro/core/Order" "level" "Lcorro/core/Level;" l1) (F_previous_a1 : Fld Z h0 a1 "corro/core/Order" "previous" "Lcorro/core/Order;" .null) (F_next_a1 : Fld Z h0 a1 "corro/core/Order" "next" "Lcorro/core/Order;" (.ref a4)) (g_a1 : n0 ≤ a1) (E_a4 : Exa Z h0 a4 "corro/core/Order") (F_level_a4 : Fld Z h0 a4 "corro/core/Order" "level" "Lcorro/core/Level;" l4) (F_previous_a4 : Fld Z h0 a4 "corro/core/Order" "previous" "Lcorro/core/Order;" v4) (F_next_a4 : Fld Z h0 a4 "corro/core/Order" "next" "Lcorro/core/Order;" x4) (g_a4 : n0 ≤ a4) (ne_a1_a4 : a1 ≠ a4) :
    MetFree l (⟨"corro/core/Order", "leave", "()V"⟩ : MethodName) (head1 (Jvm.Cond.code (⟨"corro/core/Order", "leave", "()V"⟩ : MethodName) prog_18_method_20_code 1 none :: ws) ({ frames := 0, cells := 0, slots := 0, locals := 0 } : Room)) (fun a U => a = #[(.ref a1)] ∧ Z.Warmed39 U.vm ∧ U.heap = h0) (fun _ _ _ _ _ => True) (fun _ U o U' => ∃ v L, o = .returned v ∧ Q_rmV01 Z a1 l1 a4 l4 v4 x4 h0 n0 v U'.heap L ∧ FrameEnd U o U' L ({ frames := 0, cells := 0, slots := 0, locals := 0 } : Room).cells ({ frames := 0, cells := 0, slots := 0, locals := 0 } : Room).slots) := by
  refine MetFree.of_bodySF (plainFor_of_name pn_1) hisR ?_
  intro p e s m args below meth c s₁ Bd hml0 hP hK
  obtain ⟨rfl, hZ, hh⟩ := hP
  have hx := Bd.exec
  have hby := Bd.bytes
  have hml : c.maxLocals = 1 := hml0
  have hown : s.vm.findClass "corro/core/Order" = some m.cls := findClass_of_methodNamed Bd.named
  have hnm := (name_of_methodNamed Bd.named Bd.method).1
  have X0 : Stand p l e ({ frames := 0, cells := 0, slots := 0, locals := 0 } : Room) s m #[(.ref a1)] below meth c s₁ [] 0 0 := Stand.of_body Bd
  have e0 : s₁.heap = h0 := by rw [← hh, Bd.state]; rfl
  have N0 := Fr.nil n0
  have K0 : Keep h0 h0 [a1, a4] := Keep.refl _ _
  suffices G0 : own_G p e below (own_E s below (Q_rmV01 Z a1 l1 a4 l4 v4 x4 h0 n0) ({ frames := 0, cells := 0, slots := 0, locals := 0 } : Room).cells ({ frames := 0, cells := 0, slots := 0, locals := 0 } : Room).slots) s₁ (mkF m 0 #[.val (.ref a1)] []) by
    obtain ⟨zt, zst, zo, zq1, zq2, zq3⟩ := G0
    exact ⟨zt, zo, castTop (ef_rmV01 m a1) zst, zq1, zq2, zq3⟩
  obtain ⟨Φ, hΦ⟩ : ∃ Φ, Φ = own_E s below (Q_rmV01 Z a1 l1 a4 l4 v4 x4 h0 n0) ({ frames := 0, cells := 0, slots := 0, locals := 0 } : Room).cells ({ frames := 0, cells := 0, slots := 0, locals := 0 } : Room).slots := ⟨_, rfl⟩
  rw [← hΦ]
  show own_G p e below Φ s₁ (mkF m 0 #[.val (.ref a1)] [])
  refine own_go (fun _ => XS.aloadN X0.here hx rfl (hb hby d5_0) rfl rfl) ?_
  show own_G p e below Φ s₁ (mkF m 1 #[.val (.ref a1)] [(.ref a1)])
  obtain ⟨T1, X1, e1, st1⟩ := getF X0 hx hZ hown (host := "") (Or.inl (wd_38 hw)) Via.refl e0 F_previous_a1 (g := (mkF m 1 #[.val (.ref a1)] [(.ref a1)])) rfl rfl (hb hby d5_1)
  refine own_go st1 ?_
  show own_G p e below Φ T1 (mkF m 4 #[.val (.ref a1)] [.null])
  refine own_go (fun _ => XS.ifnullYes X1.here hx rfl (pc0 := 4) (pc' := 18) rfl (hb hby d5_4) rfl (by decide) (by decide)) ?_
  show own_G p e below Φ T1 (mkF m 18 #[.val (.ref a1)] [])
  refine own_go (fun _ => XS.aloadN X1.here hx rfl (hb hby d5_18) rfl rfl) ?_
  show own_G p e below Φ T1 (mkF m 19 #[.val (.ref a1)] [(.ref a1)])
  obtain ⟨T2, X2, e2, st2⟩ := getF X1 hx hZ hown (host := "") (Or.inl (wd_40 hw)) Via.refl e1 F_next_a1 (g := (mkF m 19 #[.val (.ref a1)] [(.ref a1)])) rfl rfl (hb hby d5_19)
  refine own_go st2 ?_
  show own_G p e below Φ T2 (mkF m 22 #[.val (.ref a1)] [(.ref a4)])
  refine own_go (fun _ => XS.ifnullNo X2.here hx rfl (hb hby d5_22) rfl) ?_
  show own_G p e below Φ T2 (mkF m 25 #[.val (.ref a1)] [])
  refine own_go (fun _ => XS.aloadN X2.here hx rfl (hb hby d5_25) rfl rfl) ?_
  show own_G p e below Φ T2 (mkF m 26 #[.val (.ref a1)] [(.ref a1)])
  obtain ⟨T3, X3, e3, st3⟩ := getF X2 hx hZ hown (host := "") (Or.inl (wd_40 hw)) Via.refl e2 F_next_a1 (g := (mkF m 26 #[.val (.ref a1)] [(.ref a1)])) rfl rfl (hb hby d5_26)
  refine own_go st3 ?_
  show own_G p e below Φ T3 (mkF m 29 #[.val (.ref a1)] [(.ref a4)])
  refine own_go (fun _ => XS.aloadN X3.here hx rfl (hb hby d5_29) rfl rfl) ?_
  show own_G p e below Φ T3 (mkF m 30 #[.val (.ref a1)] [(.ref a1), (.ref a4)])
  obtain ⟨T4, X4, e4, st4⟩ := getF X3 hx hZ hown (host := "") (Or.inl (wd_38 hw)) Via.refl e3 F_previous_a1 (g := (mkF m 30 #[.val (.ref a1)] [(.ref a1), (.ref a4)])) rfl rfl (hb hby d5_30)
  refine own_go st4 ?_
  show own_G p e below Φ T4 (mkF m 33 #[.val (.ref a1)] [.null, (.ref a4)])
  obtain ⟨T5, h5, X5, e5, W5, st5⟩ := putF X4 hx hZ hown (host := "") (Or.inl (wd_38 hw)) Via.refl e4 F_previous_a4 E_a4 (Or.inl (wd_39 hw)) (wd_12 hw) (ty := (.object "corro/core/Order")) (by decide) rfl rfl (g := (mkF m 33 #[.val (.ref a1)] [.null, (.ref a4)])) rfl rfl (hb hby d5_33)
  refine own_go st5 ?_
  have N5 := Fr.snoc X5 N0 g_a4
  have K5 := K0.wr W5 (Or.inl (List.mem_of_getElem? (i := 1) rfl))
  have Zp5 : n0 ≤ h5.size := Nat.le_trans Z0 (Keep.of_wr W5).1
  have f5w := F_previous_a4.same W5
  show own_G p e below Φ T5 (mkF m 36 #[.val (.ref a1)] [])
  refine own_go (fun _ => XS.aloadN X5.here hx rfl (hb hby d5_36) rfl rfl) ?_
  show own_G p e below Φ T5 (mkF m 37 #[.val (.ref a1)] [(.ref a1)])
  refine own_go (fun _ => XS.aconstNull X5.here hx rfl (hb hby d5_37)) ?_
  show own_G p e below Φ T5 (mkF m 38 #[.val (.ref a1)] [.null, (.ref a1)])
  have f6 : Exa Z h5 a1 "corro/core/Order" := E_a1.wr W5
  have f7 : Fld Z h5 a1 "corro/core/Order" "level" "Lcorro/core/Level;" l1 := F_level_a1.other W5 (Or.inl ne_a1_a4)
  obtain ⟨T8, h8, X8, e8, W8, st8⟩ := putF X5 hx hZ hown (host := "") (Or.inl (wd_36 hw)) Via.refl e5 f7 f6 (Or.inl (wd_37 hw)) (wd_12 hw) (ty := (.object "corro/core/Level")) (by decide) rfl rfl (g := (mkF m 38 #[.val (.ref a1)] [.null, (.ref a1)])) rfl rfl (hb hby d5_38)
  refine own_go st8 ?_
  have N8 := Fr.snoc X8 N5 g_a1
  have K8 := K5.wr W8 (Or.inl (List.mem_of_getElem? (i := 0) rfl))
  have Zp8 : n0 ≤ h8.size := Nat.le_trans Zp5 (Keep.of_wr W8).1
  have f8w := f7.same W8
  show own_G p e below Φ T8 (mkF m 41 #[.val (.ref a1)] [])
  refine own_go (fun _ => XS.aloadN X8.here hx rfl (hb hby d5_41) rfl rfl) ?_
  show own_G p e below Φ T8 (mkF m 42 #[.val (.ref a1)] [(.ref a1)])
  refine own_go (fun _ => XS.aconstNull X8.here hx rfl (hb hby d5_42)) ?_
  show own_G p e below Φ T8 (mkF m 43 #[.val (.ref a1)] [.null, (.ref a1)])
  have f9 : Exa Z h8 a1 "corro/core/Order" := f6.wr W8
  have f10 : Fld Z h5 a1 "corro/core/Order" "previous" "Lcorro/core/Order;" .null := F_previous_a1.other W5 (Or.inl ne_a1_a4)
  have f11 : Fld Z h8 a1 "corro/core/Order" "previous" "Lcorro/core/Order;" .null := f10.other W8 (Or.inr (sl_34 hw))
  obtain ⟨T12, h12, X12, e12, W12, st12⟩ := putF X8 hx hZ hown (host := "") (Or.inl (wd_38 hw)) Via.refl e8 f11 f9 (Or.inl (wd_39 hw)) (wd_12 hw) (ty := (.object "corro/core/Order")) (by decide) rfl rfl (g := (mkF m 43 #[.val (.ref a1)] [.null, (.ref a1)])) rfl rfl (hb hby d5_43)
  refine own_go st12 ?_
  have N12 := Fr.snoc X12 N8 g_a1
  have K12 := K8.wr W12 (Or.inl (List.mem_of_getElem? (i := 0) rfl))
  have Zp12 : n0 ≤ h12.size := Nat.le_trans Zp8 (Keep.of_wr W12).1
  have f12w := f11.same W12
  show own_G p e below Φ T12 (mkF m 46 #[.val (.ref a1)] [])
  refine own_go (fun _ => XS.aloadN X12.here hx rfl (hb hby d5_46) rfl rfl) ?_
  show own_G p e below Φ T12 (mkF m 47 #[.val (.ref a1)] [(.ref a1)])
  refine own_go (fun _ => XS.aconstNull X12.here hx rfl (hb hby d5_47)) ?_
  show own_G p e below Φ T12 (mkF m 48 #[.val (.ref a1)] [.null, (.ref a1)])
  have f13 : Exa Z h12 a1 "corro/core/Order" := f9.wr W12
  have f14 : Fld Z h5 a1 "corro/core/Order" "next" "Lcorro/core/Order;" (.ref a4) := F_next_a1.other W5 (Or.inl ne_a1_a4)
  have f15 : Fld Z h8 a1 "corro/core/Order" "next" "Lcorro/core/Order;" (.ref a4) := f14.other W8 (Or.inr (sl_35 hw))
  have f16 : Fld Z h12 a1 "corro/core/Order" "next" "Lcorro/core/Order;" (.ref a4) := f15.other W12 (Or.inr (sl_36 hw))
  obtain ⟨T17, h17, X17, e17, W17, st17⟩ := putF X12 hx hZ hown (host := "") (Or.inl (wd_40 hw)) Via.refl e12 f16 f13 (Or.inl (wd_41 hw)) (wd_12 hw) (ty := (.object "corro/core/Order")) (by decide) rfl rfl (g := (mkF m 48 #[.val (.ref a1)] [.null, (.ref a1)])) rfl rfl (hb hby d5_48)
  refine own_go st17 ?_
  have N17 := Fr.snoc X17 N12 g_a1
  have K17 := K12.wr W17 (Or.inl (List.mem_of_getElem? (i := 0) rfl))
  have Zp17 : n0 ≤ h17.size := Nat.le_trans Zp12 (Keep.of_wr W17).1
  have f17w := f16.same W17
  show own_G p e below Φ T17 (mkF m 51 #[.val (.ref a1)] [])
  have f18 : Exa Z h17 a1 "corro/core/Order" := f13.wr W17
  have f19 : Fld Z h12 a1 "corro/core/Order" "level" "Lcorro/core/Level;" .null := f8w.other W12 (Or.inr (sl_37 hw))
  have f20 : Fld Z h17 a1 "corro/core/Order" "level" "Lcorro/core/Level;" .null := f19.other W17 (Or.inr (sl_38 hw))
  have f21 : Fld Z h17 a1 "corro/core/Order" "previous" "Lcorro/core/Order;" .null := f12w.other W17 (Or.inr (sl_39 hw))
  have f22 : Fld Z h5 a4 "corro/core/Order" "level" "Lcorro/core/Level;" l4 := F_level_a4.other W5 (Or.inr (sl_37 hw))
  have f23 : Fld Z h8 a4 "corro/core/Order" "level" "Lcorro/core/Level;" l4 := f22.other W8 (Or.inl (Ne.symm ne_a1_a4))
  have f24 : Fld Z h12 a4 "corro/core/Order" "level" "Lcorro/core/Level;" l4 := f23.other W12 (Or.inl (Ne.symm ne_a1_a4))
  have f25 : Fld Z h17 a4 "corro/core/Order" "level" "Lcorro/core/Level;" l4 := f24.other W17 (Or.inl (Ne.symm ne_a1_a4))
  have f26 : Fld Z h8 a4 "corro/core/Order" "previous" "Lcorro/core/Order;" .null := f5w.other W8 (Or.inl (Ne.symm ne_a1_a4))
  have f27 : Fld Z h12 a4 "corro/core/Order" "previous" "Lcorro/core/Order;" .null := f26.other W12 (Or.inl (Ne.symm ne_a1_a4))
  have f28 : Fld Z h17 a4 "corro/core/Order" "previous" "Lcorro/core/Order;" .null := f27.other W17 (Or.inl (Ne.symm ne_a1_a4))
  have f29 : Fld Z h5 a4 "corro/core/Order" "next" "Lcorro/core/Order;" x4 := F_next_a4.other W5 (Or.inr (sl_36 hw))
  have f30 : Fld Z h8 a4 "corro/core/Order" "next" "Lcorro/core/Order;" x4 := f29.other W8 (Or.inl (Ne.symm ne_a1_a4))
  have f31 : Fld Z h12 a4 "corro/core/Order" "next" "Lcorro/core/Order;" x4 := f30.other W12 (Or.inl (Ne.symm ne_a1_a4))
  have f32 : Fld Z h17 a4 "corro/core/Order" "next" "Lcorro/core/Order;" x4 := f31.other W17 (Or.inl (Ne.symm ne_a1_a4))
  rw [hΦ]
  refine own_ret X17 (v := none) (fun _ => rfl) (BodyLoose.notSynchronized Bd) (fun fs hr => X17.returnOut hx Bd.returns (hb hby d5_51) hr) ?_ (by decide) (by decide)
  rw [e17]
  exact ⟨rfl, N17, K17, f18, f20, f21, f17w, f25, f28, f32⟩
theorem d5_7 : decode prog_18_method_20_code 7 = .ok (.aload_n 0, 1) := by decide +kernel
theorem d5_8 : decode prog_18_method_20_code 8 = .ok (.getfield 56, 3) := by decide +kernel
theorem d5_11 : decode prog_18_method_20_code 11 = .ok (.aload_n 0, 1) := by decide +kernel
theorem d5_12 : decode prog_18_method_20_code 12 = .ok (.getfield 52, 3) := by decide +kernel
theorem d5_15 : decode prog_18_method_20_code 15 = .ok (.putfield 52, 3) := by decide +kernel
theorem ef_rmV10 (m : MethodId) (a1 : Addr) : entryFrame m #[(.ref a1)] 1 = mkF m 0 #[.val (.ref a1)] [] := by first | (simp [entryFrame, mkF, argsToLocals, Value.category]; done) | rfl
def Q_rmV10 (Z : State) (a1 : Addr) (l1 : Value) (a3 : Addr) (l3 : Value) (v3 : Value) (x3 : Value) (h0 : Heap) (n0 : Nat) (v : Option Value) (h : Heap) (L : List Loc) : Prop := v = none ∧ Fr n0 L ∧ Keep h0 h [a1, a3] ∧ Exa Z h a1 "corro/core/Order" ∧ Fld Z h a1 "corro/core/Order" "level" "Lcorro/core/Level;" .null ∧ Fld Z h a1 "corro/core/Order" "previous" "Lcorro/core/Order;" .null ∧ Fld Z h a1 "corro/core/Order" "next" "Lcorro/core/Order;" .null ∧ Fld Z h a3 "corro/core/Order" "level" "Lcorro/core/Level;" l3 ∧ Fld Z h a3 "corro/core/Order" "previous" "Lcorro/core/Order;" v3 ∧ Fld Z h a3 "corro/core/Order" "next" "Lcorro/core/Order;" .null
set_option maxRecDepth 65536 in
set_option maxHeartbeats 40000000 in
theorem rmV10 (l : Launch) (Z : State) (a0 : Array Value) (hw : ∀ d ∈ tables_1, d.before a0 Z = true) (ws : List Jvm.Cond) (a1 : Addr) (l1 : Value) (a3 : Addr) (l3 : Value) (v3 : Value) (x3 : Value) (h0 : Heap) (n0 : Nat) (Z0 : n0 ≤ h0.size) (E_a1 : Exa Z h0 a1 "corro/core/Order") (F_level_a1 : Fld Z h0 a1 "corro/core/Order" "level" "Lcorro/core/Level;" l1) (F_previous_a1 : Fld Z h0 a1 "corro/core/Order" "previous" "Lcorro/core/Order;" (.ref a3)) (F_next_a1 : Fld Z h0 a1 "corro/core/Order" "next" "Lcorro/core/Order;" .null) (g_a1 : n0 ≤ a1) (E_a3 : Exa Z h0 a3 "corro/core/Order") (F_level_a3 : Fld Z h0 a3 "corro/core/Order" "level" "Lcorro/core/Level;" l3) (F_previous_a3 : Fld Z h0 a3 "corro/core/Order" "previous" "Lcorro/core/Order;" v3) (F_next_a3 : Fld Z h0 a3 "corro/core/Order" "next" "Lcorro/core/Order;" x3) (g_a3 : n0 ≤ a3) (ne_a1_a3 : a1 ≠ a3) :
    MetFree l (⟨"corro/core/Order", "leave", "()V"⟩ : MethodName) (head1 (Jvm.Cond.code (⟨"corro/core/Order", "leave", "()V"⟩ : MethodName) prog_18_method_20_code 1 none :: ws) ({ frames := 0, cells := 0, slots := 0, locals := 0 } : Room)) (fun a U => a = #[(.ref a1)] ∧ Z.Warmed39 U.vm ∧ U.heap = h0) (fun _ _ _ _ _ => True) (fun _ U o U' => ∃ v L, o = .returned v ∧ Q_rmV10 Z a1 l1 a3 l3 v3 x3 h0 n0 v U'.heap L ∧ FrameEnd U o U' L ({ frames := 0, cells := 0, slots := 0, locals := 0 } : Room).cells ({ frames := 0, cells := 0, slots := 0, locals := 0 } : Room).slots) := by
  refine MetFree.of_bodySF (plainFor_of_name pn_1) hisR ?_
  intro p e s m args below meth c s₁ Bd hml0 hP hK
  obtain ⟨rfl, hZ, hh⟩ := hP
  have hx := Bd.exec
  have hby := Bd.bytes
  have hml : c.maxLocals = 1 := hml0
  have hown : s.vm.findClass "corro/core/Order" = some m.cls := findClass_of_methodNamed Bd.named
  have hnm := (name_of_methodNamed Bd.named Bd.method).1
  have X0 : Stand p l e ({ frames := 0, cells := 0, slots := 0, locals := 0 } : Room) s m #[(.ref a1)] below meth c s₁ [] 0 0 := Stand.of_body Bd
  have e0 : s₁.heap = h0 := by rw [← hh, Bd.state]; rfl
  have N0 := Fr.nil n0
  have K0 : Keep h0 h0 [a1, a3] := Keep.refl _ _
  suffices G0 : own_G p e below (own_E s below (Q_rmV10 Z a1 l1 a3 l3 v3 x3 h0 n0) ({ frames := 0, cells := 0, slots := 0, locals := 0 } : Room).cells ({ frames := 0, cells := 0, slots := 0, locals := 0 } : Room).slots) s₁ (mkF m 0 #[.val (.ref a1)] []) by
    obtain ⟨zt, zst, zo, zq1, zq2, zq3⟩ := G0
    exact ⟨zt, zo, castTop (ef_rmV10 m a1) zst, zq1, zq2, zq3⟩
  obtain ⟨Φ, hΦ⟩ : ∃ Φ, Φ = own_E s below (Q_rmV10 Z a1 l1 a3 l3 v3 x3 h0 n0) ({ frames := 0, cells := 0, slots := 0, locals := 0 } : Room).cells ({ frames := 0, cells := 0, slots := 0, locals := 0 } : Room).slots := ⟨_, rfl⟩
  rw [← hΦ]
  show own_G p e below Φ s₁ (mkF m 0 #[.val (.ref a1)] [])
  refine own_go (fun _ => XS.aloadN X0.here hx rfl (hb hby d5_0) rfl rfl) ?_
  show own_G p e below Φ s₁ (mkF m 1 #[.val (.ref a1)] [(.ref a1)])
  obtain ⟨T1, X1, e1, st1⟩ := getF X0 hx hZ hown (host := "") (Or.inl (wd_38 hw)) Via.refl e0 F_previous_a1 (g := (mkF m 1 #[.val (.ref a1)] [(.ref a1)])) rfl rfl (hb hby d5_1)
  refine own_go st1 ?_
  show own_G p e below Φ T1 (mkF m 4 #[.val (.ref a1)] [(.ref a3)])
  refine own_go (fun _ => XS.ifnullNo X1.here hx rfl (hb hby d5_4) rfl) ?_
  show own_G p e below Φ T1 (mkF m 7 #[.val (.ref a1)] [])
  refine own_go (fun _ => XS.aloadN X1.here hx rfl (hb hby d5_7) rfl rfl) ?_
  show own_G p e below Φ T1 (mkF m 8 #[.val (.ref a1)] [(.ref a1)])
  obtain ⟨T2, X2, e2, st2⟩ := getF X1 hx hZ hown (host := "") (Or.inl (wd_38 hw)) Via.refl e1 F_previous_a1 (g := (mkF m 8 #[.val (.ref a1)] [(.ref a1)])) rfl rfl (hb hby d5_8)
  refine own_go st2 ?_
  show own_G p e below Φ T2 (mkF m 11 #[.val (.ref a1)] [(.ref a3)])
  refine own_go (fun _ => XS.aloadN X2.here hx rfl (hb hby d5_11) rfl rfl) ?_
  show own_G p e below Φ T2 (mkF m 12 #[.val (.ref a1)] [(.ref a1), (.ref a3)])
  obtain ⟨T3, X3, e3, st3⟩ := getF X2 hx hZ hown (host := "") (Or.inl (wd_40 hw)) Via.refl e2 F_next_a1 (g := (mkF m 12 #[.val (.ref a1)] [(.ref a1), (.ref a3)])) rfl rfl (hb hby d5_12)
  refine own_go st3 ?_
  show own_G p e below Φ T3 (mkF m 15 #[.val (.ref a1)] [.null, (.ref a3)])
  obtain ⟨T4, h4, X4, e4, W4, st4⟩ := putF X3 hx hZ hown (host := "") (Or.inl (wd_40 hw)) Via.refl e3 F_next_a3 E_a3 (Or.inl (wd_41 hw)) (wd_12 hw) (ty := (.object "corro/core/Order")) (by decide) rfl rfl (g := (mkF m 15 #[.val (.ref a1)] [.null, (.ref a3)])) rfl rfl (hb hby d5_15)
  refine own_go st4 ?_
  have N4 := Fr.snoc X4 N0 g_a3
  have K4 := K0.wr W4 (Or.inl (List.mem_of_getElem? (i := 1) rfl))
  have Zp4 : n0 ≤ h4.size := Nat.le_trans Z0 (Keep.of_wr W4).1
  have f4w := F_next_a3.same W4
  show own_G p e below Φ T4 (mkF m 18 #[.val (.ref a1)] [])
  refine own_go (fun _ => XS.aloadN X4.here hx rfl (hb hby d5_18) rfl rfl) ?_
  show own_G p e below Φ T4 (mkF m 19 #[.val (.ref a1)] [(.ref a1)])
  have f5 : Fld Z h4 a1 "corro/core/Order" "next" "Lcorro/core/Order;" .null := F_next_a1.other W4 (Or.inl ne_a1_a3)
  obtain ⟨T6, X6, e6, st6⟩ := getF X4 hx hZ hown (host := "") (Or.inl (wd_40 hw)) Via.refl e4 f5 (g := (mkF m 19 #[.val (.ref a1)] [(.ref a1)])) rfl rfl (hb hby d5_19)
  refine own_go st6 ?_
  show own_G p e below Φ T6 (mkF m 22 #[.val (.ref a1)] [.null])
  refine own_go (fun _ => XS.ifnullYes X6.here hx rfl (pc0 := 22) (pc' := 36) rfl (hb hby d5_22) rfl (by decide) (by decide)) ?_
  show own_G p e below Φ T6 (mkF m 36 #[.val (.ref a1)] [])
  refine own_go (fun _ => XS.aloadN X6.here hx rfl (hb hby d5_36) rfl rfl) ?_
  show own_G p e below Φ T6 (mkF m 37 #[.val (.ref a1)] [(.ref a1)])
  refine own_go (fun _ => XS.aconstNull X6.here hx rfl (hb hby d5_37)) ?_
  show own_G p e below Φ T6 (mkF m 38 #[.val (.ref a1)] [.null, (.ref a1)])
  have f7 : Exa Z h4 a1 "corro/core/Order" := E_a1.wr W4
  have f8 : Fld Z h4 a1 "corro/core/Order" "level" "Lcorro/core/Level;" l1 := F_level_a1.other W4 (Or.inl ne_a1_a3)
  obtain ⟨T9, h9, X9, e9, W9, st9⟩ := putF X6 hx hZ hown (host := "") (Or.inl (wd_36 hw)) Via.refl e6 f8 f7 (Or.inl (wd_37 hw)) (wd_12 hw) (ty := (.object "corro/core/Level")) (by decide) rfl rfl (g := (mkF m 38 #[.val (.ref a1)] [.null, (.ref a1)])) rfl rfl (hb hby d5_38)
  refine own_go st9 ?_
  have N9 := Fr.snoc X9 N4 g_a1
  have K9 := K4.wr W9 (Or.inl (List.mem_of_getElem? (i := 0) rfl))
  have Zp9 : n0 ≤ h9.size := Nat.le_trans Zp4 (Keep.of_wr W9).1
  have f9w := f8.same W9
  show own_G p e below Φ T9 (mkF m 41 #[.val (.ref a1)] [])
  refine own_go (fun _ => XS.aloadN X9.here hx rfl (hb hby d5_41) rfl rfl) ?_
  show own_G p e below Φ T9 (mkF m 42 #[.val (.ref a1)] [(.ref a1)])
  refine own_go (fun _ => XS.aconstNull X9.here hx rfl (hb hby d5_42)) ?_
  show own_G p e below Φ T9 (mkF m 43 #[.val (.ref a1)] [.null, (.ref a1)])
  have f10 : Exa Z h9 a1 "corro/core/Order" := f7.wr W9
  have f11 : Fld Z h4 a1 "corro/core/Order" "previous" "Lcorro/core/Order;" (.ref a3) := F_previous_a1.other W4 (Or.inl ne_a1_a3)
  have f12 : Fld Z h9 a1 "corro/core/Order" "previous" "Lcorro/core/Order;" (.ref a3) := f11.other W9 (Or.inr (sl_34 hw))
  obtain ⟨T13, h13, X13, e13, W13, st13⟩ := putF X9 hx hZ hown (host := "") (Or.inl (wd_38 hw)) Via.refl e9 f12 f10 (Or.inl (wd_39 hw)) (wd_12 hw) (ty := (.object "corro/core/Order")) (by decide) rfl rfl (g := (mkF m 43 #[.val (.ref a1)] [.null, (.ref a1)])) rfl rfl (hb hby d5_43)
  refine own_go st13 ?_
  have N13 := Fr.snoc X13 N9 g_a1
  have K13 := K9.wr W13 (Or.inl (List.mem_of_getElem? (i := 0) rfl))
  have Zp13 : n0 ≤ h13.size := Nat.le_trans Zp9 (Keep.of_wr W13).1
  have f13w := f12.same W13
  show own_G p e below Φ T13 (mkF m 46 #[.val (.ref a1)] [])
  refine own_go (fun _ => XS.aloadN X13.here hx rfl (hb hby d5_46) rfl rfl) ?_
  show own_G p e below Φ T13 (mkF m 47 #[.val (.ref a1)] [(.ref a1)])
  refine own_go (fun _ => XS.aconstNull X13.here hx rfl (hb hby d5_47)) ?_
  show own_G p e below Φ T13 (mkF m 48 #[.val (.ref a1)] [.null, (.ref a1)])
  have f14 : Exa Z h13 a1 "corro/core/Order" := f10.wr W13
  have f15 : Fld Z h9 a1 "corro/core/Order" "next" "Lcorro/core/Order;" .null := f5.other W9 (Or.inr (sl_35 hw))
  have f16 : Fld Z h13 a1 "corro/core/Order" "next" "Lcorro/core/Order;" .null := f15.other W13 (Or.inr (sl_36 hw))
  obtain ⟨T17, h17, X17, e17, W17, st17⟩ := putF X13 hx hZ hown (host := "") (Or.inl (wd_40 hw)) Via.refl e13 f16 f14 (Or.inl (wd_41 hw)) (wd_12 hw) (ty := (.object "corro/core/Order")) (by decide) rfl rfl (g := (mkF m 48 #[.val (.ref a1)] [.null, (.ref a1)])) rfl rfl (hb hby d5_48)
  refine own_go st17 ?_
  have N17 := Fr.snoc X17 N13 g_a1
  have K17 := K13.wr W17 (Or.inl (List.mem_of_getElem? (i := 0) rfl))
  have Zp17 : n0 ≤ h17.size := Nat.le_trans Zp13 (Keep.of_wr W17).1
  have f17w := f16.same W17
  show own_G p e below Φ T17 (mkF m 51 #[.val (.ref a1)] [])
  have f18 : Exa Z h17 a1 "corro/core/Order" := f14.wr W17
  have f19 : Fld Z h13 a1 "corro/core/Order" "level" "Lcorro/core/Level;" .null := f9w.other W13 (Or.inr (sl_37 hw))
  have f20 : Fld Z h17 a1 "corro/core/Order" "level" "Lcorro/core/Level;" .null := f19.other W17 (Or.inr (sl_38 hw))
  have f21 : Fld Z h17 a1 "corro/core/Order" "previous" "Lcorro/core/Order;" .null := f13w.other W17 (Or.inr (sl_39 hw))
  have f22 : Fld Z h4 a3 "corro/core/Order" "level" "Lcorro/core/Level;" l3 := F_level_a3.other W4 (Or.inr (sl_38 hw))
  have f23 : Fld Z h9 a3 "corro/core/Order" "level" "Lcorro/core/Level;" l3 := f22.other W9 (Or.inl (Ne.symm ne_a1_a3))
  have f24 : Fld Z h13 a3 "corro/core/Order" "level" "Lcorro/core/Level;" l3 := f23.other W13 (Or.inl (Ne.symm ne_a1_a3))
  have f25 : Fld Z h17 a3 "corro/core/Order" "level" "Lcorro/core/Level;" l3 := f24.other W17 (Or.inl (Ne.symm ne_a1_a3))
  have f26 : Fld Z h4 a3 "corro/core/Order" "previous" "Lcorro/core/Order;" v3 := F_previous_a3.other W4 (Or.inr (sl_39 hw))
  have f27 : Fld Z h9 a3 "corro/core/Order" "previous" "Lcorro/core/Order;" v3 := f26.other W9 (Or.inl (Ne.symm ne_a1_a3))
  have f28 : Fld Z h13 a3 "corro/core/Order" "previous" "Lcorro/core/Order;" v3 := f27.other W13 (Or.inl (Ne.symm ne_a1_a3))
  have f29 : Fld Z h17 a3 "corro/core/Order" "previous" "Lcorro/core/Order;" v3 := f28.other W17 (Or.inl (Ne.symm ne_a1_a3))
  have f30 : Fld Z h9 a3 "corro/core/Order" "next" "Lcorro/core/Order;" .null := f4w.other W9 (Or.inl (Ne.symm ne_a1_a3))
  have f31 : Fld Z h13 a3 "corro/core/Order" "next" "Lcorro/core/Order;" .null := f30.other W13 (Or.inl (Ne.symm ne_a1_a3))
  have f32 : Fld Z h17 a3 "corro/core/Order" "next" "Lcorro/core/Order;" .null := f31.other W17 (Or.inl (Ne.symm ne_a1_a3))
  rw [hΦ]
  refine own_ret X17 (v := none) (fun _ => rfl) (BodyLoose.notSynchronized Bd) (fun fs hr => X17.returnOut hx Bd.returns (hb hby d5_51) hr) ?_ (by decide) (by decide)
  rw [e17]
  exact ⟨rfl, N17, K17, f18, f20, f21, f17w, f25, f29, f32⟩
theorem ef_rmV11 (m : MethodId) (a1 : Addr) : entryFrame m #[(.ref a1)] 1 = mkF m 0 #[.val (.ref a1)] [] := by first | (simp [entryFrame, mkF, argsToLocals, Value.category]; done) | rfl
def Q_rmV11 (Z : State) (a1 : Addr) (l1 : Value) (a3 : Addr) (l3 : Value) (v3 : Value) (x3 : Value) (a4 : Addr) (l4 : Value) (v4 : Value) (x4 : Value) (h0 : Heap) (n0 : Nat) (v : Option Value) (h : Heap) (L : List Loc) : Prop := v = none ∧ Fr n0 L ∧ Keep h0 h [a1, a3, a4] ∧ Exa Z h a1 "corro/core/Order" ∧ Fld Z h a1 "corro/core/Order" "level" "Lcorro/core/Level;" .null ∧ Fld Z h a1 "corro/core/Order" "previous" "Lcorro/core/Order;" .null ∧ Fld Z h a1 "corro/core/Order" "next" "Lcorro/core/Order;" .null ∧ Fld Z h a3 "corro/core/Order" "level" "Lcorro/core/Level;" l3 ∧ Fld Z h a3 "corro/core/Order" "previous" "Lcorro/core/Order;" v3 ∧ Fld Z h a3 "corro/core/Order" "next" "Lcorro/core/Order;" (.ref a4) ∧ Fld Z h a4 "corro/core/Order" "level" "Lcorro/core/Level;" l4 ∧ Fld Z h a4 "corro/core/Order" "previous" "Lcorro/core/Order;" (.ref a3) ∧ Fld Z h a4 "corro/core/Order" "next" "Lcorro/core/Order;" x4
set_option maxRecDepth 65536 in
set_option maxHeartbeats 40000000 in
theorem rmV11 (l : Launch) (Z : State) (a0 : Array Value) (hw : ∀ d ∈ tables_1, d.before a0 Z = true) (ws : List Jvm.Cond) (a1 : Addr) (l1 : Value) (a3 : Addr) (l3 : Value) (v3 : Value) (x3 : Value) (a4 : Addr) (l4 : Value) (v4 : Value) (x4 : Value) (h0 : Heap) (n0 : Nat) (Z0 : n0 ≤ h0.size) (E_a1 : Exa Z h0 a1 "corro/core/Order") (F_level_a1 : Fld Z h0 a1 "corro/core/Order" "level" "Lcorro/core/Level;" l1) (F_previous_a1 : Fld Z h0 a1 "corro/core/Order" "previous" "Lcorro/core/Order;" (.ref a3)) (F_next_a1 : Fld Z h0 a1 "corro/core/Order" "next" "Lcorro/core/Order;" (.ref a4)) (g_a1 : n0 ≤ a1) (E_a3 : Exa Z h0 a3 "corro/core/Order") (F_level_a3 : Fld Z h0 a3 "corro/core/Order" "level" "Lcorro/core/Level;" l3) (F_previous_a3 : Fld Z h0 a3 "corro/core/Order" "previous" "Lcorro/core/Order;" v3) (F_next_a3 : Fld Z h0 a3 "corro/core/Order" "next" "Lcorro/core/Order;" x3) (g_a3 : n0 ≤ a3) (ne_a1_a3 : a1 ≠ a3) (E_a4 : Exa Z h0 a4 "corro/core/Order") (F_level_a4 : Fld Z h0 a4 "corro/core/Order" "level" "Lcorro/core/Level;" l4) (F_previous_a4 : Fld Z h0 a4 "corro/core/Order" "previous" "Lcorro/core/Order;" v4) (F_next_a4 : Fld Z h0 a4 "corro/core/Order" "next" "Lcorro/core/Order;" x4) (g_a4 : n0 ≤ a4) (ne_a1_a4 : a1 ≠ a4) (ne_a3_a4 : a3 ≠ a4) :
    MetFree l (⟨"corro/core/Order", "leave", "()V"⟩ : MethodName) (head1 (Jvm.Cond.code (⟨"corro/core/Order", "leave", "()V"⟩ : MethodName) prog_18_method_20_code 1 none :: ws) ({ frames := 0, cells := 0, slots := 0, locals := 0 } : Room)) (fun a U => a = #[(.ref a1)] ∧ Z.Warmed39 U.vm ∧ U.heap = h0) (fun _ _ _ _ _ => True) (fun _ U o U' => ∃ v L, o = .returned v ∧ Q_rmV11 Z a1 l1 a3 l3 v3 x3 a4 l4 v4 x4 h0 n0 v U'.heap L ∧ FrameEnd U o U' L ({ frames := 0, cells := 0, slots := 0, locals := 0 } : Room).cells ({ frames := 0, cells := 0, slots := 0, locals := 0 } : Room).slots) := by
  refine MetFree.of_bodySF (plainFor_of_name pn_1) hisR ?_
  intro p e s m args below meth c s₁ Bd hml0 hP hK
  obtain ⟨rfl, hZ, hh⟩ := hP
  have hx := Bd.exec
  have hby := Bd.bytes
  have hml : c.maxLocals = 1 := hml0
  have hown : s.vm.findClass "corro/core/Order" = some m.cls := findClass_of_methodNamed Bd.named
  have hnm := (name_of_methodNamed Bd.named Bd.method).1
  have X0 : Stand p l e ({ frames := 0, cells := 0, slots := 0, locals := 0 } : Room) s m #[(.ref a1)] below meth c s₁ [] 0 0 := Stand.of_body Bd
  have e0 : s₁.heap = h0 := by rw [← hh, Bd.state]; rfl
  have N0 := Fr.nil n0
  have K0 : Keep h0 h0 [a1, a3, a4] := Keep.refl _ _
  suffices G0 : own_G p e below (own_E s below (Q_rmV11 Z a1 l1 a3 l3 v3 x3 a4 l4 v4 x4 h0 n0) ({ frames := 0, cells := 0, slots := 0, locals := 0 } : Room).cells ({ frames := 0, cells := 0, slots := 0, locals := 0 } : Room).slots) s₁ (mkF m 0 #[.val (.ref a1)] []) by
    obtain ⟨zt, zst, zo, zq1, zq2, zq3⟩ := G0
    exact ⟨zt, zo, castTop (ef_rmV11 m a1) zst, zq1, zq2, zq3⟩
  obtain ⟨Φ, hΦ⟩ : ∃ Φ, Φ = own_E s below (Q_rmV11 Z a1 l1 a3 l3 v3 x3 a4 l4 v4 x4 h0 n0) ({ frames := 0, cells := 0, slots := 0, locals := 0 } : Room).cells ({ frames := 0, cells := 0, slots := 0, locals := 0 } : Room).slots := ⟨_, rfl⟩
  rw [← hΦ]
  show own_G p e below Φ s₁ (mkF m 0 #[.val (.ref a1)] [])
  refine own_go (fun _ => XS.aloadN X0.here hx rfl (hb hby d5_0) rfl rfl) ?_
  show own_G p e below Φ s₁ (mkF m 1 #[.val (.ref a1)] [(.ref a1)])
  obtain ⟨T1, X1, e1, st1⟩ := getF X0 hx hZ hown (host := "") (Or.inl (wd_38 hw)) Via.refl e0 F_previous_a1 (g := (mkF m 1 #[.val (.ref a1)] [(.ref a1)])) rfl rfl (hb hby d5_1)
  refine own_go st1 ?_
  show own_G p e below Φ T1 (mkF m 4 #[.val (.ref a1)] [(.ref a3)])
  refine own_go (fun _ => XS.ifnullNo X1.here hx rfl (hb hby d5_4) rfl) ?_
  show own_G p e below Φ T1 (mkF m 7 #[.val (.ref a1)] [])
  refine own_go (fun _ => XS.aloadN X1.here hx rfl (hb hby d5_7) rfl rfl) ?_
  show own_G p e below Φ T1 (mkF m 8 #[.val (.ref a1)] [(.ref a1)])
  obtain ⟨T2, X2, e2, st2⟩ := getF X1 hx hZ hown (host := "") (Or.inl (wd_38 hw)) Via.refl e1 F_previous_a1 (g := (mkF m 8 #[.val (.ref a1)] [(.ref a1)])) rfl rfl (hb hby d5_8)
  refine own_go st2 ?_
  show own_G p e below Φ T2 (mkF m 11 #[.val (.ref a1)] [(.ref a3)])
  refine own_go (fun _ => XS.aloadN X2.here hx rfl (hb hby d5_11) rfl rfl) ?_
  show own_G p e below Φ T2 (mkF m 12 #[.val (.ref a1)] [(.ref a1), (.ref a3)])
  obtain ⟨T3, X3, e3, st3⟩ := getF X2 hx hZ hown (host := "") (Or.inl (wd_40 hw)) Via.refl e2 F_next_a1 (g := (mkF m 12 #[.val (.ref a1)] [(.ref a1), (.ref a3)])) rfl rfl (hb hby d5_12)
  refine own_go st3 ?_
  show own_G p e below Φ T3 (mkF m 15 #[.val (.ref a1)] [(.ref a4), (.ref a3)])
  obtain ⟨T4, h4, X4, e4, W4, st4⟩ := putF X3 hx hZ hown (host := "") (Or.inl (wd_40 hw)) Via.refl e3 F_next_a3 E_a3 (Or.inl (wd_41 hw)) (wd_12 hw) (ty := (.object "corro/core/Order")) (by decide) rfl rfl (g := (mkF m 15 #[.val (.ref a1)] [(.ref a4), (.ref a3)])) rfl rfl (hb hby d5_15)
  refine own_go st4 ?_
  have N4 := Fr.snoc X4 N0 g_a3
  have K4 := K0.wr W4 (Or.inl (List.mem_of_getElem? (i := 1) rfl))
  have Zp4 : n0 ≤ h4.size := Nat.le_trans Z0 (Keep.of_wr W4).1
  have f4w := F_next_a3.same W4
  show own_G p e below Φ T4 (mkF m 18 #[.val (.ref a1)] [])
  refine own_go (fun _ => XS.aloadN X4.here hx rfl (hb hby d5_18) rfl rfl) ?_
  show own_G p e below Φ T4 (mkF m 19 #[.val (.ref a1)] [(.ref a1)])
  have f5 : Fld Z h4 a1 "corro/core/Order" "next" "Lcorro/core/Order;" (.ref a4) := F_next_a1.other W4 (Or.inl ne_a1_a3)
  obtain ⟨T6, X6, e6, st6⟩ := getF X4 hx hZ hown (host := "") (Or.inl (wd_40 hw)) Via.refl e4 f5 (g := (mkF m 19 #[.val (.ref a1)] [(.ref a1)])) rfl rfl (hb hby d5_19)
  refine own_go st6 ?_
  show own_G p e below Φ T6 (mkF m 22 #[.val (.ref a1)] [(.ref a4)])
  refine own_go (fun _ => XS.ifnullNo X6.here hx rfl (hb hby d5_22) rfl) ?_
  show own_G p e below Φ T6 (mkF m 25 #[.val (.ref a1)] [])
  refine own_go (fun _ => XS.aloadN X6.here hx rfl (hb hby d5_25) rfl rfl) ?_
  show own_G p e below Φ T6 (mkF m 26 #[.val (.ref a1)] [(.ref a1)])
  obtain ⟨T7, X7, e7, st7⟩ := getF X6 hx hZ hown (host := "") (Or.inl (wd_40 hw)) Via.refl e6 f5 (g := (mkF m 26 #[.val (.ref a1)] [(.ref a1)])) rfl rfl (hb hby d5_26)
  refine own_go st7 ?_
  show own_G p e below Φ T7 (mkF m 29 #[.val (.ref a1)] [(.ref a4)])
  refine own_go (fun _ => XS.aloadN X7.here hx rfl (hb hby d5_29) rfl rfl) ?_
  show own_G p e below Φ T7 (mkF m 30 #[.val (.ref a1)] [(.ref a1), (.ref a4)])
  have f8 : Fld Z h4 a1 "corro/core/Order" "previous" "Lcorro/core/Order;" (.ref a3) := F_previous_a1.other W4 (Or.inl ne_a1_a3)
  obtain ⟨T9, X9, e9, st9⟩ := getF X7 hx hZ hown (host := "") (Or.inl (wd_38 hw)) Via.refl e7 f8 (g := (mkF m 30 #[.val (.ref a1)] [(.ref a1), (.ref a4)])) rfl rfl (hb hby d5_30)
  refine own_go st9 ?_
  show own_G p e below Φ T9 (mkF m 33 #[.val (.ref a1)] [(.ref a3), (.ref a4)])
  have f10 : Exa Z h4 a4 "corro/core/Order" := E_a4.wr W4
  have f11 : Fld Z h4 a4 "corro/core/Order" "previous" "Lcorro/core/Order;" v4 := F_previous_a4.other W4 (Or.inl (Ne.symm ne_a3_a4))
  obtain ⟨T12, h12, X12, e12, W12, st12⟩ := putF X9 hx hZ hown (host := "") (Or.inl (wd_38 hw)) Via.refl e9 f11 f10 (Or.inl (wd_39 hw)) (wd_12 hw) (ty := (.object "corro/core/Order")) (by decide) rfl rfl (g := (mkF m 33 #[.val (.ref a1)] [(.ref a3), (.ref a4)])) rfl rfl (hb hby d5_33)
  refine own_go st12 ?_
  have N12 := Fr.snoc X12 N4 g_a4
  have K12 := K4.wr W12 (Or.inl (List.mem_of_getElem? (i := 2) rfl))
  have Zp12 : n0 ≤ h12.size := Nat.le_trans Zp4 (Keep.of_wr W12).1
  have f12w := f11.same W12
  show own_G p e below Φ T12 (mkF m 36 #[.val (.ref a1)] [])
  refine own_go (fun _ => XS.aloadN X12.here hx rfl (hb hby d5_36) rfl rfl) ?_
  show own_G p e below Φ T12 (mkF m 37 #[.val (.ref a1)] [(.ref a1)])
  refine own_go (fun _ => XS.aconstNull X12.here hx rfl (hb hby d5_37)) ?_
  show own_G p e below Φ T12 (mkF m 38 #[.val (.ref a1)] [.null, (.ref a1)])
  have f13 : Exa Z h4 a1 "corro/core/Order" := E_a1.wr W4
  have f14 : Exa Z h12 a1 "corro/core/Order" := f13.wr W12
  have f15 : Fld Z h4 a1 "corro/core/Order" "level" "Lcorro/core/Level;" l1 := F_level_a1.other W4 (Or.inl ne_a1_a3)
  have f16 : Fld Z h12 a1 "corro/core/Order" "level" "Lcorro/core/Level;" l1 := f15.other W12 (Or.inl ne_a1_a4)
  obtain ⟨T17, h17, X17, e17, W17, st17⟩ := putF X12 hx hZ hown (host := "") (Or.inl (wd_36 hw)) Via.refl e12 f16 f14 (Or.inl (wd_37 hw)) (wd_12 hw) (ty := (.object "corro/core/Level")) (by decide) rfl rfl (g := (mkF m 38 #[.val (.ref a1)] [.null, (.ref a1)])) rfl rfl (hb hby d5_38)
  refine own_go st17 ?_
  have N17 := Fr.snoc X17 N12 g_a1
  have K17 := K12.wr W17 (Or.inl (List.mem_of_getElem? (i := 0) rfl))
  have Zp17 : n0 ≤ h17.size := Nat.le_trans Zp12 (Keep.of_wr W17).1
  have f17w := f16.same W17
  show own_G p e below Φ T17 (mkF m 41 #[.val (.ref a1)] [])
  refine own_go (fun _ => XS.aloadN X17.here hx rfl (hb hby d5_41) rfl rfl) ?_
  show own_G p e below Φ T17 (mkF m 42 #[.val (.ref a1)] [(.ref a1)])
  refine own_go (fun _ => XS.aconstNull X17.here hx rfl (hb hby d5_42)) ?_
  show own_G p e below Φ T17 (mkF m 43 #[.val (.ref a1)] [.null, (.ref a1)])
  have f18 : Exa Z h17 a1 "corro/core/Order" := f14.wr W17
  have f19 : Fld Z h12 a1 "corro/core/Order" "previous" "Lcorro/core/Order;" (.ref a3) := f8.other W12 (Or.inl ne_a1_a4)
  have f20 : Fld Z h17 a1 "corro/core/Order" "previous" "Lcorro/core/Order;" (.ref a3) := f19.other W17 (Or.inr (sl_34 hw))
  obtain ⟨T21, h21, X21, e21, W21, st21⟩ := putF X17 hx hZ hown (host := "") (Or.inl (wd_38 hw)) Via.refl e17 f20 f18 (Or.inl (wd_39 hw)) (wd_12 hw) (ty := (.object "corro/core/Order")) (by decide) rfl rfl (g := (mkF m 43 #[.val (.ref a1)] [.null, (.ref a1)])) rfl rfl (hb hby d5_43)
  refine own_go st21 ?_
  have N21 := Fr.snoc X21 N17 g_a1
  have K21 := K17.wr W21 (Or.inl (List.mem_of_getElem? (i := 0) rfl))
  have Zp21 : n0 ≤ h21.size := Nat.le_trans Zp17 (Keep.of_wr W21).1
  have f21w := f20.same W21
  show own_G p e below Φ T21 (mkF m 46 #[.val (.ref a1)] [])
  refine own_go (fun _ => XS.aloadN X21.here hx rfl (hb hby d5_46) rfl rfl) ?_
  show own_G p e below Φ T21 (mkF m 47 #[.val (.ref a1)] [(.ref a1)])
  refine own_go (fun _ => XS.aconstNull X21.here hx rfl (hb hby d5_47)) ?_
  show own_G p e below Φ T21 (mkF m 48 #[.val (.ref a1)] [.null, (.ref a1)])
  have f22 : Exa Z h21 a1 "corro/core/Order" := f18.wr W21
  have f23 : Fld Z h12 a1 "corro/core/Order" "next" "Lcorro/core/Order;" (.ref a4) := f5.other W12 (Or.inl ne_a1_a4)
  have f24 : Fld Z h17 a1 "corro/core/Order" "next" "Lcorro/core/Order;" (.ref a4) := f23.other W17 (Or.inr (sl_35 hw))
  have f25 : Fld Z h21 a1 "corro/core/Order" "next" "Lcorro/core/Order;" (.ref a4) := f24.other W21 (Or.inr (sl_36 hw))
  obtain ⟨T26, h26, X26, e26, W26, st26⟩ := putF X21 hx hZ hown (host := "") (Or.inl (wd_40 hw)) Via.refl e21 f25 f22 (Or.inl (wd_41 hw)) (wd_12 hw) (ty := (.object "corro/core/Order")) (by decide) rfl rfl (g := (mkF m 48 #[.val (.ref a1)] [.null, (.ref a1)])) rfl rfl (hb hby d5_48)
  refine own_go st26 ?_
  have N26 := Fr.snoc X26 N21 g_a1
  have K26 := K21.wr W26 (Or.inl (List.mem_of_getElem? (i := 0) rfl))
  have Zp26 : n0 ≤ h26.size := Nat.le_trans Zp21 (Keep.of_wr W26).1
  have f26w := f25.same W26
  show own_G p e below Φ T26 (mkF m 51 #[.val (.ref a1)] [])
  have f27 : Exa Z h26 a1 "corro/core/Order" := f22.wr W26
  have f28 : Fld Z h21 a1 "corro/core/Order" "level" "Lcorro/core/Level;" .null := f17w.other W21 (Or.inr (sl_37 hw))
  have f29 : Fld Z h26 a1 "corro/core/Order" "level" "Lcorro/core/Level;" .null := f28.other W26 (Or.inr (sl_38 hw))
  have f30 : Fld Z h26 a1 "corro/core/Order" "previous" "Lcorro/core/Order;" .null := f21w.other W26 (Or.inr (sl_39 hw))
  have f31 : Fld Z h4 a3 "corro/core/Order" "level" "Lcorro/core/Level;" l3 := F_level_a3.other W4 (Or.inr (sl_38 hw))
  have f32 : Fld Z h12 a3 "corro/core/Order" "level" "Lcorro/core/Level;" l3 := f31.other W12 (Or.inl ne_a3_a4)
  have f33 : Fld Z h17 a3 "corro/core/Order" "level" "Lcorro/core/Level;" l3 := f32.other W17 (Or.inl (Ne.symm ne_a1_a3))
  have f34 : Fld Z h21 a3 "corro/core/Order" "level" "Lcorro/core/Level;" l3 := f33.other W21 (Or.inl (Ne.symm ne_a1_a3))
  have f35 : Fld Z h26 a3 "corro/core/Order" "level" "Lcorro/core/Level;" l3 := f34.other W26 (Or.inl (Ne.symm ne_a1_a3))
  have f36 : Fld Z h4 a3 "corro/core/Order" "previous" "Lcorro/core/Order;" v3 := F_previous_a3.other W4 (Or.inr (sl_39 hw))
  have f37 : Fld Z h12 a3 "corro/core/Order" "previous" "Lcorro/core/Order;" v3 := f36.other W12 (Or.inl ne_a3_a4)
  have f38 : Fld Z h17 a3 "corro/core/Order" "previous" "Lcorro/core/Order;" v3 := f37.other W17 (Or.inl (Ne.symm ne_a1_a3))
  have f39 : Fld Z h21 a3 "corro/core/Order" "previous" "Lcorro/core/Order;" v3 := f38.other W21 (Or.inl (Ne.symm ne_a1_a3))
  have f40 : Fld Z h26 a3 "corro/core/Order" "previous" "Lcorro/core/Order;" v3 := f39.other W26 (Or.inl (Ne.symm ne_a1_a3))
  have f41 : Fld Z h12 a3 "corro/core/Order" "next" "Lcorro/core/Order;" (.ref a4) := f4w.other W12 (Or.inl ne_a3_a4)
  have f42 : Fld Z h17 a3 "corro/core/Order" "next" "Lcorro/core/Order;" (.ref a4) := f41.other W17 (Or.inl (Ne.symm ne_a1_a3))
  have f43 : Fld Z h21 a3 "corro/core/Order" "next" "Lcorro/core/Order;" (.ref a4) := f42.other W21 (Or.inl (Ne.symm ne_a1_a3))
  have f44 : Fld Z h26 a3 "corro/core/Order" "next" "Lcorro/core/Order;" (.ref a4) := f43.other W26 (Or.inl (Ne.symm ne_a1_a3))
  have f45 : Fld Z h4 a4 "corro/core/Order" "level" "Lcorro/core/Level;" l4 := F_level_a4.other W4 (Or.inl (Ne.symm ne_a3_a4))
  have f46 : Fld Z h12 a4 "corro/core/Order" "level" "Lcorro/core/Level;" l4 := f45.other W12 (Or.inr (sl_37 hw))
  have f47 : Fld Z h17 a4 "corro/core/Order" "level" "Lcorro/core/Level;" l4 := f46.other W17 (Or.inl (Ne.symm ne_a1_a4))
  have f48 : Fld Z h21 a4 "corro/core/Order" "level" "Lcorro/core/Level;" l4 := f47.other W21 (Or.inl (Ne.symm ne_a1_a4))
  have f49 : Fld Z h26 a4 "corro/core/Order" "level" "Lcorro/core/Level;" l4 := f48.other W26 (Or.inl (Ne.symm ne_a1_a4))
  have f50 : Fld Z h17 a4 "corro/core/Order" "previous" "Lcorro/core/Order;" (.ref a3) := f12w.other W17 (Or.inl (Ne.symm ne_a1_a4))
  have f51 : Fld Z h21 a4 "corro/core/Order" "previous" "Lcorro/core/Order;" (.ref a3) := f50.other W21 (Or.inl (Ne.symm ne_a1_a4))
  have f52 : Fld Z h26 a4 "corro/core/Order" "previous" "Lcorro/core/Order;" (.ref a3) := f51.other W26 (Or.inl (Ne.symm ne_a1_a4))
  have f53 : Fld Z h4 a4 "corro/core/Order" "next" "Lcorro/core/Order;" x4 := F_next_a4.other W4 (Or.inl (Ne.symm ne_a3_a4))
  have f54 : Fld Z h12 a4 "corro/core/Order" "next" "Lcorro/core/Order;" x4 := f53.other W12 (Or.inr (sl_36 hw))
  have f55 : Fld Z h17 a4 "corro/core/Order" "next" "Lcorro/core/Order;" x4 := f54.other W17 (Or.inl (Ne.symm ne_a1_a4))
  have f56 : Fld Z h21 a4 "corro/core/Order" "next" "Lcorro/core/Order;" x4 := f55.other W21 (Or.inl (Ne.symm ne_a1_a4))
  have f57 : Fld Z h26 a4 "corro/core/Order" "next" "Lcorro/core/Order;" x4 := f56.other W26 (Or.inl (Ne.symm ne_a1_a4))
  rw [hΦ]
  refine own_ret X26 (v := none) (fun _ => rfl) (BodyLoose.notSynchronized Bd) (fun fs hr => X26.returnOut hx Bd.returns (hb hby d5_51) hr) ?_ (by decide) (by decide)
  rw [e26]
  exact ⟨rfl, N26, K26, f27, f29, f30, f26w, f35, f40, f44, f49, f52, f57⟩
theorem d6_0 : decode prog_18_method_16_code 0 = .ok (.aload_n 0, 1) := by decide +kernel
theorem d6_1 : decode prog_18_method_16_code 1 = .ok (.getfield 48, 3) := by decide +kernel
theorem d6_4 : decode prog_18_method_16_code 4 = .ok (.areturn, 1) := by decide +kernel
theorem ef_rmGlevel (m : MethodId) (a1 : Addr) : entryFrame m #[(.ref a1)] 1 = mkF m 0 #[.val (.ref a1)] [] := by first | (simp [entryFrame, mkF, argsToLocals, Value.category]; done) | rfl
def Q_rmGlevel (Z : State) (a1 : Addr) (w : Value) (h0 : Heap) (n0 : Nat) (v : Option Value) (h : Heap) (L : List Loc) : Prop := v = some w ∧ Fr n0 L ∧ h = h0
set_option maxRecDepth 65536 in
set_option maxHeartbeats 40000000 in
theorem rmGlevel (l : Launch) (Z : State) (a0 : Array Value) (hw : ∀ d ∈ tables_1, d.before a0 Z = true) (ws : List Jvm.Cond) (a1 : Addr) (w : Value) (h0 : Heap) (n0 : Nat) (Z0 : n0 ≤ h0.size) (F_level_a1 : Fld Z h0 a1 "corro/core/Order" "level" "Lcorro/core/Level;" w) (h_w : w.isRef = true) :
    MetFree l (⟨"corro/core/Order", "level", "()Lcorro/core/Level;"⟩ : MethodName) (head1 (Jvm.Cond.code (⟨"corro/core/Order", "level", "()Lcorro/core/Level;"⟩ : MethodName) prog_18_method_16_code 1 (some (.object "corro/core/Level")) :: ws) ({ frames := 0, cells := 0, slots := 0, locals := 0 } : Room)) (fun a U => a = #[(.ref a1)] ∧ Z.Warmed39 U.vm ∧ U.heap = h0) (fun _ _ _ _ _ => True) (fun _ U o U' => ∃ v L, o = .returned v ∧ Q_rmGlevel Z a1 w h0 n0 v U'.heap L ∧ FrameEnd U o U' L ({ frames := 0, cells := 0, slots := 0, locals := 0 } : Room).cells ({ frames := 0, cells := 0, slots := 0, locals := 0 } : Room).slots) := by
  refine MetFree.of_bodySF (plainFor_of_name pn_1) hisR ?_
  intro p e s m args below meth c s₁ Bd hml0 hP hK
  obtain ⟨rfl, hZ, hh⟩ := hP
  have hx := Bd.exec
  have hby := Bd.bytes
  have hml : c.maxLocals = 1 := hml0
  have hown : s.vm.findClass "corro/core/Order" = some m.cls := findClass_of_methodNamed Bd.named
  have hnm := (name_of_methodNamed Bd.named Bd.method).1
  have X0 : Stand p l e ({ frames := 0, cells := 0, slots := 0, locals := 0 } : Room) s m #[(.ref a1)] below meth c s₁ [] 0 0 := Stand.of_body Bd
  have e0 : s₁.heap = h0 := by rw [← hh, Bd.state]; rfl
  have N0 := Fr.nil n0
  suffices G0 : own_G p e below (own_E s below (Q_rmGlevel Z a1 w h0 n0) ({ frames := 0, cells := 0, slots := 0, locals := 0 } : Room).cells ({ frames := 0, cells := 0, slots := 0, locals := 0 } : Room).slots) s₁ (mkF m 0 #[.val (.ref a1)] []) by
    obtain ⟨zt, zst, zo, zq1, zq2, zq3⟩ := G0
    exact ⟨zt, zo, castTop (ef_rmGlevel m a1) zst, zq1, zq2, zq3⟩
  obtain ⟨Φ, hΦ⟩ : ∃ Φ, Φ = own_E s below (Q_rmGlevel Z a1 w h0 n0) ({ frames := 0, cells := 0, slots := 0, locals := 0 } : Room).cells ({ frames := 0, cells := 0, slots := 0, locals := 0 } : Room).slots := ⟨_, rfl⟩
  rw [← hΦ]
  show own_G p e below Φ s₁ (mkF m 0 #[.val (.ref a1)] [])
  refine own_go (fun _ => XS.aloadN X0.here hx rfl (hb hby d6_0) rfl rfl) ?_
  show own_G p e below Φ s₁ (mkF m 1 #[.val (.ref a1)] [(.ref a1)])
  obtain ⟨T1, X1, e1, st1⟩ := getF X0 hx hZ hown (host := "") (Or.inl (wd_36 hw)) Via.refl e0 F_level_a1 (g := (mkF m 1 #[.val (.ref a1)] [(.ref a1)])) rfl rfl (hb hby d6_1)
  refine own_go st1 ?_
  show own_G p e below Φ T1 (mkF m 4 #[.val (.ref a1)] [w])
  rw [hΦ]
  refine own_ret X1 (v := some w) (fun h => by rw [Bd.returns] at h; cases h) (BodyLoose.notSynchronized Bd) (fun fs hr => retOut X1 hx Bd.returns (own_nar h_w) (Or.inr (Or.inr (Or.inr (Or.inr ⟨rfl, rfl, h_w⟩)))) (hb hby d6_4) hr) ?_ (by decide) (by decide)
  rw [e1]
  exact ⟨rfl, N0, rfl⟩
theorem d7_0 : decode prog_18_method_18_code 0 = .ok (.aload_n 0, 1) := by decide +kernel
theorem d7_1 : decode prog_18_method_18_code 1 = .ok (.getfield 56, 3) := by decide +kernel
theorem d7_4 : decode prog_18_method_18_code 4 = .ok (.areturn, 1) := by decide +kernel
theorem ef_rmGprevious (m : MethodId) (a1 : Addr) : entryFrame m #[(.ref a1)] 1 = mkF m 0 #[.val (.ref a1)] [] := by first | (simp [entryFrame, mkF, argsToLocals, Value.category]; done) | rfl
def Q_rmGprevious (Z : State) (a1 : Addr) (w : Value) (h0 : Heap) (n0 : Nat) (v : Option Value) (h : Heap) (L : List Loc) : Prop := v = some w ∧ Fr n0 L ∧ h = h0
set_option maxRecDepth 65536 in
set_option maxHeartbeats 40000000 in
theorem rmGprevious (l : Launch) (Z : State) (a0 : Array Value) (hw : ∀ d ∈ tables_1, d.before a0 Z = true) (ws : List Jvm.Cond) (a1 : Addr) (w : Value) (h0 : Heap) (n0 : Nat) (Z0 : n0 ≤ h0.size) (F_previous_a1 : Fld Z h0 a1 "corro/core/Order" "previous" "Lcorro/core/Order;" w) (h_w : w.isRef = true) :
    MetFree l (⟨"corro/core/Order", "previous", "()Lcorro/core/Order;"⟩ : MethodName) (head1 (Jvm.Cond.code (⟨"corro/core/Order", "previous", "()Lcorro/core/Order;"⟩ : MethodName) prog_18_method_18_code 1 (some (.object "corro/core/Order")) :: ws) ({ frames := 0, cells := 0, slots := 0, locals := 0 } : Room)) (fun a U => a = #[(.ref a1)] ∧ Z.Warmed39 U.vm ∧ U.heap = h0) (fun _ _ _ _ _ => True) (fun _ U o U' => ∃ v L, o = .returned v ∧ Q_rmGprevious Z a1 w h0 n0 v U'.heap L ∧ FrameEnd U o U' L ({ frames := 0, cells := 0, slots := 0, locals := 0 } : Room).cells ({ frames := 0, cells := 0, slots := 0, locals := 0 } : Room).slots) := by
  refine MetFree.of_bodySF (plainFor_of_name pn_1) hisR ?_
  intro p e s m args below meth c s₁ Bd hml0 hP hK
  obtain ⟨rfl, hZ, hh⟩ := hP
  have hx := Bd.exec
  have hby := Bd.bytes
  have hml : c.maxLocals = 1 := hml0
  have hown : s.vm.findClass "corro/core/Order" = some m.cls := findClass_of_methodNamed Bd.named
  have hnm := (name_of_methodNamed Bd.named Bd.method).1
  have X0 : Stand p l e ({ frames := 0, cells := 0, slots := 0, locals := 0 } : Room) s m #[(.ref a1)] below meth c s₁ [] 0 0 := Stand.of_body Bd
  have e0 : s₁.heap = h0 := by rw [← hh, Bd.state]; rfl
  have N0 := Fr.nil n0
  suffices G0 : own_G p e below (own_E s below (Q_rmGprevious Z a1 w h0 n0) ({ frames := 0, cells := 0, slots := 0, locals := 0 } : Room).cells ({ frames := 0, cells := 0, slots := 0, locals := 0 } : Room).slots) s₁ (mkF m 0 #[.val (.ref a1)] []) by
    obtain ⟨zt, zst, zo, zq1, zq2, zq3⟩ := G0
    exact ⟨zt, zo, castTop (ef_rmGprevious m a1) zst, zq1, zq2, zq3⟩
  obtain ⟨Φ, hΦ⟩ : ∃ Φ, Φ = own_E s below (Q_rmGprevious Z a1 w h0 n0) ({ frames := 0, cells := 0, slots := 0, locals := 0 } : Room).cells ({ frames := 0, cells := 0, slots := 0, locals := 0 } : Room).slots := ⟨_, rfl⟩
  rw [← hΦ]
  show own_G p e below Φ s₁ (mkF m 0 #[.val (.ref a1)] [])
  refine own_go (fun _ => XS.aloadN X0.here hx rfl (hb hby d7_0) rfl rfl) ?_
  show own_G p e below Φ s₁ (mkF m 1 #[.val (.ref a1)] [(.ref a1)])
  obtain ⟨T1, X1, e1, st1⟩ := getF X0 hx hZ hown (host := "") (Or.inl (wd_38 hw)) Via.refl e0 F_previous_a1 (g := (mkF m 1 #[.val (.ref a1)] [(.ref a1)])) rfl rfl (hb hby d7_1)
  refine own_go st1 ?_
  show own_G p e below Φ T1 (mkF m 4 #[.val (.ref a1)] [w])
  rw [hΦ]
  refine own_ret X1 (v := some w) (fun h => by rw [Bd.returns] at h; cases h) (BodyLoose.notSynchronized Bd) (fun fs hr => retOut X1 hx Bd.returns (own_nar h_w) (Or.inr (Or.inr (Or.inr (Or.inr ⟨rfl, rfl, h_w⟩)))) (hb hby d7_4) hr) ?_ (by decide) (by decide)
  rw [e1]
  exact ⟨rfl, N0, rfl⟩
theorem d8_0 : decode prog_18_method_17_code 0 = .ok (.aload_n 0, 1) := by decide +kernel
theorem d8_1 : decode prog_18_method_17_code 1 = .ok (.getfield 52, 3) := by decide +kernel
theorem d8_4 : decode prog_18_method_17_code 4 = .ok (.areturn, 1) := by decide +kernel
theorem ef_rmGnext (m : MethodId) (a1 : Addr) : entryFrame m #[(.ref a1)] 1 = mkF m 0 #[.val (.ref a1)] [] := by first | (simp [entryFrame, mkF, argsToLocals, Value.category]; done) | rfl
def Q_rmGnext (Z : State) (a1 : Addr) (w : Value) (h0 : Heap) (n0 : Nat) (v : Option Value) (h : Heap) (L : List Loc) : Prop := v = some w ∧ Fr n0 L ∧ h = h0
set_option maxRecDepth 65536 in
set_option maxHeartbeats 40000000 in
theorem rmGnext (l : Launch) (Z : State) (a0 : Array Value) (hw : ∀ d ∈ tables_1, d.before a0 Z = true) (ws : List Jvm.Cond) (a1 : Addr) (w : Value) (h0 : Heap) (n0 : Nat) (Z0 : n0 ≤ h0.size) (F_next_a1 : Fld Z h0 a1 "corro/core/Order" "next" "Lcorro/core/Order;" w) (h_w : w.isRef = true) :
    MetFree l (⟨"corro/core/Order", "next", "()Lcorro/core/Order;"⟩ : MethodName) (head1 (Jvm.Cond.code (⟨"corro/core/Order", "next", "()Lcorro/core/Order;"⟩ : MethodName) prog_18_method_17_code 1 (some (.object "corro/core/Order")) :: ws) ({ frames := 0, cells := 0, slots := 0, locals := 0 } : Room)) (fun a U => a = #[(.ref a1)] ∧ Z.Warmed39 U.vm ∧ U.heap = h0) (fun _ _ _ _ _ => True) (fun _ U o U' => ∃ v L, o = .returned v ∧ Q_rmGnext Z a1 w h0 n0 v U'.heap L ∧ FrameEnd U o U' L ({ frames := 0, cells := 0, slots := 0, locals := 0 } : Room).cells ({ frames := 0, cells := 0, slots := 0, locals := 0 } : Room).slots) := by
  refine MetFree.of_bodySF (plainFor_of_name pn_1) hisR ?_
  intro p e s m args below meth c s₁ Bd hml0 hP hK
  obtain ⟨rfl, hZ, hh⟩ := hP
  have hx := Bd.exec
  have hby := Bd.bytes
  have hml : c.maxLocals = 1 := hml0
  have hown : s.vm.findClass "corro/core/Order" = some m.cls := findClass_of_methodNamed Bd.named
  have hnm := (name_of_methodNamed Bd.named Bd.method).1
  have X0 : Stand p l e ({ frames := 0, cells := 0, slots := 0, locals := 0 } : Room) s m #[(.ref a1)] below meth c s₁ [] 0 0 := Stand.of_body Bd
  have e0 : s₁.heap = h0 := by rw [← hh, Bd.state]; rfl
  have N0 := Fr.nil n0
  suffices G0 : own_G p e below (own_E s below (Q_rmGnext Z a1 w h0 n0) ({ frames := 0, cells := 0, slots := 0, locals := 0 } : Room).cells ({ frames := 0, cells := 0, slots := 0, locals := 0 } : Room).slots) s₁ (mkF m 0 #[.val (.ref a1)] []) by
    obtain ⟨zt, zst, zo, zq1, zq2, zq3⟩ := G0
    exact ⟨zt, zo, castTop (ef_rmGnext m a1) zst, zq1, zq2, zq3⟩
  obtain ⟨Φ, hΦ⟩ : ∃ Φ, Φ = own_E s below (Q_rmGnext Z a1 w h0 n0) ({ frames := 0, cells := 0, slots := 0, locals := 0 } : Room).cells ({ frames := 0, cells := 0, slots := 0, locals := 0 } : Room).slots := ⟨_, rfl⟩
  rw [← hΦ]
  show own_G p e below Φ s₁ (mkF m 0 #[.val (.ref a1)] [])
  refine own_go (fun _ => XS.aloadN X0.here hx rfl (hb hby d8_0) rfl rfl) ?_
  show own_G p e below Φ s₁ (mkF m 1 #[.val (.ref a1)] [(.ref a1)])
  obtain ⟨T1, X1, e1, st1⟩ := getF X0 hx hZ hown (host := "") (Or.inl (wd_40 hw)) Via.refl e0 F_next_a1 (g := (mkF m 1 #[.val (.ref a1)] [(.ref a1)])) rfl rfl (hb hby d8_1)
  refine own_go st1 ?_
  show own_G p e below Φ T1 (mkF m 4 #[.val (.ref a1)] [w])
  rw [hΦ]
  refine own_ret X1 (v := some w) (fun h => by rw [Bd.returns] at h; cases h) (BodyLoose.notSynchronized Bd) (fun fs hr => retOut X1 hx Bd.returns (own_nar h_w) (Or.inr (Or.inr (Or.inr (Or.inr ⟨rfl, rfl, h_w⟩)))) (hb hby d8_4) hr) ?_ (by decide) (by decide)
  rw [e1]
  exact ⟨rfl, N0, rfl⟩
theorem wd_0 {Z : State} {a0 : Array Value} (hw : ∀ d ∈ tables_1, d.before a0 Z = true) : ((Jvm.Cond.constant "corro/core/OrderLeavePinLaw" (7 : Nat) (2147483647 : Int32)) : Jvm.Cond).before a0 Z = true := hw _ (List.mem_of_getElem? (i := 0) rfl)
theorem wd_1 {Z : State} {a0 : Array Value} (hw : ∀ d ∈ tables_1, d.before a0 Z = true) : ((Jvm.Cond.classLink "corro/core/OrderLeavePinLaw" (8 : Nat) "corro/core/Level") : Jvm.Cond).before a0 Z = true := hw _ (List.mem_of_getElem? (i := 1) rfl)
theorem wd_2 {Z : State} {a0 : Array Value} (hw : ∀ d ∈ tables_1, d.before a0 Z = true) : ((Jvm.Cond.instantiable "corro/core/Level" (2 : Nat)) : Jvm.Cond).before a0 Z = true := hw _ (List.mem_of_getElem? (i := 2) rfl)
theorem wd_3 {Z : State} {a0 : Array Value} (hw : ∀ d ∈ tables_1, d.before a0 Z = true) : ((Jvm.Cond.initialized "corro/core/Level") : Jvm.Cond).before a0 Z = true := hw _ (List.mem_of_getElem? (i := 3) rfl)
theorem wd_4 {Z : State} {a0 : Array Value} (hw : ∀ d ∈ tables_1, d.before a0 Z = true) : ((Jvm.Cond.methodLink "corro/core/OrderLeavePinLaw" (10 : Nat) ({ cls := "corro/core/Level", name := "<init>", desc := "()V" } : Jvm.MethodName)) : Jvm.Cond).before a0 Z = true := hw _ (List.mem_of_getElem? (i := 4) rfl)
theorem wd_6 {Z : State} {a0 : Array Value} (hw : ∀ d ∈ tables_1, d.before a0 Z = true) : ((Jvm.Cond.code ({ cls := "corro/core/Level", name := "<init>", desc := "()V" } : Jvm.MethodName) prog_13_method_1_code (1 : Nat) (Option.none : Option Jvm.ClassFile.FieldType)) : Jvm.Cond).before a0 Z = true := hw _ (List.mem_of_getElem? (i := 6) rfl)
theorem pd_0 : parseMethodDescriptor "()V" = some ⟨[], none⟩ := by decide +kernel
theorem wd_5 {Z : State} {a0 : Array Value} (hw : ∀ d ∈ tables_1, d.before a0 Z = true) : ((Jvm.Cond.instanceMethod ({ cls := "corro/core/Level", name := "<init>", desc := "()V" } : Jvm.MethodName)) : Jvm.Cond).before a0 Z = true := hw _ (List.mem_of_getElem? (i := 5) rfl)
theorem wd_10 {Z : State} {a0 : Array Value} (hw : ∀ d ∈ tables_1, d.before a0 Z = true) : ((Jvm.Cond.classLink "corro/core/OrderLeavePinLaw" (11 : Nat) "corro/core/Order") : Jvm.Cond).before a0 Z = true := hw _ (List.mem_of_getElem? (i := 10) rfl)
theorem wd_11 {Z : State} {a0 : Array Value} (hw : ∀ d ∈ tables_1, d.before a0 Z = true) : ((Jvm.Cond.arrayOver (Jvm.ClassFile.FieldType.object "corro/core/Order")) : Jvm.Cond).before a0 Z = true := hw _ (List.mem_of_getElem? (i := 11) rfl)
theorem wd_13 {Z : State} {a0 : Array Value} (hw : ∀ d ∈ tables_1, d.before a0 Z = true) : ((Jvm.Cond.initialized "corro/core/Order") : Jvm.Cond).before a0 Z = true := hw _ (List.mem_of_getElem? (i := 13) rfl)
theorem wd_14 {Z : State} {a0 : Array Value} (hw : ∀ d ∈ tables_1, d.before a0 Z = true) : ((Jvm.Cond.methodLink "corro/core/OrderLeavePinLaw" (13 : Nat) ({ cls := "corro/core/Order", name := "<init>", desc := "(Ljava/lang/String;Lcorro/core/Side;JLcorro/core/OrderType;JLcorro/core/TimeInForce;)V" } : Jvm.MethodName)) : Jvm.Cond).before a0 Z = true := hw _ (List.mem_of_getElem? (i := 14) rfl)
theorem wd_16 {Z : State} {a0 : Array Value} (hw : ∀ d ∈ tables_1, d.before a0 Z = true) : ((Jvm.Cond.code ({ cls := "corro/core/Order", name := "<init>", desc := "(Ljava/lang/String;Lcorro/core/Side;JLcorro/core/OrderType;JLcorro/core/TimeInForce;)V" } : Jvm.MethodName) prog_18_method_1_code (9 : Nat) (Option.none : Option Jvm.ClassFile.FieldType)) : Jvm.Cond).before a0 Z = true := hw _ (List.mem_of_getElem? (i := 16) rfl)
theorem pd_1 : parseMethodDescriptor "(Ljava/lang/String;Lcorro/core/Side;JLcorro/core/OrderType;JLcorro/core/TimeInForce;)V" = some ⟨[(.object "java/lang/String"), (.object "corro/core/Side"), .long, (.object "corro/core/OrderType"), .long, (.object "corro/core/TimeInForce")], none⟩ := by decide +kernel
theorem wd_15 {Z : State} {a0 : Array Value} (hw : ∀ d ∈ tables_1, d.before a0 Z = true) : ((Jvm.Cond.instanceMethod ({ cls := "corro/core/Order", name := "<init>", desc := "(Ljava/lang/String;Lcorro/core/Side;JLcorro/core/OrderType;JLcorro/core/TimeInForce;)V" } : Jvm.MethodName)) : Jvm.Cond).before a0 Z = true := hw _ (List.mem_of_getElem? (i := 15) rfl)
theorem wd_31 {Z : State} {a0 : Array Value} (hw : ∀ d ∈ tables_1, d.before a0 Z = true) : ((Jvm.Cond.methodLink "corro/core/OrderLeavePinLaw" (16 : Nat) ({ cls := "corro/core/Order", name := "join", desc := "(Lcorro/core/Level;Lcorro/core/Order;)V" } : Jvm.MethodName)) : Jvm.Cond).before a0 Z = true := hw _ (List.mem_of_getElem? (i := 31) rfl)
theorem wd_35 {Z : State} {a0 : Array Value} (hw : ∀ d ∈ tables_1, d.before a0 Z = true) : ((Jvm.Cond.code ({ cls := "corro/core/Order", name := "join", desc := "(Lcorro/core/Level;Lcorro/core/Order;)V" } : Jvm.MethodName) prog_18_method_19_code (3 : Nat) (Option.none : Option Jvm.ClassFile.FieldType)) : Jvm.Cond).before a0 Z = true := hw _ (List.mem_of_getElem? (i := 35) rfl)
theorem pd_2 : parseMethodDescriptor "(Lcorro/core/Level;Lcorro/core/Order;)V" = some ⟨[(.object "corro/core/Level"), (.object "corro/core/Order")], none⟩ := by decide +kernel
theorem wd_34 {Z : State} {a0 : Array Value} (hw : ∀ d ∈ tables_1, d.before a0 Z = true) : ((Jvm.Cond.selects "corro/core/Order" ({ cls := "corro/core/Order", name := "join", desc := "(Lcorro/core/Level;Lcorro/core/Order;)V" } : Jvm.MethodName) ({ cls := "corro/core/Order", name := "join", desc := "(Lcorro/core/Level;Lcorro/core/Order;)V" } : Jvm.MethodName)) : Jvm.Cond).before a0 Z = true := hw _ (List.mem_of_getElem? (i := 34) rfl)
theorem wd_32 {Z : State} {a0 : Array Value} (hw : ∀ d ∈ tables_1, d.before a0 Z = true) : ((Jvm.Cond.declares ({ cls := "corro/core/Order", name := "join", desc := "(Lcorro/core/Level;Lcorro/core/Order;)V" } : Jvm.MethodName)) : Jvm.Cond).before a0 Z = true := hw _ (List.mem_of_getElem? (i := 32) rfl)
theorem wd_33 {Z : State} {a0 : Array Value} (hw : ∀ d ∈ tables_1, d.before a0 Z = true) : ((Jvm.Cond.instanceMethod ({ cls := "corro/core/Order", name := "join", desc := "(Lcorro/core/Level;Lcorro/core/Order;)V" } : Jvm.MethodName)) : Jvm.Cond).before a0 Z = true := hw _ (List.mem_of_getElem? (i := 33) rfl)
theorem wd_42 {Z : State} {a0 : Array Value} (hw : ∀ d ∈ tables_1, d.before a0 Z = true) : ((Jvm.Cond.methodLink "corro/core/OrderLeavePinLaw" (20 : Nat) ({ cls := "corro/core/Order", name := "leave", desc := "()V" } : Jvm.MethodName)) : Jvm.Cond).before a0 Z = true := hw _ (List.mem_of_getElem? (i := 42) rfl)
theorem wd_46 {Z : State} {a0 : Array Value} (hw : ∀ d ∈ tables_1, d.before a0 Z = true) : ((Jvm.Cond.code ({ cls := "corro/core/Order", name := "leave", desc := "()V" } : Jvm.MethodName) prog_18_method_20_code (1 : Nat) (Option.none : Option Jvm.ClassFile.FieldType)) : Jvm.Cond).before a0 Z = true := hw _ (List.mem_of_getElem? (i := 46) rfl)
theorem wd_45 {Z : State} {a0 : Array Value} (hw : ∀ d ∈ tables_1, d.before a0 Z = true) : ((Jvm.Cond.selects "corro/core/Order" ({ cls := "corro/core/Order", name := "leave", desc := "()V" } : Jvm.MethodName) ({ cls := "corro/core/Order", name := "leave", desc := "()V" } : Jvm.MethodName)) : Jvm.Cond).before a0 Z = true := hw _ (List.mem_of_getElem? (i := 45) rfl)
theorem wd_43 {Z : State} {a0 : Array Value} (hw : ∀ d ∈ tables_1, d.before a0 Z = true) : ((Jvm.Cond.declares ({ cls := "corro/core/Order", name := "leave", desc := "()V" } : Jvm.MethodName)) : Jvm.Cond).before a0 Z = true := hw _ (List.mem_of_getElem? (i := 43) rfl)
theorem wd_44 {Z : State} {a0 : Array Value} (hw : ∀ d ∈ tables_1, d.before a0 Z = true) : ((Jvm.Cond.instanceMethod ({ cls := "corro/core/Order", name := "leave", desc := "()V" } : Jvm.MethodName)) : Jvm.Cond).before a0 Z = true := hw _ (List.mem_of_getElem? (i := 44) rfl)
theorem wd_47 {Z : State} {a0 : Array Value} (hw : ∀ d ∈ tables_1, d.before a0 Z = true) : ((Jvm.Cond.methodLink "corro/core/OrderLeavePinLaw" (23 : Nat) ({ cls := "corro/core/Order", name := "level", desc := "()Lcorro/core/Level;" } : Jvm.MethodName)) : Jvm.Cond).before a0 Z = true := hw _ (List.mem_of_getElem? (i := 47) rfl)
theorem wd_51 {Z : State} {a0 : Array Value} (hw : ∀ d ∈ tables_1, d.before a0 Z = true) : ((Jvm.Cond.code ({ cls := "corro/core/Order", name := "level", desc := "()Lcorro/core/Level;" } : Jvm.MethodName) prog_18_method_16_code (1 : Nat) (Option.some (Jvm.ClassFile.FieldType.object "corro/core/Level"))) : Jvm.Cond).before a0 Z = true := hw _ (List.mem_of_getElem? (i := 51) rfl)
theorem pd_3 : parseMethodDescriptor "()Lcorro/core/Level;" = some ⟨[], some (.object "corro/core/Level")⟩ := by decide +kernel
theorem wd_50 {Z : State} {a0 : Array Value} (hw : ∀ d ∈ tables_1, d.before a0 Z = true) : ((Jvm.Cond.selects "corro/core/Order" ({ cls := "corro/core/Order", name := "level", desc := "()Lcorro/core/Level;" } : Jvm.MethodName) ({ cls := "corro/core/Order", name := "level", desc := "()Lcorro/core/Level;" } : Jvm.MethodName)) : Jvm.Cond).before a0 Z = true := hw _ (List.mem_of_getElem? (i := 50) rfl)
theorem wd_48 {Z : State} {a0 : Array Value} (hw : ∀ d ∈ tables_1, d.before a0 Z = true) : ((Jvm.Cond.declares ({ cls := "corro/core/Order", name := "level", desc := "()Lcorro/core/Level;" } : Jvm.MethodName)) : Jvm.Cond).before a0 Z = true := hw _ (List.mem_of_getElem? (i := 48) rfl)
theorem wd_49 {Z : State} {a0 : Array Value} (hw : ∀ d ∈ tables_1, d.before a0 Z = true) : ((Jvm.Cond.instanceMethod ({ cls := "corro/core/Order", name := "level", desc := "()Lcorro/core/Level;" } : Jvm.MethodName)) : Jvm.Cond).before a0 Z = true := hw _ (List.mem_of_getElem? (i := 49) rfl)
theorem wd_52 {Z : State} {a0 : Array Value} (hw : ∀ d ∈ tables_1, d.before a0 Z = true) : ((Jvm.Cond.methodLink "corro/core/OrderLeavePinLaw" (27 : Nat) ({ cls := "corro/core/Order", name := "previous", desc := "()Lcorro/core/Order;" } : Jvm.MethodName)) : Jvm.Cond).before a0 Z = true := hw _ (List.mem_of_getElem? (i := 52) rfl)
theorem wd_56 {Z : State} {a0 : Array Value} (hw : ∀ d ∈ tables_1, d.before a0 Z = true) : ((Jvm.Cond.code ({ cls := "corro/core/Order", name := "previous", desc := "()Lcorro/core/Order;" } : Jvm.MethodName) prog_18_method_18_code (1 : Nat) (Option.some (Jvm.ClassFile.FieldType.object "corro/core/Order"))) : Jvm.Cond).before a0 Z = true := hw _ (List.mem_of_getElem? (i := 56) rfl)
theorem pd_4 : parseMethodDescriptor "()Lcorro/core/Order;" = some ⟨[], some (.object "corro/core/Order")⟩ := by decide +kernel
theorem wd_55 {Z : State} {a0 : Array Value} (hw : ∀ d ∈ tables_1, d.before a0 Z = true) : ((Jvm.Cond.selects "corro/core/Order" ({ cls := "corro/core/Order", name := "previous", desc := "()Lcorro/core/Order;" } : Jvm.MethodName) ({ cls := "corro/core/Order", name := "previous", desc := "()Lcorro/core/Order;" } : Jvm.MethodName)) : Jvm.Cond).before a0 Z = true := hw _ (List.mem_of_getElem? (i := 55) rfl)
theorem wd_53 {Z : State} {a0 : Array Value} (hw : ∀ d ∈ tables_1, d.before a0 Z = true) : ((Jvm.Cond.declares ({ cls := "corro/core/Order", name := "previous", desc := "()Lcorro/core/Order;" } : Jvm.MethodName)) : Jvm.Cond).before a0 Z = true := hw _ (List.mem_of_getElem? (i := 53) rfl)
theorem wd_54 {Z : State} {a0 : Array Value} (hw : ∀ d ∈ tables_1, d.before a0 Z = true) : ((Jvm.Cond.instanceMethod ({ cls := "corro/core/Order", name := "previous", desc := "()Lcorro/core/Order;" } : Jvm.MethodName)) : Jvm.Cond).before a0 Z = true := hw _ (List.mem_of_getElem? (i := 54) rfl)
theorem wd_57 {Z : State} {a0 : Array Value} (hw : ∀ d ∈ tables_1, d.before a0 Z = true) : ((Jvm.Cond.methodLink "corro/core/OrderLeavePinLaw" (31 : Nat) ({ cls := "corro/core/Order", name := "next", desc := "()Lcorro/core/Order;" } : Jvm.MethodName)) : Jvm.Cond).before a0 Z = true := hw _ (List.mem_of_getElem? (i := 57) rfl)
theorem wd_61 {Z : State} {a0 : Array Value} (hw : ∀ d ∈ tables_1, d.before a0 Z = true) : ((Jvm.Cond.code ({ cls := "corro/core/Order", name := "next", desc := "()Lcorro/core/Order;" } : Jvm.MethodName) prog_18_method_17_code (1 : Nat) (Option.some (Jvm.ClassFile.FieldType.object "corro/core/Order"))) : Jvm.Cond).before a0 Z = true := hw _ (List.mem_of_getElem? (i := 61) rfl)
theorem wd_60 {Z : State} {a0 : Array Value} (hw : ∀ d ∈ tables_1, d.before a0 Z = true) : ((Jvm.Cond.selects "corro/core/Order" ({ cls := "corro/core/Order", name := "next", desc := "()Lcorro/core/Order;" } : Jvm.MethodName) ({ cls := "corro/core/Order", name := "next", desc := "()Lcorro/core/Order;" } : Jvm.MethodName)) : Jvm.Cond).before a0 Z = true := hw _ (List.mem_of_getElem? (i := 60) rfl)
theorem wd_58 {Z : State} {a0 : Array Value} (hw : ∀ d ∈ tables_1, d.before a0 Z = true) : ((Jvm.Cond.declares ({ cls := "corro/core/Order", name := "next", desc := "()Lcorro/core/Order;" } : Jvm.MethodName)) : Jvm.Cond).before a0 Z = true := hw _ (List.mem_of_getElem? (i := 58) rfl)
theorem wd_59 {Z : State} {a0 : Array Value} (hw : ∀ d ∈ tables_1, d.before a0 Z = true) : ((Jvm.Cond.instanceMethod ({ cls := "corro/core/Order", name := "next", desc := "()Lcorro/core/Order;" } : Jvm.MethodName)) : Jvm.Cond).before a0 Z = true := hw _ (List.mem_of_getElem? (i := 59) rfl)
theorem pn_2 : plainName "corro/core/OrderLeavePinLaw" = true := by first | (simp [plainName, overriddenIn]; done) | decide +kernel
theorem ef_rm0 (m : MethodId) (p0 : Int32) (p1 : Int32) : entryFrame m #[(.int p0), (.int p1)] maxLocals = mkF m 0 #[.val (.int p0), .val (.int p1), .unset, .unset, .unset, .unset, .unset, .unset, .unset, .unset, .unset, .unset] [] := by first | (simp [entryFrame, mkF, argsToLocals, Value.category, maxLocals]; done) | rfl
def Q_rm0 (Z : State) (p0 : Int32) (p1 : Int32) (h0 : Heap) (n0 : Nat) (v : Option Value) (h : Heap) (L : List Loc) : Prop := v = some (.int (1 : Int32)) ∧ Fr n0 L
set_option maxRecDepth 65536 in
set_option maxHeartbeats 40000000 in
theorem rm0 (l : Launch) (Z : State) (a0 : Array Value) (hw : ∀ d ∈ tables_1, d.before a0 Z = true) (ws : List Jvm.Cond) (p0 : Int32) (p1 : Int32) (h0 : Heap) (n0 : Nat) (Z0 : n0 ≤ h0.size)  :
    MetFree l x (head1 (Jvm.Cond.code x code maxLocals ret :: ws) room_1) (fun a U => a = #[(.int p0), (.int p1)] ∧ Z.Warmed39 U.vm ∧ U.heap = h0) (fun _ _ _ _ _ => True) (fun _ U o U' => ∃ v L, o = .returned v ∧ Q_rm0 Z p0 p1 h0 n0 v U'.heap L ∧ FrameEnd U o U' L room_1.cells room_1.slots) := by
  refine MetFree.of_bodySF (plainFor_of_name pn_2) hisR ?_
  intro p e s m args below meth c s₁ Bd hml0 hP hK
  obtain ⟨rfl, hZ, hh⟩ := hP
  have hx := Bd.exec
  have hby := Bd.bytes
  have hml : c.maxLocals = 12 := hml0
  have hown : s.vm.findClass "corro/core/OrderLeavePinLaw" = some m.cls := findClass_of_methodNamed Bd.named
  have hnm := (name_of_methodNamed Bd.named Bd.method).1
  have X0 : Stand p l e room_1 s m #[(.int p0), (.int p1)] below meth c s₁ [] 0 0 := Stand.of_body Bd
  have e0 : s₁.heap = h0 := by rw [← hh, Bd.state]; rfl
  have N0 := Fr.nil n0
  suffices G0 : own_G p e below (own_E s below (Q_rm0 Z p0 p1 h0 n0) room_1.cells room_1.slots) s₁ (mkF m 0 #[.val (.int p0), .val (.int p1), .unset, .unset, .unset, .unset, .unset, .unset, .unset, .unset, .unset, .unset] []) by
    obtain ⟨zt, zst, zo, zq1, zq2, zq3⟩ := G0
    exact ⟨zt, zo, castTop (ef_rm0 m p0 p1) zst, zq1, zq2, zq3⟩
  obtain ⟨Φ, hΦ⟩ : ∃ Φ, Φ = own_E s below (Q_rm0 Z p0 p1 h0 n0) room_1.cells room_1.slots := ⟨_, rfl⟩
  rw [← hΦ]
  show own_G p e below Φ s₁ (mkF m 0 #[.val (.int p0), .val (.int p1), .unset, .unset, .unset, .unset, .unset, .unset, .unset, .unset, .unset, .unset] [])
  refine own_go (fun _ => XS.iconst X0.here hx rfl (hb hby at_0)) ?_
  show own_G p e below Φ s₁ (mkF m 1 #[.val (.int p0), .val (.int p1), .unset, .unset, .unset, .unset, .unset, .unset, .unset, .unset, .unset, .unset] [(.int (1 : Int32))])
  refine own_go (fun _ => XS.iloadN X0.here hx rfl (hb hby at_1) rfl) ?_
  show own_G p e below Φ s₁ (mkF m 2 #[.val (.int p0), .val (.int p1), .unset, .unset, .unset, .unset, .unset, .unset, .unset, .unset, .unset, .unset] [(.int p0), (.int (1 : Int32))])
  refine own_go (fun _ => X0.ldcInt hx hown (mvT hZ (wd_0 hw)) (g := (mkF m 2 #[.val (.int p0), .val (.int p1), .unset, .unset, .unset, .unset, .unset, .unset, .unset, .unset, .unset, .unset] [(.int p0), (.int (1 : Int32))])) rfl (hb hby at_2) _) ?_
  show own_G p e below Φ s₁ (mkF m 4 #[.val (.int p0), .val (.int p1), .unset, .unset, .unset, .unset, .unset, .unset, .unset, .unset, .unset, .unset] [(.int (2147483647 : Int32)), (.int p0), (.int (1 : Int32))])
  refine own_go (fun _ => XS.iand X0.here hx rfl (hb hby at_4) rfl) ?_
  show own_G p e below Φ s₁ (mkF m 5 #[.val (.int p0), .val (.int p1), .unset, .unset, .unset, .unset, .unset, .unset, .unset, .unset, .unset, .unset] [(.int (p0 &&& (2147483647 : Int32))), (.int (1 : Int32))])
  refine own_go (fun _ => XS.iconst X0.here hx rfl (hb hby at_5)) ?_
  show own_G p e below Φ s₁ (mkF m 6 #[.val (.int p0), .val (.int p1), .unset, .unset, .unset, .unset, .unset, .unset, .unset, .unset, .unset, .unset] [(.int (3 : Int32)), (.int (p0 &&& (2147483647 : Int32))), (.int (1 : Int32))])
  refine own_go (fun _ => iremM X0 hx rfl (hb hby at_6) rfl (by decide)) ?_
  show own_G p e below Φ s₁ (mkF m 7 #[.val (.int p0), .val (.int p1), .unset, .unset, .unset, .unset, .unset, .unset, .unset, .unset, .unset, .unset] [(.int ((p0 &&& (2147483647 : Int32)) % (3 : Int32))), (.int (1 : Int32))])
  refine own_go (fun _ => XS.iadd X0.here hx rfl (hb hby at_7) rfl) ?_
  show own_G p e below Φ s₁ (mkF m 8 #[.val (.int p0), .val (.int p1), .unset, .unset, .unset, .unset, .unset, .unset, .unset, .unset, .unset, .unset] [(.int ((1 : Int32) + ((p0 &&& (2147483647 : Int32)) % (3 : Int32))))])
  refine own_go (fun _ => XS.istoreN X0.here hx rfl (hb hby at_8) rfl (l' := #[.val (.int p0), .val (.int p1), .val (.int ((1 : Int32) + ((p0 &&& (2147483647 : Int32)) % (3 : Int32)))), .unset, .unset, .unset, .unset, .unset, .unset, .unset, .unset, .unset]) rfl) ?_
  show own_G p e below Φ s₁ (mkF m 9 #[.val (.int p0), .val (.int p1), .val (.int ((1 : Int32) + ((p0 &&& (2147483647 : Int32)) % (3 : Int32)))), .unset, .unset, .unset, .unset, .unset, .unset, .unset, .unset, .unset] [])
  generalize hx2_8 : ((1 : Int32) + ((p0 &&& (2147483647 : Int32)) % (3 : Int32))) = x2_8
  show own_G p e below Φ s₁ (mkF m 9 #[.val (.int p0), .val (.int p1), .val (.int x2_8), .unset, .unset, .unset, .unset, .unset, .unset, .unset, .unset, .unset] [])
  refine own_go (fun _ => XS.iloadN X0.here hx rfl (hb hby at_9) rfl) ?_
  show own_G p e below Φ s₁ (mkF m 10 #[.val (.int p0), .val (.int p1), .val (.int x2_8), .unset, .unset, .unset, .unset, .unset, .unset, .unset, .unset, .unset] [(.int p1)])
  refine own_go (fun _ => X0.ldcInt hx hown (mvT hZ (wd_0 hw)) (g := (mkF m 10 #[.val (.int p0), .val (.int p1), .val (.int x2_8), .unset, .unset, .unset, .unset, .unset, .unset, .unset, .unset, .unset] [(.int p1)])) rfl (hb hby at_10) _) ?_
  show own_G p e below Φ s₁ (mkF m 12 #[.val (.int p0), .val (.int p1), .val (.int x2_8), .unset, .unset, .unset, .unset, .unset, .unset, .unset, .unset, .unset] [(.int (2147483647 : Int32)), (.int p1)])
  refine own_go (fun _ => XS.iand X0.here hx rfl (hb hby at_12) rfl) ?_
  show own_G p e below Φ s₁ (mkF m 13 #[.val (.int p0), .val (.int p1), .val (.int x2_8), .unset, .unset, .unset, .unset, .unset, .unset, .unset, .unset, .unset] [(.int (p1 &&& (2147483647 : Int32)))])
  refine own_go (fun _ => XS.iloadN X0.here hx rfl (hb hby at_13) rfl) ?_
  show own_G p e below Φ s₁ (mkF m 14 #[.val (.int p0), .val (.int p1), .val (.int x2_8), .unset, .unset, .unset, .unset, .unset, .unset, .unset, .unset, .unset] [(.int x2_8), (.int (p1 &&& (2147483647 : Int32)))])
  refine own_go (fun _ => iremM X0 hx rfl (hb hby at_14) rfl (own_ne0 hx2_8)) ?_
  show own_G p e below Φ s₁ (mkF m 15 #[.val (.int p0), .val (.int p1), .val (.int x2_8), .unset, .unset, .unset, .unset, .unset, .unset, .unset, .unset, .unset] [(.int ((p1 &&& (2147483647 : Int32)) % x2_8))])
  refine own_go (fun _ => XS.istoreN X0.here hx rfl (hb hby at_15) rfl (l' := #[.val (.int p0), .val (.int p1), .val (.int x2_8), .val (.int ((p1 &&& (2147483647 : Int32)) % x2_8)), .unset, .unset, .unset, .unset, .unset, .unset, .unset, .unset]) rfl) ?_
  show own_G p e below Φ s₁ (mkF m 16 #[.val (.int p0), .val (.int p1), .val (.int x2_8), .val (.int ((p1 &&& (2147483647 : Int32)) % x2_8)), .unset, .unset, .unset, .unset, .unset, .unset, .unset, .unset] [])
  generalize hx3_15 : ((p1 &&& (2147483647 : Int32)) % x2_8) = x3_15
  show own_G p e below Φ s₁ (mkF m 16 #[.val (.int p0), .val (.int p1), .val (.int x2_8), .val (.int x3_15), .unset, .unset, .unset, .unset, .unset, .unset, .unset, .unset] [])
  obtain ⟨T1, h1, X1, e1, E1, A1, D1, -, st1⟩ := newO X0 hx hZ hown (wd_1 hw) (wd_2 hw) (wd_3 hw) e0 (g := (mkF m 16 #[.val (.int p0), .val (.int p1), .val (.int x2_8), .val (.int x3_15), .unset, .unset, .unset, .unset, .unset, .unset, .unset, .unset] [])) rfl (hb hby at_16) (by decide) (by decide)
  obtain ⟨ob1, g1⟩ : ∃ z, z = h0.size := ⟨_, rfl⟩
  rw [← g1] at A1 D1 st1
  have g_ob1 : n0 ≤ ob1 := Nat.le_trans Z0 (Nat.le_of_eq g1.symm)
  have Zp1 : n0 ≤ h1.size := Nat.le_trans Z0 E1.1
  refine own_go st1 ?_
  show own_G p e below Φ T1 (mkF m 19 #[.val (.int p0), .val (.int p1), .val (.int x2_8), .val (.int x3_15), .unset, .unset, .unset, .unset, .unset, .unset, .unset, .unset] [(.ref ob1)])
  refine own_go (fun _ => XS.dup X1.here hx rfl (hb hby at_19) rfl rfl) ?_
  show own_G p e below Φ T1 (mkF m 20 #[.val (.int p0), .val (.int p1), .val (.int x2_8), .val (.int x3_15), .unset, .unset, .unset, .unset, .unset, .unset, .unset, .unset] [(.ref ob1), (.ref ob1)])
  obtain ⟨_, _, ⟨T2, zL2, zk2, zn2⟩, -, X2, ⟨Lc2, hQ2, l2, y2, z2⟩, st2⟩ := X1.specialBack hx (y := (⟨"corro/core/Level", "<init>", "()V"⟩ : MethodName)) rfl hown (mvT hZ (wd_4 hw)) (mvT hZ (wd_5 hw)) (mvT hZ (wd_6 hw)) (by decide) (backOf (W := 1) (rmL l Z a0 hw [] ob1 h1 n0 Zp1 ) hZ (wd_6 hw) (wd_3 hw) (by decide) (by decide)) (g := (mkF m 20 #[.val (.int p0), .val (.int p1), .val (.int x2_8), .val (.int x3_15), .unset, .unset, .unset, .unset, .unset, .unset, .unset, .unset] [(.ref ob1), (.ref ob1)])) rfl (by rw [hml]; rfl) (Steps.refl _) (a := ob1) (argsL := []) (rest := [(.ref ob1)]) (lenOf pd_0 rfl) rfl (by show 2 * 0 + _ ≤ _; exact Nat.le_of_eq rfl) (hb hby at_20) (fun _ _ => ⟨rfl, e1, (by decide : 1 + 0 ≤ _), (by decide : 2 + 0 ≤ _)⟩)
  dsimp only [Pt.U, Pt.locs, Pt.cells, Pt.slots] at X2 l2 y2 z2 st2 hQ2
  subst l2 y2 z2
  obtain ⟨rfl, N2q, hs2⟩ := hQ2
  have N2 := Fr.app N0 N2q
  refine own_on st2 ?_
  show own_G p e below Φ T2 (mkF m 23 #[.val (.int p0), .val (.int p1), .val (.int x2_8), .val (.int x3_15), .unset, .unset, .unset, .unset, .unset, .unset, .unset, .unset] [(.ref ob1)])
  refine own_go (fun _ => XS.astore X2.here hx rfl (hb hby at_23) rfl rfl (l' := #[.val (.int p0), .val (.int p1), .val (.int x2_8), .val (.int x3_15), .val (.ref ob1), .unset, .unset, .unset, .unset, .unset, .unset, .unset]) rfl) ?_
  show own_G p e below Φ T2 (mkF m 25 #[.val (.int p0), .val (.int p1), .val (.int x2_8), .val (.int x3_15), .val (.ref ob1), .unset, .unset, .unset, .unset, .unset, .unset, .unset] [])
  refine own_go (fun _ => XS.iconst X2.here hx rfl (hb hby at_25)) ?_
  show own_G p e below Φ T2 (mkF m 26 #[.val (.int p0), .val (.int p1), .val (.int x2_8), .val (.int x3_15), .val (.ref ob1), .unset, .unset, .unset, .unset, .unset, .unset, .unset] [(.int (3 : Int32))])
  obtain ⟨T3, h3, ka3, X3, e3, E3, A3, O3, st3⟩ := newR X2 hx hZ hown (wd_10 hw) (wd_11 hw) hs2 (g := (mkF m 26 #[.val (.int p0), .val (.int p1), .val (.int x2_8), .val (.int x3_15), .val (.ref ob1), .unset, .unset, .unset, .unset, .unset, .unset, .unset] [(.int (3 : Int32))])) rfl (hb hby at_26) rfl (by decide) (cap := 3) (by decide) (by decide) (by decide) (by decide)
  obtain ⟨ob3, g3⟩ : ∃ z, z = h1.size := ⟨_, rfl⟩
  rw [← g3] at A3 st3
  have ne_ob1_ob3 : ob1 ≠ ob3 := Nat.ne_of_lt (Nat.lt_of_lt_of_le A1.lt (Nat.le_of_eq g3.symm))
  have V3 : Arv Z h3 ob3 ka3 (.object "corro/core/Order") (3 : Int32) [.null, .null, .null] .null := (Arv.new A3 (by decide)).pad (pad_rep [] .null 3)
  have g_ob3 : n0 ≤ ob3 := Nat.le_trans Zp1 (Nat.le_of_eq g3.symm)
  have Zp3 : n0 ≤ h3.size := Nat.le_trans Zp1 E3.1
  refine own_go st3 ?_
  show own_G p e below Φ T3 (mkF m 29 #[.val (.int p0), .val (.int p1), .val (.int x2_8), .val (.int x3_15), .val (.ref ob1), .unset, .unset, .unset, .unset, .unset, .unset, .unset] [(.ref ob3)])
  refine own_go (fun _ => XS.astore X3.here hx rfl (hb hby at_29) rfl rfl (l' := #[.val (.int p0), .val (.int p1), .val (.int x2_8), .val (.int x3_15), .val (.ref ob1), .val (.ref ob3), .unset, .unset, .unset, .unset, .unset, .unset]) rfl) ?_
  show own_G p e below Φ T3 (mkF m 31 #[.val (.int p0), .val (.int p1), .val (.int x2_8), .val (.int x3_15), .val (.ref ob1), .val (.ref ob3), .unset, .unset, .unset, .unset, .unset, .unset] [])
  refine own_go (fun _ => XS.aload X3.here hx rfl (hb hby at_31) rfl rfl) ?_
  show own_G p e below Φ T3 (mkF m 33 #[.val (.int p0), .val (.int p1), .val (.int x2_8), .val (.int x3_15), .val (.ref ob1), .val (.ref ob3), .unset, .unset, .unset, .unset, .unset, .unset] [(.ref ob3)])
  refine own_go (fun _ => XS.iconst X3.here hx rfl (hb hby at_33)) ?_
  show own_G p e below Φ T3 (mkF m 34 #[.val (.int p0), .val (.int p1), .val (.int x2_8), .val (.int x3_15), .val (.ref ob1), .val (.ref ob3), .unset, .unset, .unset, .unset, .unset, .unset] [(.int (0 : Int32)), (.ref ob3)])
  obtain ⟨T4, h4, X4, e4, E4, A4, D4, -, st4⟩ := newO X3 hx hZ hown (wd_10 hw) (wd_12 hw) (wd_13 hw) e3 (g := (mkF m 34 #[.val (.int p0), .val (.int p1), .val (.int x2_8), .val (.int x3_15), .val (.ref ob1), .val (.ref ob3), .unset, .unset, .unset, .unset, .unset, .unset] [(.int (0 : Int32)), (.ref ob3)])) rfl (hb hby at_34) (by decide) (by decide)
  obtain ⟨ob4, g4⟩ : ∃ z, z = h3.size := ⟨_, rfl⟩
  rw [← g4] at A4 D4 st4
  have f5 : Exa Z h3 ob1 "corro/core/Level" := A1.ext E3
  have ne_ob1_ob4 : ob1 ≠ ob4 := Nat.ne_of_lt (Nat.lt_of_lt_of_le f5.lt (Nat.le_of_eq g4.symm))
  have ne_ob3_ob4 : ob3 ≠ ob4 := Nat.ne_of_lt (Nat.lt_of_lt_of_le V3.lt (Nat.le_of_eq g4.symm))
  have g_ob4 : n0 ≤ ob4 := Nat.le_trans Zp3 (Nat.le_of_eq g4.symm)
  have Zp4 : n0 ≤ h4.size := Nat.le_trans Zp3 E4.1
  refine own_go st4 ?_
  have F_id_ob4 : Fld Z h4 ob4 "corro/core/Order" "id" "Ljava/lang/String;" .null := D4 (Or.inr (wd_19 hw)) (ty := (.object "java/lang/String")) (by decide)
  have F_side_ob4 : Fld Z h4 ob4 "corro/core/Order" "side" "Lcorro/core/Side;" .null := D4 (Or.inr (wd_21 hw)) (ty := (.object "corro/core/Side")) (by decide)
  have F_type_ob4 : Fld Z h4 ob4 "corro/core/Order" "type" "Lcorro/core/OrderType;" .null := D4 (Or.inr (wd_23 hw)) (ty := (.object "corro/core/OrderType")) (by decide)
  have F_timeInForce_ob4 : Fld Z h4 ob4 "corro/core/Order" "timeInForce" "Lcorro/core/TimeInForce;" .null := D4 (Or.inr (wd_25 hw)) (ty := (.object "corro/core/TimeInForce")) (by decide)
  have F_quantity_ob4 : Fld Z h4 ob4 "corro/core/Order" "quantity" "J" (.long (0 : Int64)) := D4 (Or.inl (wd_27 hw)) (ty := .long) (by decide)
  have F_price_ob4 : Fld Z h4 ob4 "corro/core/Order" "price" "J" (.long (0 : Int64)) := D4 (Or.inl (wd_29 hw)) (ty := .long) (by decide)
  have F_level_ob4 : Fld Z h4 ob4 "corro/core/Order" "level" "Lcorro/core/Level;" .null := D4 (Or.inl (wd_37 hw)) (ty := (.object "corro/core/Level")) (by decide)
  have F_previous_ob4 : Fld Z h4 ob4 "corro/core/Order" "previous" "Lcorro/core/Order;" .null := D4 (Or.inl (wd_39 hw)) (ty := (.object "corro/core/Order")) (by decide)
  have F_next_ob4 : Fld Z h4 ob4 "corro/core/Order" "next" "Lcorro/core/Order;" .null := D4 (Or.inl (wd_41 hw)) (ty := (.object "corro/core/Order")) (by decide)
  show own_G p e below Φ T4 (mkF m 37 #[.val (.int p0), .val (.int p1), .val (.int x2_8), .val (.int x3_15), .val (.ref ob1), .val (.ref ob3), .unset, .unset, .unset, .unset, .unset, .unset] [(.ref ob4), (.int (0 : Int32)), (.ref ob3)])
  refine own_go (fun _ => XS.dup X4.here hx rfl (hb hby at_37) rfl rfl) ?_
  show own_G p e below Φ T4 (mkF m 38 #[.val (.int p0), .val (.int p1), .val (.int x2_8), .val (.int x3_15), .val (.ref ob1), .val (.ref ob3), .unset, .unset, .unset, .unset, .unset, .unset] [(.ref ob4), (.ref ob4), (.int (0 : Int32)), (.ref ob3)])
  refine own_go (fun _ => XS.aconstNull X4.here hx rfl (hb hby at_38)) ?_
  show own_G p e below Φ T4 (mkF m 39 #[.val (.int p0), .val (.int p1), .val (.int x2_8), .val (.int x3_15), .val (.ref ob1), .val (.ref ob3), .unset, .unset, .unset, .unset, .unset, .unset] [.null, (.ref ob4), (.ref ob4), (.int (0 : Int32)), (.ref ob3)])
  refine own_go (fun _ => XS.aconstNull X4.here hx rfl (hb hby at_39)) ?_
  show own_G p e below Φ T4 (mkF m 40 #[.val (.int p0), .val (.int p1), .val (.int x2_8), .val (.int x3_15), .val (.ref ob1), .val (.ref ob3), .unset, .unset, .unset, .unset, .unset, .unset] [.null, .null, (.ref ob4), (.ref ob4), (.int (0 : Int32)), (.ref ob3)])
  refine own_go (fun _ => XS.lconst X4.here hx rfl (hb hby at_40)) ?_
  show own_G p e below Φ T4 (mkF m 41 #[.val (.int p0), .val (.int p1), .val (.int x2_8), .val (.int x3_15), .val (.ref ob1), .val (.ref ob3), .unset, .unset, .unset, .unset, .unset, .unset] [(.long (1 : Int64)), .null, .null, (.ref ob4), (.ref ob4), (.int (0 : Int32)), (.ref ob3)])
  refine own_go (fun _ => XS.aconstNull X4.here hx rfl (hb hby at_41)) ?_
  show own_G p e below Φ T4 (mkF m 42 #[.val (.int p0), .val (.int p1), .val (.int x2_8), .val (.int x3_15), .val (.ref ob1), .val (.ref ob3), .unset, .unset, .unset, .unset, .unset, .unset] [.null, (.long (1 : Int64)), .null, .null, (.ref ob4), (.ref ob4), (.int (0 : Int32)), (.ref ob3)])
  refine own_go (fun _ => XS.lconst X4.here hx rfl (hb hby at_42)) ?_
  show own_G p e below Φ T4 (mkF m 43 #[.val (.int p0), .val (.int p1), .val (.int x2_8), .val (.int x3_15), .val (.ref ob1), .val (.ref ob3), .unset, .unset, .unset, .unset, .unset, .unset] [(.long (0 : Int64)), .null, (.long (1 : Int64)), .null, .null, (.ref ob4), (.ref ob4), (.int (0 : Int32)), (.ref ob3)])
  refine own_go (fun _ => XS.aconstNull X4.here hx rfl (hb hby at_43)) ?_
  show own_G p e below Φ T4 (mkF m 44 #[.val (.int p0), .val (.int p1), .val (.int x2_8), .val (.int x3_15), .val (.ref ob1), .val (.ref ob3), .unset, .unset, .unset, .unset, .unset, .unset] [.null, (.long (0 : Int64)), .null, (.long (1 : Int64)), .null, .null, (.ref ob4), (.ref ob4), (.int (0 : Int32)), (.ref ob3)])
  obtain ⟨_, _, ⟨T6, zL6, zk6, zn6⟩, -, X6, ⟨Lc6, hQ6, l6, y6, z6⟩, st6⟩ := X4.specialBack hx (y := (⟨"corro/core/Order", "<init>", "(Ljava/lang/String;Lcorro/core/Side;JLcorro/core/OrderType;JLcorro/core/TimeInForce;)V"⟩ : MethodName)) rfl hown (mvT hZ (wd_14 hw)) (mvT hZ (wd_15 hw)) (mvT hZ (wd_16 hw)) (by decide) (backOf (W := 3) (rmC l Z a0 hw [] ob4 (1 : Int64) (0 : Int64) .null .null .null .null (.long (0 : Int64)) (.long (0 : Int64)) h4 n0 Zp4 A4 F_id_ob4 F_side_ob4 F_type_ob4 F_timeInForce_ob4 F_quantity_ob4 F_price_ob4 F_level_ob4 F_previous_ob4 F_next_ob4 g_ob4) hZ (wd_16 hw) (wd_13 hw) (by decide) (by decide)) (g := (mkF m 44 #[.val (.int p0), .val (.int p1), .val (.int x2_8), .val (.int x3_15), .val (.ref ob1), .val (.ref ob3), .unset, .unset, .unset, .unset, .unset, .unset] [.null, (.long (0 : Int64)), .null, (.long (1 : Int64)), .null, .null, (.ref ob4), (.ref ob4), (.int (0 : Int32)), (.ref ob3)])) rfl (by rw [hml]; rfl) (Steps.refl _) (a := ob4) (argsL := [.null, .null, (.long (1 : Int64)), .null, (.long (0 : Int64)), .null]) (rest := [(.ref ob4), (.int (0 : Int32)), (.ref ob3)]) (lenOf pd_1 rfl) rfl (by show 2 * 0 + _ ≤ _; exact Nat.le_of_eq rfl) (hb hby at_44) (fun _ _ => ⟨rfl, e4, (by decide : 3 + 0 ≤ _), (by decide : 17 + 0 ≤ _)⟩)
  dsimp only [Pt.U, Pt.locs, Pt.cells, Pt.slots] at X6 l6 y6 z6 st6 hQ6
  subst l6 y6 z6
  obtain ⟨rfl, N6q, Kq6, p6_0, p6_1, p6_2, p6_3, p6_4, p6_5⟩ := hQ6
  have N6 := Fr.app N2 N6q
  refine own_on st6 ?_
  have Zp6 : n0 ≤ T6.heap.size := Nat.le_trans Zp4 Kq6.1
  show own_G p e below Φ T6 (mkF m 47 #[.val (.int p0), .val (.int p1), .val (.int x2_8), .val (.int x3_15), .val (.ref ob1), .val (.ref ob3), .unset, .unset, .unset, .unset, .unset, .unset] [(.ref ob4), (.int (0 : Int32)), (.ref ob3)])
  have f7 : Arv Z h4 ob3 ka3 (.object "corro/core/Order") (3 : Int32) [.null, .null, .null] .null := V3.ext E4
  have f8 : Arv Z T6.heap ob3 ka3 (.object "corro/core/Order") (3 : Int32) [.null, .null, .null] .null := f7.keep Kq6 (ninS ne_ob3_ob4 nin0)
  obtain ⟨cl9, Ar9, q9, S9, M9, H9, G9⟩ := id f8
  have hin9 : ¬ ((0 : Int32) < 0 ∨ cl9.slots.size ≤ ((0 : Int32)).toNatClampNeg) := inb_of S9 ⟨by decide, by decide⟩
  obtain ⟨T9, h9, X9, e9, W9, st9⟩ := stR X6 hx hZ rfl Ar9 (j := (0 : Int32)) hin9 rfl (Sto.ofV Ar9 q9 O3 (Ins.self p6_0)) (g := (mkF m 47 #[.val (.int p0), .val (.int p1), .val (.int x2_8), .val (.int x3_15), .val (.ref ob1), .val (.ref ob3), .unset, .unset, .unset, .unset, .unset, .unset] [(.ref ob4), (.int (0 : Int32)), (.ref ob3)])) rfl rfl (hb hby at_47)
  refine own_go st9 ?_
  have V9 : Arv Z h9 ob3 ka3 (.object "corro/core/Order") (3 : Int32) [(.ref ob4), .null, .null] .null := Arv.set Ar9 q9 S9 M9 H9 G9 rfl W9 0 rfl (Nat.le_of_ble_eq_true rfl)
  have N9 := Fr.snoc X9 N6 g_ob3
  have Zp9 : n0 ≤ h9.size := Nat.le_trans Zp6 (Keep.of_wr W9).1
  show own_G p e below Φ T9 (mkF m 48 #[.val (.int p0), .val (.int p1), .val (.int x2_8), .val (.int x3_15), .val (.ref ob1), .val (.ref ob3), .unset, .unset, .unset, .unset, .unset, .unset] [])
  refine own_go (fun _ => XS.aload X9.here hx rfl (hb hby at_48) rfl rfl) ?_
  show own_G p e below Φ T9 (mkF m 50 #[.val (.int p0), .val (.int p1), .val (.int x2_8), .val (.int x3_15), .val (.ref ob1), .val (.ref ob3), .unset, .unset, .unset, .unset, .unset, .unset] [(.ref ob3)])
  refine own_go (fun _ => XS.iconst X9.here hx rfl (hb hby at_50)) ?_
  show own_G p e below Φ T9 (mkF m 51 #[.val (.int p0), .val (.int p1), .val (.int x2_8), .val (.int x3_15), .val (.ref ob1), .val (.ref ob3), .unset, .unset, .unset, .unset, .unset, .unset] [(.int (1 : Int32)), (.ref ob3)])
  obtain ⟨T10, h10, X10, e10, E10, A10, D10, -, st10⟩ := newO X9 hx hZ hown (wd_10 hw) (wd_12 hw) (wd_13 hw) e9 (g := (mkF m 51 #[.val (.int p0), .val (.int p1), .val (.int x2_8), .val (.int x3_15), .val (.ref ob1), .val (.ref ob3), .unset, .unset, .unset, .unset, .unset, .unset] [(.int (1 : Int32)), (.ref ob3)])) rfl (hb hby at_51) (by decide) (by decide)
  obtain ⟨ob10, g10⟩ : ∃ z, z = h9.size := ⟨_, rfl⟩
  rw [← g10] at A10 D10 st10
  have f11 : Exa Z h4 ob1 "corro/core/Level" := f5.ext E4
  have f12 : Exa Z T6.heap ob1 "corro/core/Level" := f11.keep Kq6
  have f13 : Exa Z h9 ob1 "corro/core/Level" := f12.wr W9
  have ne_ob1_ob10 : ob1 ≠ ob10 := Nat.ne_of_lt (Nat.lt_of_lt_of_le f13.lt (Nat.le_of_eq g10.symm))
  have ne_ob3_ob10 : ob3 ≠ ob10 := Nat.ne_of_lt (Nat.lt_of_lt_of_le V9.lt (Nat.le_of_eq g10.symm))
  have f14 : Exa Z h9 ob4 "corro/core/Order" := p6_0.wr W9
  have ne_ob4_ob10 : ob4 ≠ ob10 := Nat.ne_of_lt (Nat.lt_of_lt_of_le f14.lt (Nat.le_of_eq g10.symm))
  have g_ob10 : n0 ≤ ob10 := Nat.le_trans Zp9 (Nat.le_of_eq g10.symm)
  have Zp10 : n0 ≤ h10.size := Nat.le_trans Zp9 E10.1
  refine own_go st10 ?_
  have F_id_ob10 : Fld Z h10 ob10 "corro/core/Order" "id" "Ljava/lang/String;" .null := D10 (Or.inr (wd_19 hw)) (ty := (.object "java/lang/String")) (by decide)
  have F_side_ob10 : Fld Z h10 ob10 "corro/core/Order" "side" "Lcorro/core/Side;" .null := D10 (Or.inr (wd_21 hw)) (ty := (.object "corro/core/Side")) (by decide)
  have F_type_ob10 : Fld Z h10 ob10 "corro/core/Order" "type" "Lcorro/core/OrderType;" .null := D10 (Or.inr (wd_23 hw)) (ty := (.object "corro/core/OrderType")) (by decide)
  have F_timeInForce_ob10 : Fld Z h10 ob10 "corro/core/Order" "timeInForce" "Lcorro/core/TimeInForce;" .null := D10 (Or.inr (wd_25 hw)) (ty := (.object "corro/core/TimeInForce")) (by decide)
  have F_quantity_ob10 : Fld Z h10 ob10 "corro/core/Order" "quantity" "J" (.long (0 : Int64)) := D10 (Or.inl (wd_27 hw)) (ty := .long) (by decide)
  have F_price_ob10 : Fld Z h10 ob10 "corro/core/Order" "price" "J" (.long (0 : Int64)) := D10 (Or.inl (wd_29 hw)) (ty := .long) (by decide)
  have F_level_ob10 : Fld Z h10 ob10 "corro/core/Order" "level" "Lcorro/core/Level;" .null := D10 (Or.inl (wd_37 hw)) (ty := (.object "corro/core/Level")) (by decide)
  have F_previous_ob10 : Fld Z h10 ob10 "corro/core/Order" "previous" "Lcorro/core/Order;" .null := D10 (Or.inl (wd_39 hw)) (ty := (.object "corro/core/Order")) (by decide)
  have F_next_ob10 : Fld Z h10 ob10 "corro/core/Order" "next" "Lcorro/core/Order;" .null := D10 (Or.inl (wd_41 hw)) (ty := (.object "corro/core/Order")) (by decide)
  show own_G p e below Φ T10 (mkF m 54 #[.val (.int p0), .val (.int p1), .val (.int x2_8), .val (.int x3_15), .val (.ref ob1), .val (.ref ob3), .unset, .unset, .unset, .unset, .unset, .unset] [(.ref ob10), (.int (1 : Int32)), (.ref ob3)])
  refine own_go (fun _ => XS.dup X10.here hx rfl (hb hby at_54) rfl rfl) ?_
  show own_G p e below Φ T10 (mkF m 55 #[.val (.int p0), .val (.int p1), .val (.int x2_8), .val (.int x3_15), .val (.ref ob1), .val (.ref ob3), .unset, .unset, .unset, .unset, .unset, .unset] [(.ref ob10), (.ref ob10), (.int (1 : Int32)), (.ref ob3)])
  refine own_go (fun _ => XS.aconstNull X10.here hx rfl (hb hby at_55)) ?_
  show own_G p e below Φ T10 (mkF m 56 #[.val (.int p0), .val (.int p1), .val (.int x2_8), .val (.int x3_15), .val (.ref ob1), .val (.ref ob3), .unset, .unset, .unset, .unset, .unset, .unset] [.null, (.ref ob10), (.ref ob10), (.int (1 : Int32)), (.ref ob3)])
  refine own_go (fun _ => XS.aconstNull X10.here hx rfl (hb hby at_56)) ?_
  show own_G p e below Φ T10 (mkF m 57 #[.val (.int p0), .val (.int p1), .val (.int x2_8), .val (.int x3_15), .val (.ref ob1), .val (.ref ob3), .unset, .unset, .unset, .unset, .unset, .unset] [.null, .null, (.ref ob10), (.ref ob10), (.int (1 : Int32)), (.ref ob3)])
  refine own_go (fun _ => XS.lconst X10.here hx rfl (hb hby at_57)) ?_
  show own_G p e below Φ T10 (mkF m 58 #[.val (.int p0), .val (.int p1), .val (.int x2_8), .val (.int x3_15), .val (.ref ob1), .val (.ref ob3), .unset, .unset, .unset, .unset, .unset, .unset] [(.long (1 : Int64)), .null, .null, (.ref ob10), (.ref ob10), (.int (1 : Int32)), (.ref ob3)])
  refine own_go (fun _ => XS.aconstNull X10.here hx rfl (hb hby at_58)) ?_
  show own_G p e below Φ T10 (mkF m 59 #[.val (.int p0), .val (.int p1), .val (.int x2_8), .val (.int x3_15), .val (.ref ob1), .val (.ref ob3), .unset, .unset, .unset, .unset, .unset, .unset] [.null, (.long (1 : Int64)), .null, .null, (.ref ob10), (.ref ob10), (.int (1 : Int32)), (.ref ob3)])
  refine own_go (fun _ => XS.lconst X10.here hx rfl (hb hby at_59)) ?_
  show own_G p e below Φ T10 (mkF m 60 #[.val (.int p0), .val (.int p1), .val (.int x2_8), .val (.int x3_15), .val (.ref ob1), .val (.ref ob3), .unset, .unset, .unset, .unset, .unset, .unset] [(.long (0 : Int64)), .null, (.long (1 : Int64)), .null, .null, (.ref ob10), (.ref ob10), (.int (1 : Int32)), (.ref ob3)])
  refine own_go (fun _ => XS.aconstNull X10.here hx rfl (hb hby at_60)) ?_
  show own_G p e below Φ T10 (mkF m 61 #[.val (.int p0), .val (.int p1), .val (.int x2_8), .val (.int x3_15), .val (.ref ob1), .val (.ref ob3), .unset, .unset, .unset, .unset, .unset, .unset] [.null, (.long (0 : Int64)), .null, (.long (1 : Int64)), .null, .null, (.ref ob10), (.ref ob10), (.int (1 : Int32)), (.ref ob3)])
  obtain ⟨_, _, ⟨T15, zL15, zk15, zn15⟩, -, X15, ⟨Lc15, hQ15, l15, y15, z15⟩, st15⟩ := X10.specialBack hx (y := (⟨"corro/core/Order", "<init>", "(Ljava/lang/String;Lcorro/core/Side;JLcorro/core/OrderType;JLcorro/core/TimeInForce;)V"⟩ : MethodName)) rfl hown (mvT hZ (wd_14 hw)) (mvT hZ (wd_15 hw)) (mvT hZ (wd_16 hw)) (by decide) (backOf (W := 3) (rmC l Z a0 hw [] ob10 (1 : Int64) (0 : Int64) .null .null .null .null (.long (0 : Int64)) (.long (0 : Int64)) h10 n0 Zp10 A10 F_id_ob10 F_side_ob10 F_type_ob10 F_timeInForce_ob10 F_quantity_ob10 F_price_ob10 F_level_ob10 F_previous_ob10 F_next_ob10 g_ob10) hZ (wd_16 hw) (wd_13 hw) (by decide) (by decide)) (g := (mkF m 61 #[.val (.int p0), .val (.int p1), .val (.int x2_8), .val (.int x3_15), .val (.ref ob1), .val (.ref ob3), .unset, .unset, .unset, .unset, .unset, .unset] [.null, (.long (0 : Int64)), .null, (.long (1 : Int64)), .null, .null, (.ref ob10), (.ref ob10), (.int (1 : Int32)), (.ref ob3)])) rfl (by rw [hml]; rfl) (Steps.refl _) (a := ob10) (argsL := [.null, .null, (.long (1 : Int64)), .null, (.long (0 : Int64)), .null]) (rest := [(.ref ob10), (.int (1 : Int32)), (.ref ob3)]) (lenOf pd_1 rfl) rfl (by show 2 * 0 + _ ≤ _; exact Nat.le_of_eq rfl) (hb hby at_61) (fun _ _ => ⟨rfl, e10, (by decide : 4 + 0 ≤ _), (by decide : 29 + 0 ≤ _)⟩)
  dsimp only [Pt.U, Pt.locs, Pt.cells, Pt.slots] at X15 l15 y15 z15 st15 hQ15
  subst l15 y15 z15
  obtain ⟨rfl, N15q, Kq15, p15_0, p15_1, p15_2, p15_3, p15_4, p15_5⟩ := hQ15
  have N15 := Fr.app N9 N15q
  refine own_on st15 ?_
  have Zp15 : n0 ≤ T15.heap.size := Nat.le_trans Zp10 Kq15.1
  show own_G p e below Φ T15 (mkF m 64 #[.val (.int p0), .val (.int p1), .val (.int x2_8), .val (.int x3_15), .val (.ref ob1), .val (.ref ob3), .unset, .unset, .unset, .unset, .unset, .unset] [(.ref ob10), (.int (1 : Int32)), (.ref ob3)])
  have f16 : Arv Z h10 ob3 ka3 (.object "corro/core/Order") (3 : Int32) [(.ref ob4), .null, .null] .null := V9.ext E10
  have f17 : Arv Z T15.heap ob3 ka3 (.object "corro/core/Order") (3 : Int32) [(.ref ob4), .null, .null] .null := f16.keep Kq15 (ninS ne_ob3_ob10 nin0)
  obtain ⟨cl18, Ar18, q18, S18, M18, H18, G18⟩ := id f17
  have hin18 : ¬ ((1 : Int32) < 0 ∨ cl18.slots.size ≤ ((1 : Int32)).toNatClampNeg) := inb_of S18 ⟨by decide, by decide⟩
  obtain ⟨T18, h18, X18, e18, W18, st18⟩ := stR X15 hx hZ rfl Ar18 (j := (1 : Int32)) hin18 rfl (Sto.ofV Ar18 q18 O3 (Ins.self p15_0)) (g := (mkF m 64 #[.val (.int p0), .val (.int p1), .val (.int x2_8), .val (.int x3_15), .val (.ref ob1), .val (.ref ob3), .unset, .unset, .unset, .unset, .unset, .unset] [(.ref ob10), (.int (1 : Int32)), (.ref ob3)])) rfl rfl (hb hby at_64)
  refine own_go st18 ?_
  have V18 : Arv Z h18 ob3 ka3 (.object "corro/core/Order") (3 : Int32) [(.ref ob4), (.ref ob10), .null] .null := Arv.set Ar18 q18 S18 M18 H18 G18 rfl W18 1 rfl (Nat.le_of_ble_eq_true rfl)
  have N18 := Fr.snoc X18 N15 g_ob3
  have Zp18 : n0 ≤ h18.size := Nat.le_trans Zp15 (Keep.of_wr W18).1
  show own_G p e below Φ T18 (mkF m 65 #[.val (.int p0), .val (.int p1), .val (.int x2_8), .val (.int x3_15), .val (.ref ob1), .val (.ref ob3), .unset, .unset, .unset, .unset, .unset, .unset] [])
  refine own_go (fun _ => XS.aload X18.here hx rfl (hb hby at_65) rfl rfl) ?_
  show own_G p e below Φ T18 (mkF m 67 #[.val (.int p0), .val (.int p1), .val (.int x2_8), .val (.int x3_15), .val (.ref ob1), .val (.ref ob3), .unset, .unset, .unset, .unset, .unset, .unset] [(.ref ob3)])
  refine own_go (fun _ => XS.iconst X18.here hx rfl (hb hby at_67)) ?_
  show own_G p e below Φ T18 (mkF m 68 #[.val (.int p0), .val (.int p1), .val (.int x2_8), .val (.int x3_15), .val (.ref ob1), .val (.ref ob3), .unset, .unset, .unset, .unset, .unset, .unset] [(.int (2 : Int32)), (.ref ob3)])
  obtain ⟨T19, h19, X19, e19, E19, A19, D19, -, st19⟩ := newO X18 hx hZ hown (wd_10 hw) (wd_12 hw) (wd_13 hw) e18 (g := (mkF m 68 #[.val (.int p0), .val (.int p1), .val (.int x2_8), .val (.int x3_15), .val (.ref ob1), .val (.ref ob3), .unset, .unset, .unset, .unset, .unset, .unset] [(.int (2 : Int32)), (.ref ob3)])) rfl (hb hby at_68) (by decide) (by decide)
  obtain ⟨ob19, g19⟩ : ∃ z, z = h18.size := ⟨_, rfl⟩
  rw [← g19] at A19 D19 st19
  have f20 : Exa Z h10 ob1 "corro/core/Level" := f13.ext E10
  have f21 : Exa Z T15.heap ob1 "corro/core/Level" := f20.keep Kq15
  have f22 : Exa Z h18 ob1 "corro/core/Level" := f21.wr W18
  have ne_ob1_ob19 : ob1 ≠ ob19 := Nat.ne_of_lt (Nat.lt_of_lt_of_le f22.lt (Nat.le_of_eq g19.symm))
  have ne_ob3_ob19 : ob3 ≠ ob19 := Nat.ne_of_lt (Nat.lt_of_lt_of_le V18.lt (Nat.le_of_eq g19.symm))
  have f23 : Exa Z h10 ob4 "corro/core/Order" := f14.ext E10
  have f24 : Exa Z T15.heap ob4 "corro/core/Order" := f23.keep Kq15
  have f25 : Exa Z h18 ob4 "corro/core/Order" := f24.wr W18
  have ne_ob4_ob19 : ob4 ≠ ob19 := Nat.ne_of_lt (Nat.lt_of_lt_of_le f25.lt (Nat.le_of_eq g19.symm))
  have f26 : Exa Z h18 ob10 "corro/core/Order" := p15_0.wr W18
  have ne_ob10_ob19 : ob10 ≠ ob19 := Nat.ne_of_lt (Nat.lt_of_lt_of_le f26.lt (Nat.le_of_eq g19.symm))
  have g_ob19 : n0 ≤ ob19 := Nat.le_trans Zp18 (Nat.le_of_eq g19.symm)
  have Zp19 : n0 ≤ h19.size := Nat.le_trans Zp18 E19.1
  refine own_go st19 ?_
  have F_id_ob19 : Fld Z h19 ob19 "corro/core/Order" "id" "Ljava/lang/String;" .null := D19 (Or.inr (wd_19 hw)) (ty := (.object "java/lang/String")) (by decide)
  have F_side_ob19 : Fld Z h19 ob19 "corro/core/Order" "side" "Lcorro/core/Side;" .null := D19 (Or.inr (wd_21 hw)) (ty := (.object "corro/core/Side")) (by decide)
  have F_type_ob19 : Fld Z h19 ob19 "corro/core/Order" "type" "Lcorro/core/OrderType;" .null := D19 (Or.inr (wd_23 hw)) (ty := (.object "corro/core/OrderType")) (by decide)
  have F_timeInForce_ob19 : Fld Z h19 ob19 "corro/core/Order" "timeInForce" "Lcorro/core/TimeInForce;" .null := D19 (Or.inr (wd_25 hw)) (ty := (.object "corro/core/TimeInForce")) (by decide)
  have F_quantity_ob19 : Fld Z h19 ob19 "corro/core/Order" "quantity" "J" (.long (0 : Int64)) := D19 (Or.inl (wd_27 hw)) (ty := .long) (by decide)
  have F_price_ob19 : Fld Z h19 ob19 "corro/core/Order" "price" "J" (.long (0 : Int64)) := D19 (Or.inl (wd_29 hw)) (ty := .long) (by decide)
  have F_level_ob19 : Fld Z h19 ob19 "corro/core/Order" "level" "Lcorro/core/Level;" .null := D19 (Or.inl (wd_37 hw)) (ty := (.object "corro/core/Level")) (by decide)
  have F_previous_ob19 : Fld Z h19 ob19 "corro/core/Order" "previous" "Lcorro/core/Order;" .null := D19 (Or.inl (wd_39 hw)) (ty := (.object "corro/core/Order")) (by decide)
  have F_next_ob19 : Fld Z h19 ob19 "corro/core/Order" "next" "Lcorro/core/Order;" .null := D19 (Or.inl (wd_41 hw)) (ty := (.object "corro/core/Order")) (by decide)
  show own_G p e below Φ T19 (mkF m 71 #[.val (.int p0), .val (.int p1), .val (.int x2_8), .val (.int x3_15), .val (.ref ob1), .val (.ref ob3), .unset, .unset, .unset, .unset, .unset, .unset] [(.ref ob19), (.int (2 : Int32)), (.ref ob3)])
  refine own_go (fun _ => XS.dup X19.here hx rfl (hb hby at_71) rfl rfl) ?_
  show own_G p e below Φ T19 (mkF m 72 #[.val (.int p0), .val (.int p1), .val (.int x2_8), .val (.int x3_15), .val (.ref ob1), .val (.ref ob3), .unset, .unset, .unset, .unset, .unset, .unset] [(.ref ob19), (.ref ob19), (.int (2 : Int32)), (.ref ob3)])
  refine own_go (fun _ => XS.aconstNull X19.here hx rfl (hb hby at_72)) ?_
  show own_G p e below Φ T19 (mkF m 73 #[.val (.int p0), .val (.int p1), .val (.int x2_8), .val (.int x3_15), .val (.ref ob1), .val (.ref ob3), .unset, .unset, .unset, .unset, .unset, .unset] [.null, (.ref ob19), (.ref ob19), (.int (2 : Int32)), (.ref ob3)])
  refine own_go (fun _ => XS.aconstNull X19.here hx rfl (hb hby at_73)) ?_
  show own_G p e below Φ T19 (mkF m 74 #[.val (.int p0), .val (.int p1), .val (.int x2_8), .val (.int x3_15), .val (.ref ob1), .val (.ref ob3), .unset, .unset, .unset, .unset, .unset, .unset] [.null, .null, (.ref ob19), (.ref ob19), (.int (2 : Int32)), (.ref ob3)])
  refine own_go (fun _ => XS.lconst X19.here hx rfl (hb hby at_74)) ?_
  show own_G p e below Φ T19 (mkF m 75 #[.val (.int p0), .val (.int p1), .val (.int x2_8), .val (.int x3_15), .val (.ref ob1), .val (.ref ob3), .unset, .unset, .unset, .unset, .unset, .unset] [(.long (1 : Int64)), .null, .null, (.ref ob19), (.ref ob19), (.int (2 : Int32)), (.ref ob3)])
  refine own_go (fun _ => XS.aconstNull X19.here hx rfl (hb hby at_75)) ?_
  show own_G p e below Φ T19 (mkF m 76 #[.val (.int p0), .val (.int p1), .val (.int x2_8), .val (.int x3_15), .val (.ref ob1), .val (.ref ob3), .unset, .unset, .unset, .unset, .unset, .unset] [.null, (.long (1 : Int64)), .null, .null, (.ref ob19), (.ref ob19), (.int (2 : Int32)), (.ref ob3)])
  refine own_go (fun _ => XS.lconst X19.here hx rfl (hb hby at_76)) ?_
  show own_G p e below Φ T19 (mkF m 77 #[.val (.int p0), .val (.int p1), .val (.int x2_8), .val (.int x3_15), .val (.ref ob1), .val (.ref ob3), .unset, .unset, .unset, .unset, .unset, .unset] [(.long (0 : Int64)), .null, (.long (1 : Int64)), .null, .null, (.ref ob19), (.ref ob19), (.int (2 : Int32)), (.ref ob3)])
  refine own_go (fun _ => XS.aconstNull X19.here hx rfl (hb hby at_77)) ?_
  show own_G p e below Φ T19 (mkF m 78 #[.val (.int p0), .val (.int p1), .val (.int x2_8), .val (.int x3_15), .val (.ref ob1), .val (.ref ob3), .unset, .unset, .unset, .unset, .unset, .unset] [.null, (.long (0 : Int64)), .null, (.long (1 : Int64)), .null, .null, (.ref ob19), (.ref ob19), (.int (2 : Int32)), (.ref ob3)])
  obtain ⟨_, _, ⟨T27, zL27, zk27, zn27⟩, -, X27, ⟨Lc27, hQ27, l27, y27, z27⟩, st27⟩ := X19.specialBack hx (y := (⟨"corro/core/Order", "<init>", "(Ljava/lang/String;Lcorro/core/Side;JLcorro/core/OrderType;JLcorro/core/TimeInForce;)V"⟩ : MethodName)) rfl hown (mvT hZ (wd_14 hw)) (mvT hZ (wd_15 hw)) (mvT hZ (wd_16 hw)) (by decide) (backOf (W := 3) (rmC l Z a0 hw [] ob19 (1 : Int64) (0 : Int64) .null .null .null .null (.long (0 : Int64)) (.long (0 : Int64)) h19 n0 Zp19 A19 F_id_ob19 F_side_ob19 F_type_ob19 F_timeInForce_ob19 F_quantity_ob19 F_price_ob19 F_level_ob19 F_previous_ob19 F_next_ob19 g_ob19) hZ (wd_16 hw) (wd_13 hw) (by decide) (by decide)) (g := (mkF m 78 #[.val (.int p0), .val (.int p1), .val (.int x2_8), .val (.int x3_15), .val (.ref ob1), .val (.ref ob3), .unset, .unset, .unset, .unset, .unset, .unset] [.null, (.long (0 : Int64)), .null, (.long (1 : Int64)), .null, .null, (.ref ob19), (.ref ob19), (.int (2 : Int32)), (.ref ob3)])) rfl (by rw [hml]; rfl) (Steps.refl _) (a := ob19) (argsL := [.null, .null, (.long (1 : Int64)), .null, (.long (0 : Int64)), .null]) (rest := [(.ref ob19), (.int (2 : Int32)), (.ref ob3)]) (lenOf pd_1 rfl) rfl (by show 2 * 0 + _ ≤ _; exact Nat.le_of_eq rfl) (hb hby at_78) (fun _ _ => ⟨rfl, e19, (by decide : 5 + 0 ≤ _), (by decide : 41 + 0 ≤ _)⟩)
  dsimp only [Pt.U, Pt.locs, Pt.cells, Pt.slots] at X27 l27 y27 z27 st27 hQ27
  subst l27 y27 z27
  obtain ⟨rfl, N27q, Kq27, p27_0, p27_1, p27_2, p27_3, p27_4, p27_5⟩ := hQ27
  have N27 := Fr.app N18 N27q
  refine own_on st27 ?_
  have Zp27 : n0 ≤ T27.heap.size := Nat.le_trans Zp19 Kq27.1
  show own_G p e below Φ T27 (mkF m 81 #[.val (.int p0), .val (.int p1), .val (.int x2_8), .val (.int x3_15), .val (.ref ob1), .val (.ref ob3), .unset, .unset, .unset, .unset, .unset, .unset] [(.ref ob19), (.int (2 : Int32)), (.ref ob3)])
  have f28 : Arv Z h19 ob3 ka3 (.object "corro/core/Order") (3 : Int32) [(.ref ob4), (.ref ob10), .null] .null := V18.ext E19
  have f29 : Arv Z T27.heap ob3 ka3 (.object "corro/core/Order") (3 : Int32) [(.ref ob4), (.ref ob10), .null] .null := f28.keep Kq27 (ninS ne_ob3_ob19 nin0)
  obtain ⟨cl30, Ar30, q30, S30, M30, H30, G30⟩ := id f29
  have hin30 : ¬ ((2 : Int32) < 0 ∨ cl30.slots.size ≤ ((2 : Int32)).toNatClampNeg) := inb_of S30 ⟨by decide, by decide⟩
  obtain ⟨T30, h30, X30, e30, W30, st30⟩ := stR X27 hx hZ rfl Ar30 (j := (2 : Int32)) hin30 rfl (Sto.ofV Ar30 q30 O3 (Ins.self p27_0)) (g := (mkF m 81 #[.val (.int p0), .val (.int p1), .val (.int x2_8), .val (.int x3_15), .val (.ref ob1), .val (.ref ob3), .unset, .unset, .unset, .unset, .unset, .unset] [(.ref ob19), (.int (2 : Int32)), (.ref ob3)])) rfl rfl (hb hby at_81)
  refine own_go st30 ?_
  have V30 : Arv Z h30 ob3 ka3 (.object "corro/core/Order") (3 : Int32) [(.ref ob4), (.ref ob10), (.ref ob19)] .null := Arv.set Ar30 q30 S30 M30 H30 G30 rfl W30 2 rfl (Nat.le_of_ble_eq_true rfl)
  have N30 := Fr.snoc X30 N27 g_ob3
  have Zp30 : n0 ≤ h30.size := Nat.le_trans Zp27 (Keep.of_wr W30).1
  show own_G p e below Φ T30 (mkF m 82 #[.val (.int p0), .val (.int p1), .val (.int x2_8), .val (.int x3_15), .val (.ref ob1), .val (.ref ob3), .unset, .unset, .unset, .unset, .unset, .unset] [])
  refine own_go (fun _ => XS.aload X30.here hx rfl (hb hby at_82) rfl rfl) ?_
  show own_G p e below Φ T30 (mkF m 84 #[.val (.int p0), .val (.int p1), .val (.int x2_8), .val (.int x3_15), .val (.ref ob1), .val (.ref ob3), .unset, .unset, .unset, .unset, .unset, .unset] [(.ref ob3)])
  refine own_go (fun _ => XS.iconst X30.here hx rfl (hb hby at_84)) ?_
  show own_G p e below Φ T30 (mkF m 85 #[.val (.int p0), .val (.int p1), .val (.int x2_8), .val (.int x3_15), .val (.ref ob1), .val (.ref ob3), .unset, .unset, .unset, .unset, .unset, .unset] [(.int (0 : Int32)), (.ref ob3)])
  obtain ⟨cl31, Ar31, q31, S31, M31, H31, G31⟩ := id V30
  have hin31 : ¬ ((0 : Int32) < 0 ∨ cl31.slots.size ≤ ((0 : Int32)).toNatClampNeg) := inb_of S31 ⟨by decide, by decide⟩
  refine own_go (fun _ => X30.aaload hx (j := (0 : Int32)) (v := (.ref ob4)) (by rw [e30]; exact Ar31.1) (State.isArrayOf_alike hZ.alike Ar31.2.1) rfl Ar31.2.2 hin31 (H31.at hin31 rfl) (g := (mkF m 85 #[.val (.int p0), .val (.int p1), .val (.int x2_8), .val (.int x3_15), .val (.ref ob1), .val (.ref ob3), .unset, .unset, .unset, .unset, .unset, .unset] [(.int (0 : Int32)), (.ref ob3)])) rfl rfl (hb hby at_85) _) ?_
  show own_G p e below Φ T30 (mkF m 86 #[.val (.int p0), .val (.int p1), .val (.int x2_8), .val (.int x3_15), .val (.ref ob1), .val (.ref ob3), .unset, .unset, .unset, .unset, .unset, .unset] [(.ref ob4)])
  refine own_go (fun _ => XS.aload X30.here hx rfl (hb hby at_86) rfl rfl) ?_
  show own_G p e below Φ T30 (mkF m 88 #[.val (.int p0), .val (.int p1), .val (.int x2_8), .val (.int x3_15), .val (.ref ob1), .val (.ref ob3), .unset, .unset, .unset, .unset, .unset, .unset] [(.ref ob1), (.ref ob4)])
  refine own_go (fun _ => XS.aconstNull X30.here hx rfl (hb hby at_88)) ?_
  show own_G p e below Φ T30 (mkF m 89 #[.val (.int p0), .val (.int p1), .val (.int x2_8), .val (.int x3_15), .val (.ref ob1), .val (.ref ob3), .unset, .unset, .unset, .unset, .unset, .unset] [.null, (.ref ob1), (.ref ob4)])
  have f32 : Exa Z h19 ob4 "corro/core/Order" := f25.ext E19
  have f33 : Exa Z T27.heap ob4 "corro/core/Order" := f32.keep Kq27
  have f34 : Exa Z h30 ob4 "corro/core/Order" := f33.wr W30
  have f35 : Fld Z h9 ob4 "corro/core/Order" "level" "Lcorro/core/Level;" .null := p6_1.other W9 (Or.inl (Ne.symm ne_ob3_ob4))
  have f36 : Fld Z h10 ob4 "corro/core/Order" "level" "Lcorro/core/Level;" .null := f35.ext E10
  have f37 : Fld Z T15.heap ob4 "corro/core/Order" "level" "Lcorro/core/Level;" .null := f36.keep Kq15 (ninS ne_ob4_ob10 nin0)
  have f38 : Fld Z h18 ob4 "corro/core/Order" "level" "Lcorro/core/Level;" .null := f37.other W18 (Or.inl (Ne.symm ne_ob3_ob4))
  have f39 : Fld Z h19 ob4 "corro/core/Order" "level" "Lcorro/core/Level;" .null := f38.ext E19
  have f40 : Fld Z T27.heap ob4 "corro/core/Order" "level" "Lcorro/core/Level;" .null := f39.keep Kq27 (ninS ne_ob4_ob19 nin0)
  have f41 : Fld Z h30 ob4 "corro/core/Order" "level" "Lcorro/core/Level;" .null := f40.other W30 (Or.inl (Ne.symm ne_ob3_ob4))
  have f42 : Fld Z h9 ob4 "corro/core/Order" "previous" "Lcorro/core/Order;" .null := p6_2.other W9 (Or.inl (Ne.symm ne_ob3_ob4))
  have f43 : Fld Z h10 ob4 "corro/core/Order" "previous" "Lcorro/core/Order;" .null := f42.ext E10
  have f44 : Fld Z T15.heap ob4 "corro/core/Order" "previous" "Lcorro/core/Order;" .null := f43.keep Kq15 (ninS ne_ob4_ob10 nin0)
  have f45 : Fld Z h18 ob4 "corro/core/Order" "previous" "Lcorro/core/Order;" .null := f44.other W18 (Or.inl (Ne.symm ne_ob3_ob4))
  have f46 : Fld Z h19 ob4 "corro/core/Order" "previous" "Lcorro/core/Order;" .null := f45.ext E19
  have f47 : Fld Z T27.heap ob4 "corro/core/Order" "previous" "Lcorro/core/Order;" .null := f46.keep Kq27 (ninS ne_ob4_ob19 nin0)
  have f48 : Fld Z h30 ob4 "corro/core/Order" "previous" "Lcorro/core/Order;" .null := f47.other W30 (Or.inl (Ne.symm ne_ob3_ob4))
  have f49 : Fld Z h9 ob4 "corro/core/Order" "next" "Lcorro/core/Order;" .null := p6_3.other W9 (Or.inl (Ne.symm ne_ob3_ob4))
  have f50 : Fld Z h10 ob4 "corro/core/Order" "next" "Lcorro/core/Order;" .null := f49.ext E10
  have f51 : Fld Z T15.heap ob4 "corro/core/Order" "next" "Lcorro/core/Order;" .null := f50.keep Kq15 (ninS ne_ob4_ob10 nin0)
  have f52 : Fld Z h18 ob4 "corro/core/Order" "next" "Lcorro/core/Order;" .null := f51.other W18 (Or.inl (Ne.symm ne_ob3_ob4))
  have f53 : Fld Z h19 ob4 "corro/core/Order" "next" "Lcorro/core/Order;" .null := f52.ext E19
  have f54 : Fld Z T27.heap ob4 "corro/core/Order" "next" "Lcorro/core/Order;" .null := f53.keep Kq27 (ninS ne_ob4_ob19 nin0)
  have f55 : Fld Z h30 ob4 "corro/core/Order" "next" "Lcorro/core/Order;" .null := f54.other W30 (Or.inl (Ne.symm ne_ob3_ob4))
  obtain ⟨cq56, kq56, q56a, q56b, q56c⟩ := isOf hZ e30 f34
  obtain ⟨_, _, ⟨T56, zL56, zk56, zn56⟩, -, X56, ⟨Lc56, hQ56, l56, y56, z56⟩, st56⟩ := X30.virtualBack hx (y := (⟨"corro/core/Order", "join", "(Lcorro/core/Level;Lcorro/core/Order;)V"⟩ : MethodName)) (z := (⟨"corro/core/Order", "join", "(Lcorro/core/Level;Lcorro/core/Order;)V"⟩ : MethodName)) hown (mvT hZ (wd_31 hw)) (mvT hZ (wd_32 hw)) (notFace_of_selects (args := #[]) (mvT hZ (wd_34 hw))) (mvT hZ (wd_34 hw)) (mvT hZ (wd_33 hw)) (by decide) (backOf (W := 0) (rmJN l Z a0 hw [] ob4 ob1 .null .null .null h30 n0 Zp30 f34 f41 f48 f55 g_ob4) hZ (wd_35 hw) (wd_13 hw) (by decide) (by decide)) q56a q56c (g := (mkF m 89 #[.val (.int p0), .val (.int p1), .val (.int x2_8), .val (.int x3_15), .val (.ref ob1), .val (.ref ob3), .unset, .unset, .unset, .unset, .unset, .unset] [.null, (.ref ob1), (.ref ob4)])) rfl (by rw [hml]; rfl) (Steps.refl _) (argsL := [(.ref ob1), .null]) (rest := []) (lenOf pd_2 rfl) rfl (by show 2 * 0 + _ ≤ _; exact Nat.le_of_eq rfl) (hb hby at_89) (fun _ _ => ⟨rfl, e30, (by decide : 5 + 0 ≤ _), (by decide : 41 + 0 ≤ _)⟩)
  dsimp only [Pt.U, Pt.locs, Pt.cells, Pt.slots] at X56 l56 y56 z56 st56 hQ56
  subst l56 y56 z56
  obtain ⟨rfl, N56q, Kq56, p56_0, p56_1, p56_2, p56_3⟩ := hQ56
  have N56 := Fr.app N30 N56q
  refine own_on st56 ?_
  have Zp56 : n0 ≤ T56.heap.size := Nat.le_trans Zp30 Kq56.1
  show own_G p e below Φ T56 (mkF m 92 #[.val (.int p0), .val (.int p1), .val (.int x2_8), .val (.int x3_15), .val (.ref ob1), .val (.ref ob3), .unset, .unset, .unset, .unset, .unset, .unset] [])
  rcases own_cases hx2_8 hx3_15 with ⟨rfl, rfl⟩ | ⟨rfl, rfl⟩ | ⟨rfl, rfl⟩ | ⟨rfl, rfl⟩ | ⟨rfl, rfl⟩ | ⟨rfl, rfl⟩
  · show own_G p e below Φ T56 (mkF m 92 #[.val (.int p0), .val (.int p1), .val (.int (1 : Int32)), .val (.int (0 : Int32)), .val (.ref ob1), .val (.ref ob3), .unset, .unset, .unset, .unset, .unset, .unset] [])
    refine own_go (fun _ => XS.iloadN X56.here hx rfl (hb hby at_92) rfl) ?_
    show own_G p e below Φ T56 (mkF m 93 #[.val (.int p0), .val (.int p1), .val (.int (1 : Int32)), .val (.int (0 : Int32)), .val (.ref ob1), .val (.ref ob3), .unset, .unset, .unset, .unset, .unset, .unset] [(.int (1 : Int32))])
    refine own_go (fun _ => XS.iconst X56.here hx rfl (hb hby at_93)) ?_
    show own_G p e below Φ T56 (mkF m 94 #[.val (.int p0), .val (.int p1), .val (.int (1 : Int32)), .val (.int (0 : Int32)), .val (.ref ob1), .val (.ref ob3), .unset, .unset, .unset, .unset, .unset, .unset] [(.int (1 : Int32)), (.int (1 : Int32))])
    refine own_go (fun _ => XS.icmpYes X56.here hx rfl (pc0 := 94) (pc' := 110) rfl (hb hby at_94) rfl (Jvm.Free.XT.ii_le_t (by decide : ¬ ((1 : Int32) < (1 : Int32)))) (by decide) (by decide)) ?_
    show own_G p e below Φ T56 (mkF m 110 #[.val (.int p0), .val (.int p1), .val (.int (1 : Int32)), .val (.int (0 : Int32)), .val (.ref ob1), .val (.ref ob3), .unset, .unset, .unset, .unset, .unset, .unset] [])
    refine own_go (fun _ => XS.iloadN X56.here hx rfl (hb hby at_110) rfl) ?_
    show own_G p e below Φ T56 (mkF m 111 #[.val (.int p0), .val (.int p1), .val (.int (1 : Int32)), .val (.int (0 : Int32)), .val (.ref ob1), .val (.ref ob3), .unset, .unset, .unset, .unset, .unset, .unset] [(.int (1 : Int32))])
    refine own_go (fun _ => XS.iconst X56.here hx rfl (hb hby at_111)) ?_
    show own_G p e below Φ T56 (mkF m 112 #[.val (.int p0), .val (.int p1), .val (.int (1 : Int32)), .val (.int (0 : Int32)), .val (.ref ob1), .val (.ref ob3), .unset, .unset, .unset, .unset, .unset, .unset] [(.int (2 : Int32)), (.int (1 : Int32))])
    refine own_go (fun _ => XS.icmpYes X56.here hx rfl (pc0 := 112) (pc' := 128) rfl (hb hby at_112) rfl (Jvm.Free.XT.ii_le_t (by decide : ¬ ((2 : Int32) < (1 : Int32)))) (by decide) (by decide)) ?_
    show own_G p e below Φ T56 (mkF m 128 #[.val (.int p0), .val (.int p1), .val (.int (1 : Int32)), .val (.int (0 : Int32)), .val (.ref ob1), .val (.ref ob3), .unset, .unset, .unset, .unset, .unset, .unset] [])
    refine own_go (fun _ => XS.aload X56.here hx rfl (hb hby at_128) rfl rfl) ?_
    show own_G p e below Φ T56 (mkF m 130 #[.val (.int p0), .val (.int p1), .val (.int (1 : Int32)), .val (.int (0 : Int32)), .val (.ref ob1), .val (.ref ob3), .unset, .unset, .unset, .unset, .unset, .unset] [(.ref ob3)])
    refine own_go (fun _ => XS.iloadN X56.here hx rfl (hb hby at_130) rfl) ?_
    show own_G p e below Φ T56 (mkF m 131 #[.val (.int p0), .val (.int p1), .val (.int (1 : Int32)), .val (.int (0 : Int32)), .val (.ref ob1), .val (.ref ob3), .unset, .unset, .unset, .unset, .unset, .unset] [(.int (0 : Int32)), (.ref ob3)])
    have f57 : Arv Z T56.heap ob3 ka3 (.object "corro/core/Order") (3 : Int32) [(.ref ob4), (.ref ob10), (.ref ob19)] .null := V30.keep Kq56 (ninS ne_ob3_ob4 nin0)
    obtain ⟨cl58, Ar58, q58, S58, M58, H58, G58⟩ := id f57
    have hin58 : ¬ ((0 : Int32) < 0 ∨ cl58.slots.size ≤ ((0 : Int32)).toNatClampNeg) := inb_of S58 ⟨by decide, by decide⟩
    refine own_go (fun _ => X56.aaload hx (j := (0 : Int32)) (v := (.ref ob4)) Ar58.1 (State.isArrayOf_alike hZ.alike Ar58.2.1) rfl Ar58.2.2 hin58 (H58.at hin58 rfl) (g := (mkF m 131 #[.val (.int p0), .val (.int p1), .val (.int (1 : Int32)), .val (.int (0 : Int32)), .val (.ref ob1), .val (.ref ob3), .unset, .unset, .unset, .unset, .unset, .unset] [(.int (0 : Int32)), (.ref ob3)])) rfl rfl (hb hby at_131) _) ?_
    show own_G p e below Φ T56 (mkF m 132 #[.val (.int p0), .val (.int p1), .val (.int (1 : Int32)), .val (.int (0 : Int32)), .val (.ref ob1), .val (.ref ob3), .unset, .unset, .unset, .unset, .unset, .unset] [(.ref ob4)])
    refine own_go (fun _ => XS.astore X56.here hx rfl (hb hby at_132) rfl rfl (l' := #[.val (.int p0), .val (.int p1), .val (.int (1 : Int32)), .val (.int (0 : Int32)), .val (.ref ob1), .val (.ref ob3), .val (.ref ob4), .unset, .unset, .unset, .unset, .unset]) rfl) ?_
    show own_G p e below Φ T56 (mkF m 134 #[.val (.int p0), .val (.int p1), .val (.int (1 : Int32)), .val (.int (0 : Int32)), .val (.ref ob1), .val (.ref ob3), .val (.ref ob4), .unset, .unset, .unset, .unset, .unset] [])
    refine own_go (fun _ => XS.iloadN X56.here hx rfl (hb hby at_134) rfl) ?_
    show own_G p e below Φ T56 (mkF m 135 #[.val (.int p0), .val (.int p1), .val (.int (1 : Int32)), .val (.int (0 : Int32)), .val (.ref ob1), .val (.ref ob3), .val (.ref ob4), .unset, .unset, .unset, .unset, .unset] [(.int (0 : Int32))])
    refine own_go (fun _ => XS.ifYes X56.here hx rfl (pc0 := 135) (pc' := 147) rfl (hb hby at_135) rfl (Jvm.Free.XT.i0_le_t (by decide : ¬ ((0 : Int32) < (0 : Int32)))) (by decide) (by decide)) ?_
    show own_G p e below Φ T56 (mkF m 147 #[.val (.int p0), .val (.int p1), .val (.int (1 : Int32)), .val (.int (0 : Int32)), .val (.ref ob1), .val (.ref ob3), .val (.ref ob4), .unset, .unset, .unset, .unset, .unset] [])
    refine own_go (fun _ => XS.aconstNull X56.here hx rfl (hb hby at_147)) ?_
    show own_G p e below Φ T56 (mkF m 148 #[.val (.int p0), .val (.int p1), .val (.int (1 : Int32)), .val (.int (0 : Int32)), .val (.ref ob1), .val (.ref ob3), .val (.ref ob4), .unset, .unset, .unset, .unset, .unset] [.null])
    refine own_go (fun _ => XS.astore X56.here hx rfl (hb hby at_148) rfl rfl (l' := #[.val (.int p0), .val (.int p1), .val (.int (1 : Int32)), .val (.int (0 : Int32)), .val (.ref ob1), .val (.ref ob3), .val (.ref ob4), .val .null, .unset, .unset, .unset, .unset]) rfl) ?_
    show own_G p e below Φ T56 (mkF m 150 #[.val (.int p0), .val (.int p1), .val (.int (1 : Int32)), .val (.int (0 : Int32)), .val (.ref ob1), .val (.ref ob3), .val (.ref ob4), .val .null, .unset, .unset, .unset, .unset] [])
    refine own_go (fun _ => XS.iloadN X56.here hx rfl (hb hby at_150) rfl) ?_
    show own_G p e below Φ T56 (mkF m 151 #[.val (.int p0), .val (.int p1), .val (.int (1 : Int32)), .val (.int (0 : Int32)), .val (.ref ob1), .val (.ref ob3), .val (.ref ob4), .val .null, .unset, .unset, .unset, .unset] [(.int (0 : Int32))])
    refine own_go (fun _ => XS.iconst X56.here hx rfl (hb hby at_151)) ?_
    show own_G p e below Φ T56 (mkF m 152 #[.val (.int p0), .val (.int p1), .val (.int (1 : Int32)), .val (.int (0 : Int32)), .val (.ref ob1), .val (.ref ob3), .val (.ref ob4), .val .null, .unset, .unset, .unset, .unset] [(.int (1 : Int32)), (.int (0 : Int32))])
    refine own_go (fun _ => XS.iadd X56.here hx rfl (hb hby at_152) rfl) ?_
    show own_G p e below Φ T56 (mkF m 153 #[.val (.int p0), .val (.int p1), .val (.int (1 : Int32)), .val (.int (0 : Int32)), .val (.ref ob1), .val (.ref ob3), .val (.ref ob4), .val .null, .unset, .unset, .unset, .unset] [(.int (1 : Int32))])
    refine own_go (fun _ => XS.iloadN X56.here hx rfl (hb hby at_153) rfl) ?_
    show own_G p e below Φ T56 (mkF m 154 #[.val (.int p0), .val (.int p1), .val (.int (1 : Int32)), .val (.int (0 : Int32)), .val (.ref ob1), .val (.ref ob3), .val (.ref ob4), .val .null, .unset, .unset, .unset, .unset] [(.int (1 : Int32)), (.int (1 : Int32))])
    refine own_go (fun _ => XS.icmpYes X56.here hx rfl (pc0 := 154) (pc' := 166) rfl (hb hby at_154) rfl (Jvm.Free.XT.ii_ge_t (by decide : ¬ ((1 : Int32) < (1 : Int32)))) (by decide) (by decide)) ?_
    show own_G p e below Φ T56 (mkF m 166 #[.val (.int p0), .val (.int p1), .val (.int (1 : Int32)), .val (.int (0 : Int32)), .val (.ref ob1), .val (.ref ob3), .val (.ref ob4), .val .null, .unset, .unset, .unset, .unset] [])
    refine own_go (fun _ => XS.aconstNull X56.here hx rfl (hb hby at_166)) ?_
    show own_G p e below Φ T56 (mkF m 167 #[.val (.int p0), .val (.int p1), .val (.int (1 : Int32)), .val (.int (0 : Int32)), .val (.ref ob1), .val (.ref ob3), .val (.ref ob4), .val .null, .unset, .unset, .unset, .unset] [.null])
    refine own_go (fun _ => XS.astore X56.here hx rfl (hb hby at_167) rfl rfl (l' := #[.val (.int p0), .val (.int p1), .val (.int (1 : Int32)), .val (.int (0 : Int32)), .val (.ref ob1), .val (.ref ob3), .val (.ref ob4), .val .null, .val .null, .unset, .unset, .unset]) rfl) ?_
    show own_G p e below Φ T56 (mkF m 169 #[.val (.int p0), .val (.int p1), .val (.int (1 : Int32)), .val (.int (0 : Int32)), .val (.ref ob1), .val (.ref ob3), .val (.ref ob4), .val .null, .val .null, .unset, .unset, .unset] [])
    refine own_go (fun _ => XS.iloadN X56.here hx rfl (hb hby at_169) rfl) ?_
    show own_G p e below Φ T56 (mkF m 170 #[.val (.int p0), .val (.int p1), .val (.int (1 : Int32)), .val (.int (0 : Int32)), .val (.ref ob1), .val (.ref ob3), .val (.ref ob4), .val .null, .val .null, .unset, .unset, .unset] [(.int (0 : Int32))])
    refine own_go (fun _ => XS.iconst X56.here hx rfl (hb hby at_170)) ?_
    show own_G p e below Φ T56 (mkF m 171 #[.val (.int p0), .val (.int p1), .val (.int (1 : Int32)), .val (.int (0 : Int32)), .val (.ref ob1), .val (.ref ob3), .val (.ref ob4), .val .null, .val .null, .unset, .unset, .unset] [(.int (1 : Int32)), (.int (0 : Int32))])
    refine own_go (fun _ => XS.icmpYes X56.here hx rfl (pc0 := 171) (pc' := 183) rfl (hb hby at_171) rfl (Jvm.Free.XT.ii_le_t (by decide : ¬ ((1 : Int32) < (0 : Int32)))) (by decide) (by decide)) ?_
    show own_G p e below Φ T56 (mkF m 183 #[.val (.int p0), .val (.int p1), .val (.int (1 : Int32)), .val (.int (0 : Int32)), .val (.ref ob1), .val (.ref ob3), .val (.ref ob4), .val .null, .val .null, .unset, .unset, .unset] [])
    refine own_go (fun _ => XS.aconstNull X56.here hx rfl (hb hby at_183)) ?_
    show own_G p e below Φ T56 (mkF m 184 #[.val (.int p0), .val (.int p1), .val (.int (1 : Int32)), .val (.int (0 : Int32)), .val (.ref ob1), .val (.ref ob3), .val (.ref ob4), .val .null, .val .null, .unset, .unset, .unset] [.null])
    refine own_go (fun _ => XS.astore X56.here hx rfl (hb hby at_184) rfl rfl (l' := #[.val (.int p0), .val (.int p1), .val (.int (1 : Int32)), .val (.int (0 : Int32)), .val (.ref ob1), .val (.ref ob3), .val (.ref ob4), .val .null, .val .null, .val .null, .unset, .unset]) rfl) ?_
    show own_G p e below Φ T56 (mkF m 186 #[.val (.int p0), .val (.int p1), .val (.int (1 : Int32)), .val (.int (0 : Int32)), .val (.ref ob1), .val (.ref ob3), .val (.ref ob4), .val .null, .val .null, .val .null, .unset, .unset] [])
    refine own_go (fun _ => XS.iloadN X56.here hx rfl (hb hby at_186) rfl) ?_
    show own_G p e below Φ T56 (mkF m 187 #[.val (.int p0), .val (.int p1), .val (.int (1 : Int32)), .val (.int (0 : Int32)), .val (.ref ob1), .val (.ref ob3), .val (.ref ob4), .val .null, .val .null, .val .null, .unset, .unset] [(.int (0 : Int32))])
    refine own_go (fun _ => XS.iconst X56.here hx rfl (hb hby at_187)) ?_
    show own_G p e below Φ T56 (mkF m 188 #[.val (.int p0), .val (.int p1), .val (.int (1 : Int32)), .val (.int (0 : Int32)), .val (.ref ob1), .val (.ref ob3), .val (.ref ob4), .val .null, .val .null, .val .null, .unset, .unset] [(.int (2 : Int32)), (.int (0 : Int32))])
    refine own_go (fun _ => XS.iadd X56.here hx rfl (hb hby at_188) rfl) ?_
    show own_G p e below Φ T56 (mkF m 189 #[.val (.int p0), .val (.int p1), .val (.int (1 : Int32)), .val (.int (0 : Int32)), .val (.ref ob1), .val (.ref ob3), .val (.ref ob4), .val .null, .val .null, .val .null, .unset, .unset] [(.int (2 : Int32))])
    refine own_go (fun _ => XS.iloadN X56.here hx rfl (hb hby at_189) rfl) ?_
    show own_G p e below Φ T56 (mkF m 190 #[.val (.int p0), .val (.int p1), .val (.int (1 : Int32)), .val (.int (0 : Int32)), .val (.ref ob1), .val (.ref ob3), .val (.ref ob4), .val .null, .val .null, .val .null, .unset, .unset] [(.int (1 : Int32)), (.int (2 : Int32))])
    refine own_go (fun _ => XS.icmpYes X56.here hx rfl (pc0 := 190) (pc' := 202) rfl (hb hby at_190) rfl (Jvm.Free.XT.ii_ge_t (by decide : ¬ ((2 : Int32) < (1 : Int32)))) (by decide) (by decide)) ?_
    show own_G p e below Φ T56 (mkF m 202 #[.val (.int p0), .val (.int p1), .val (.int (1 : Int32)), .val (.int (0 : Int32)), .val (.ref ob1), .val (.ref ob3), .val (.ref ob4), .val .null, .val .null, .val .null, .unset, .unset] [])
    refine own_go (fun _ => XS.aconstNull X56.here hx rfl (hb hby at_202)) ?_
    show own_G p e below Φ T56 (mkF m 203 #[.val (.int p0), .val (.int p1), .val (.int (1 : Int32)), .val (.int (0 : Int32)), .val (.ref ob1), .val (.ref ob3), .val (.ref ob4), .val .null, .val .null, .val .null, .unset, .unset] [.null])
    refine own_go (fun _ => XS.astore X56.here hx rfl (hb hby at_203) rfl rfl (l' := #[.val (.int p0), .val (.int p1), .val (.int (1 : Int32)), .val (.int (0 : Int32)), .val (.ref ob1), .val (.ref ob3), .val (.ref ob4), .val .null, .val .null, .val .null, .val .null, .unset]) rfl) ?_
    show own_G p e below Φ T56 (mkF m 205 #[.val (.int p0), .val (.int p1), .val (.int (1 : Int32)), .val (.int (0 : Int32)), .val (.ref ob1), .val (.ref ob3), .val (.ref ob4), .val .null, .val .null, .val .null, .val .null, .unset] [])
    refine own_go (fun _ => XS.aload X56.here hx rfl (hb hby at_205) rfl rfl) ?_
    show own_G p e below Φ T56 (mkF m 207 #[.val (.int p0), .val (.int p1), .val (.int (1 : Int32)), .val (.int (0 : Int32)), .val (.ref ob1), .val (.ref ob3), .val (.ref ob4), .val .null, .val .null, .val .null, .val .null, .unset] [(.ref ob4)])
    obtain ⟨cq59, kq59, q59a, q59b, q59c⟩ := isOf hZ rfl p56_0
    obtain ⟨_, _, ⟨T59, zL59, zk59, zn59⟩, -, X59, ⟨Lc59, hQ59, l59, y59, z59⟩, st59⟩ := X56.virtualBack hx (y := (⟨"corro/core/Order", "leave", "()V"⟩ : MethodName)) (z := (⟨"corro/core/Order", "leave", "()V"⟩ : MethodName)) hown (mvT hZ (wd_42 hw)) (mvT hZ (wd_43 hw)) (notFace_of_selects (args := #[]) (mvT hZ (wd_45 hw))) (mvT hZ (wd_45 hw)) (mvT hZ (wd_44 hw)) (by decide) (backOf (W := 0) (rmV00 l Z a0 hw [] ob4 (.ref ob1) T56.heap n0 Zp56 p56_0 p56_1 p56_2 p56_3 g_ob4) hZ (wd_46 hw) (wd_13 hw) (by decide) (by decide)) q59a q59c (g := (mkF m 207 #[.val (.int p0), .val (.int p1), .val (.int (1 : Int32)), .val (.int (0 : Int32)), .val (.ref ob1), .val (.ref ob3), .val (.ref ob4), .val .null, .val .null, .val .null, .val .null, .unset] [(.ref ob4)])) rfl (by rw [hml]; rfl) (Steps.refl _) (argsL := []) (rest := []) (lenOf pd_0 rfl) rfl (by show 2 * 0 + _ ≤ _; exact Nat.le_of_eq rfl) (hb hby at_207) (fun _ _ => ⟨rfl, rfl, (by decide : 5 + 0 ≤ _), (by decide : 41 + 0 ≤ _)⟩)
    dsimp only [Pt.U, Pt.locs, Pt.cells, Pt.slots] at X59 l59 y59 z59 st59 hQ59
    subst l59 y59 z59
    obtain ⟨rfl, N59q, Kq59, p59_0, p59_1, p59_2, p59_3⟩ := hQ59
    have N59 := Fr.app N56 N59q
    refine own_on st59 ?_
    have Zp59 : n0 ≤ T59.heap.size := Nat.le_trans Zp56 Kq59.1
    show own_G p e below Φ T59 (mkF m 210 #[.val (.int p0), .val (.int p1), .val (.int (1 : Int32)), .val (.int (0 : Int32)), .val (.ref ob1), .val (.ref ob3), .val (.ref ob4), .val .null, .val .null, .val .null, .val .null, .unset] [])
    refine own_go (fun _ => XS.aload X59.here hx rfl (hb hby at_210) rfl rfl) ?_
    show own_G p e below Φ T59 (mkF m 212 #[.val (.int p0), .val (.int p1), .val (.int (1 : Int32)), .val (.int (0 : Int32)), .val (.ref ob1), .val (.ref ob3), .val (.ref ob4), .val .null, .val .null, .val .null, .val .null, .unset] [(.ref ob4)])
    obtain ⟨cq60, kq60, q60a, q60b, q60c⟩ := isOf hZ rfl p59_0
    obtain ⟨_, _, ⟨T60, zL60, zk60, zn60⟩, -, X60, ⟨Lc60, hQ60, l60, y60, z60⟩, st60⟩ := X59.virtualBack hx (y := (⟨"corro/core/Order", "level", "()Lcorro/core/Level;"⟩ : MethodName)) (z := (⟨"corro/core/Order", "level", "()Lcorro/core/Level;"⟩ : MethodName)) hown (mvT hZ (wd_47 hw)) (mvT hZ (wd_48 hw)) (notFace_of_selects (args := #[]) (mvT hZ (wd_50 hw))) (mvT hZ (wd_50 hw)) (mvT hZ (wd_49 hw)) (by decide) (backOf (W := 0) (rmGlevel l Z a0 hw [] ob4 .null T59.heap n0 Zp59 p59_1 rfl) hZ (wd_51 hw) (wd_13 hw) (by decide) (by decide)) q60a q60c (g := (mkF m 212 #[.val (.int p0), .val (.int p1), .val (.int (1 : Int32)), .val (.int (0 : Int32)), .val (.ref ob1), .val (.ref ob3), .val (.ref ob4), .val .null, .val .null, .val .null, .val .null, .unset] [(.ref ob4)])) rfl (by rw [hml]; rfl) (Steps.refl _) (argsL := []) (rest := []) (lenOf pd_3 rfl) rfl (by show 2 * 0 + _ ≤ _; exact Nat.le_of_eq rfl) (hb hby at_212) (fun _ _ => ⟨rfl, rfl, (by decide : 5 + 0 ≤ _), (by decide : 41 + 0 ≤ _)⟩)
    dsimp only [Pt.U, Pt.locs, Pt.cells, Pt.slots] at X60 l60 y60 z60 st60 hQ60
    subst l60 y60 z60
    obtain ⟨rfl, N60q, hs60⟩ := hQ60
    have N60 := Fr.app N59 N60q
    refine own_on st60 ?_
    show own_G p e below Φ T60 (mkF m 215 #[.val (.int p0), .val (.int p1), .val (.int (1 : Int32)), .val (.int (0 : Int32)), .val (.ref ob1), .val (.ref ob3), .val (.ref ob4), .val .null, .val .null, .val .null, .val .null, .unset] [.null])
    refine own_go (fun _ => XS.ifnonnullNo X60.here hx rfl (hb hby at_215) rfl) ?_
    show own_G p e below Φ T60 (mkF m 218 #[.val (.int p0), .val (.int p1), .val (.int (1 : Int32)), .val (.int (0 : Int32)), .val (.ref ob1), .val (.ref ob3), .val (.ref ob4), .val .null, .val .null, .val .null, .val .null, .unset] [])
    refine own_go (fun _ => XS.aload X60.here hx rfl (hb hby at_218) rfl rfl) ?_
    show own_G p e below Φ T60 (mkF m 220 #[.val (.int p0), .val (.int p1), .val (.int (1 : Int32)), .val (.int (0 : Int32)), .val (.ref ob1), .val (.ref ob3), .val (.ref ob4), .val .null, .val .null, .val .null, .val .null, .unset] [(.ref ob4)])
    obtain ⟨cq61, kq61, q61a, q61b, q61c⟩ := isOf hZ hs60 p59_0
    obtain ⟨_, _, ⟨T61, zL61, zk61, zn61⟩, -, X61, ⟨Lc61, hQ61, l61, y61, z61⟩, st61⟩ := X60.virtualBack hx (y := (⟨"corro/core/Order", "previous", "()Lcorro/core/Order;"⟩ : MethodName)) (z := (⟨"corro/core/Order", "previous", "()Lcorro/core/Order;"⟩ : MethodName)) hown (mvT hZ (wd_52 hw)) (mvT hZ (wd_53 hw)) (notFace_of_selects (args := #[]) (mvT hZ (wd_55 hw))) (mvT hZ (wd_55 hw)) (mvT hZ (wd_54 hw)) (by decide) (backOf (W := 0) (rmGprevious l Z a0 hw [] ob4 .null T59.heap n0 Zp59 p59_2 rfl) hZ (wd_56 hw) (wd_13 hw) (by decide) (by decide)) q61a q61c (g := (mkF m 220 #[.val (.int p0), .val (.int p1), .val (.int (1 : Int32)), .val (.int (0 : Int32)), .val (.ref ob1), .val (.ref ob3), .val (.ref ob4), .val .null, .val .null, .val .null, .val .null, .unset] [(.ref ob4)])) rfl (by rw [hml]; rfl) (Steps.refl _) (argsL := []) (rest := []) (lenOf pd_4 rfl) rfl (by show 2 * 0 + _ ≤ _; exact Nat.le_of_eq rfl) (hb hby at_220) (fun _ _ => ⟨rfl, hs60, (by decide : 5 + 0 ≤ _), (by decide : 41 + 0 ≤ _)⟩)
    dsimp only [Pt.U, Pt.locs, Pt.cells, Pt.slots] at X61 l61 y61 z61 st61 hQ61
    subst l61 y61 z61
    obtain ⟨rfl, N61q, hs61⟩ := hQ61
    have N61 := Fr.app N60 N61q
    refine own_on st61 ?_
    show own_G p e below Φ T61 (mkF m 223 #[.val (.int p0), .val (.int p1), .val (.int (1 : Int32)), .val (.int (0 : Int32)), .val (.ref ob1), .val (.ref ob3), .val (.ref ob4), .val .null, .val .null, .val .null, .val .null, .unset] [.null])
    refine own_go (fun _ => XS.ifnonnullNo X61.here hx rfl (hb hby at_223) rfl) ?_
    show own_G p e below Φ T61 (mkF m 226 #[.val (.int p0), .val (.int p1), .val (.int (1 : Int32)), .val (.int (0 : Int32)), .val (.ref ob1), .val (.ref ob3), .val (.ref ob4), .val .null, .val .null, .val .null, .val .null, .unset] [])
    refine own_go (fun _ => XS.aload X61.here hx rfl (hb hby at_226) rfl rfl) ?_
    show own_G p e below Φ T61 (mkF m 228 #[.val (.int p0), .val (.int p1), .val (.int (1 : Int32)), .val (.int (0 : Int32)), .val (.ref ob1), .val (.ref ob3), .val (.ref ob4), .val .null, .val .null, .val .null, .val .null, .unset] [(.ref ob4)])
    obtain ⟨cq62, kq62, q62a, q62b, q62c⟩ := isOf hZ hs61 p59_0
    obtain ⟨_, _, ⟨T62, zL62, zk62, zn62⟩, -, X62, ⟨Lc62, hQ62, l62, y62, z62⟩, st62⟩ := X61.virtualBack hx (y := (⟨"corro/core/Order", "next", "()Lcorro/core/Order;"⟩ : MethodName)) (z := (⟨"corro/core/Order", "next", "()Lcorro/core/Order;"⟩ : MethodName)) hown (mvT hZ (wd_57 hw)) (mvT hZ (wd_58 hw)) (notFace_of_selects (args := #[]) (mvT hZ (wd_60 hw))) (mvT hZ (wd_60 hw)) (mvT hZ (wd_59 hw)) (by decide) (backOf (W := 0) (rmGnext l Z a0 hw [] ob4 .null T59.heap n0 Zp59 p59_3 rfl) hZ (wd_61 hw) (wd_13 hw) (by decide) (by decide)) q62a q62c (g := (mkF m 228 #[.val (.int p0), .val (.int p1), .val (.int (1 : Int32)), .val (.int (0 : Int32)), .val (.ref ob1), .val (.ref ob3), .val (.ref ob4), .val .null, .val .null, .val .null, .val .null, .unset] [(.ref ob4)])) rfl (by rw [hml]; rfl) (Steps.refl _) (argsL := []) (rest := []) (lenOf pd_4 rfl) rfl (by show 2 * 0 + _ ≤ _; exact Nat.le_of_eq rfl) (hb hby at_228) (fun _ _ => ⟨rfl, hs61, (by decide : 5 + 0 ≤ _), (by decide : 41 + 0 ≤ _)⟩)
    dsimp only [Pt.U, Pt.locs, Pt.cells, Pt.slots] at X62 l62 y62 z62 st62 hQ62
    subst l62 y62 z62
    obtain ⟨rfl, N62q, hs62⟩ := hQ62
    have N62 := Fr.app N61 N62q
    refine own_on st62 ?_
    show own_G p e below Φ T62 (mkF m 231 #[.val (.int p0), .val (.int p1), .val (.int (1 : Int32)), .val (.int (0 : Int32)), .val (.ref ob1), .val (.ref ob3), .val (.ref ob4), .val .null, .val .null, .val .null, .val .null, .unset] [.null])
    refine own_go (fun _ => XS.ifnonnullNo X62.here hx rfl (hb hby at_231) rfl) ?_
    show own_G p e below Φ T62 (mkF m 234 #[.val (.int p0), .val (.int p1), .val (.int (1 : Int32)), .val (.int (0 : Int32)), .val (.ref ob1), .val (.ref ob3), .val (.ref ob4), .val .null, .val .null, .val .null, .val .null, .unset] [])
    refine own_go (fun _ => XS.iconst X62.here hx rfl (hb hby at_234)) ?_
    show own_G p e below Φ T62 (mkF m 235 #[.val (.int p0), .val (.int p1), .val (.int (1 : Int32)), .val (.int (0 : Int32)), .val (.ref ob1), .val (.ref ob3), .val (.ref ob4), .val .null, .val .null, .val .null, .val .null, .unset] [(.int (1 : Int32))])
    refine own_go (fun _ => XS.goto X62.here hx rfl (pc0 := 235) (pc' := 239) rfl (hb hby at_235) (by decide) (by decide)) ?_
    show own_G p e below Φ T62 (mkF m 239 #[.val (.int p0), .val (.int p1), .val (.int (1 : Int32)), .val (.int (0 : Int32)), .val (.ref ob1), .val (.ref ob3), .val (.ref ob4), .val .null, .val .null, .val .null, .val .null, .unset] [(.int (1 : Int32))])
    refine own_go (fun _ => XS.istore X62.here hx rfl (hb hby at_239) rfl (l' := #[.val (.int p0), .val (.int p1), .val (.int (1 : Int32)), .val (.int (0 : Int32)), .val (.ref ob1), .val (.ref ob3), .val (.ref ob4), .val .null, .val .null, .val .null, .val .null, .val (.int (1 : Int32))]) rfl) ?_
    show own_G p e below Φ T62 (mkF m 241 #[.val (.int p0), .val (.int p1), .val (.int (1 : Int32)), .val (.int (0 : Int32)), .val (.ref ob1), .val (.ref ob3), .val (.ref ob4), .val .null, .val .null, .val .null, .val .null, .val (.int (1 : Int32))] [])
    refine own_go (fun _ => XS.aload X62.here hx rfl (hb hby at_241) rfl rfl) ?_
    show own_G p e below Φ T62 (mkF m 243 #[.val (.int p0), .val (.int p1), .val (.int (1 : Int32)), .val (.int (0 : Int32)), .val (.ref ob1), .val (.ref ob3), .val (.ref ob4), .val .null, .val .null, .val .null, .val .null, .val (.int (1 : Int32))] [.null])
    refine own_go (fun _ => XS.ifnullYes X62.here hx rfl (pc0 := 243) (pc' := 288) rfl (hb hby at_243) rfl (by decide) (by decide)) ?_
    show own_G p e below Φ T62 (mkF m 288 #[.val (.int p0), .val (.int p1), .val (.int (1 : Int32)), .val (.int (0 : Int32)), .val (.ref ob1), .val (.ref ob3), .val (.ref ob4), .val .null, .val .null, .val .null, .val .null, .val (.int (1 : Int32))] [])
    refine own_go (fun _ => XS.aload X62.here hx rfl (hb hby at_288) rfl rfl) ?_
    show own_G p e below Φ T62 (mkF m 290 #[.val (.int p0), .val (.int p1), .val (.int (1 : Int32)), .val (.int (0 : Int32)), .val (.ref ob1), .val (.ref ob3), .val (.ref ob4), .val .null, .val .null, .val .null, .val .null, .val (.int (1 : Int32))] [.null])
    refine own_go (fun _ => XS.ifnullYes X62.here hx rfl (pc0 := 290) (pc' := 335) rfl (hb hby at_290) rfl (by decide) (by decide)) ?_
    show own_G p e below Φ T62 (mkF m 335 #[.val (.int p0), .val (.int p1), .val (.int (1 : Int32)), .val (.int (0 : Int32)), .val (.ref ob1), .val (.ref ob3), .val (.ref ob4), .val .null, .val .null, .val .null, .val .null, .val (.int (1 : Int32))] [])
    refine own_go (fun _ => XS.iload X62.here hx rfl (hb hby at_335) rfl) ?_
    show own_G p e below Φ T62 (mkF m 337 #[.val (.int p0), .val (.int p1), .val (.int (1 : Int32)), .val (.int (0 : Int32)), .val (.ref ob1), .val (.ref ob3), .val (.ref ob4), .val .null, .val .null, .val .null, .val .null, .val (.int (1 : Int32))] [(.int (1 : Int32))])
    rw [hΦ]
    refine own_ret X62 (v := some (.int (1 : Int32))) (fun h => by rw [Bd.returns] at h; cases h) (BodyLoose.notSynchronized Bd) (fun fs hr => retN X62 hx (t := .boolean) Bd.returns (by simp) (hb hby at_337) hr) ?_ (by decide) (by decide)
    rw [hs62]
    exact ⟨rfl, N62⟩
  · show own_G p e below Φ T56 (mkF m 92 #[.val (.int p0), .val (.int p1), .val (.int (2 : Int32)), .val (.int (0 : Int32)), .val (.ref ob1), .val (.ref ob3), .unset, .unset, .unset, .unset, .unset, .unset] [])
    refine own_go (fun _ => XS.iloadN X56.here hx rfl (hb hby at_92) rfl) ?_
    show own_G p e below Φ T56 (mkF m 93 #[.val (.int p0), .val (.int p1), .val (.int (2 : Int32)), .val (.int (0 : Int32)), .val (.ref ob1), .val (.ref ob3), .unset, .unset, .unset, .unset, .unset, .unset] [(.int (2 : Int32))])
    refine own_go (fun _ => XS.iconst X56.here hx rfl (hb hby at_93)) ?_
    show own_G p e below Φ T56 (mkF m 94 #[.val (.int p0), .val (.int p1), .val (.int (2 : Int32)), .val (.int (0 : Int32)), .val (.ref ob1), .val (.ref ob3), .unset, .unset, .unset, .unset, .unset, .unset] [(.int (1 : Int32)), (.int (2 : Int32))])
    refine own_go (fun _ => XS.icmpNo X56.here hx rfl (hb hby at_94) rfl (Jvm.Free.XT.ii_le_f (by decide : ((1 : Int32) < (2 : Int32))))) ?_
    show own_G p e below Φ T56 (mkF m 97 #[.val (.int p0), .val (.int p1), .val (.int (2 : Int32)), .val (.int (0 : Int32)), .val (.ref ob1), .val (.ref ob3), .unset, .unset, .unset, .unset, .unset, .unset] [])
    refine own_go (fun _ => XS.aload X56.here hx rfl (hb hby at_97) rfl rfl) ?_
    show own_G p e below Φ T56 (mkF m 99 #[.val (.int p0), .val (.int p1), .val (.int (2 : Int32)), .val (.int (0 : Int32)), .val (.ref ob1), .val (.ref ob3), .unset, .unset, .unset, .unset, .unset, .unset] [(.ref ob3)])
    refine own_go (fun _ => XS.iconst X56.here hx rfl (hb hby at_99)) ?_
    show own_G p e below Φ T56 (mkF m 100 #[.val (.int p0), .val (.int p1), .val (.int (2 : Int32)), .val (.int (0 : Int32)), .val (.ref ob1), .val (.ref ob3), .unset, .unset, .unset, .unset, .unset, .unset] [(.int (1 : Int32)), (.ref ob3)])
    have f63 : Arv Z T56.heap ob3 ka3 (.object "corro/core/Order") (3 : Int32) [(.ref ob4), (.ref ob10), (.ref ob19)] .null := V30.keep Kq56 (ninS ne_ob3_ob4 nin0)
    obtain ⟨cl64, Ar64, q64, S64, M64, H64, G64⟩ := id f63
    have hin64 : ¬ ((1 : Int32) < 0 ∨ cl64.slots.size ≤ ((1 : Int32)).toNatClampNeg) := inb_of S64 ⟨by decide, by decide⟩
    refine own_go (fun _ => X56.aaload hx (j := (1 : Int32)) (v := (.ref ob10)) Ar64.1 (State.isArrayOf_alike hZ.alike Ar64.2.1) rfl Ar64.2.2 hin64 (H64.at hin64 rfl) (g := (mkF m 100 #[.val (.int p0), .val (.int p1), .val (.int (2 : Int32)), .val (.int (0 : Int32)), .val (.ref ob1), .val (.ref ob3), .unset, .unset, .unset, .unset, .unset, .unset] [(.int (1 : Int32)), (.ref ob3)])) rfl rfl (hb hby at_100) _) ?_
    show own_G p e below Φ T56 (mkF m 101 #[.val (.int p0), .val (.int p1), .val (.int (2 : Int32)), .val (.int (0 : Int32)), .val (.ref ob1), .val (.ref ob3), .unset, .unset, .unset, .unset, .unset, .unset] [(.ref ob10)])
    refine own_go (fun _ => XS.aload X56.here hx rfl (hb hby at_101) rfl rfl) ?_
    show own_G p e below Φ T56 (mkF m 103 #[.val (.int p0), .val (.int p1), .val (.int (2 : Int32)), .val (.int (0 : Int32)), .val (.ref ob1), .val (.ref ob3), .unset, .unset, .unset, .unset, .unset, .unset] [(.ref ob1), (.ref ob10)])
    refine own_go (fun _ => XS.aload X56.here hx rfl (hb hby at_103) rfl rfl) ?_
    show own_G p e below Φ T56 (mkF m 105 #[.val (.int p0), .val (.int p1), .val (.int (2 : Int32)), .val (.int (0 : Int32)), .val (.ref ob1), .val (.ref ob3), .unset, .unset, .unset, .unset, .unset, .unset] [(.ref ob3), (.ref ob1), (.ref ob10)])
    refine own_go (fun _ => XS.iconst X56.here hx rfl (hb hby at_105)) ?_
    show own_G p e below Φ T56 (mkF m 106 #[.val (.int p0), .val (.int p1), .val (.int (2 : Int32)), .val (.int (0 : Int32)), .val (.ref ob1), .val (.ref ob3), .unset, .unset, .unset, .unset, .unset, .unset] [(.int (0 : Int32)), (.ref ob3), (.ref ob1), (.ref ob10)])
    obtain ⟨cl65, Ar65, q65, S65, M65, H65, G65⟩ := id f63
    have hin65 : ¬ ((0 : Int32) < 0 ∨ cl65.slots.size ≤ ((0 : Int32)).toNatClampNeg) := inb_of S65 ⟨by decide, by decide⟩
    refine own_go (fun _ => X56.aaload hx (j := (0 : Int32)) (v := (.ref ob4)) Ar65.1 (State.isArrayOf_alike hZ.alike Ar65.2.1) rfl Ar65.2.2 hin65 (H65.at hin65 rfl) (g := (mkF m 106 #[.val (.int p0), .val (.int p1), .val (.int (2 : Int32)), .val (.int (0 : Int32)), .val (.ref ob1), .val (.ref ob3), .unset, .unset, .unset, .unset, .unset, .unset] [(.int (0 : Int32)), (.ref ob3), (.ref ob1), (.ref ob10)])) rfl rfl (hb hby at_106) _) ?_
    show own_G p e below Φ T56 (mkF m 107 #[.val (.int p0), .val (.int p1), .val (.int (2 : Int32)), .val (.int (0 : Int32)), .val (.ref ob1), .val (.ref ob3), .unset, .unset, .unset, .unset, .unset, .unset] [(.ref ob4), (.ref ob1), (.ref ob10)])
    have f66 : Exa Z h19 ob10 "corro/core/Order" := f26.ext E19
    have f67 : Exa Z T27.heap ob10 "corro/core/Order" := f66.keep Kq27
    have f68 : Exa Z h30 ob10 "corro/core/Order" := f67.wr W30
    have f69 : Exa Z T56.heap ob10 "corro/core/Order" := f68.keep Kq56
    have f70 : Fld Z h18 ob10 "corro/core/Order" "level" "Lcorro/core/Level;" .null := p15_1.other W18 (Or.inl (Ne.symm ne_ob3_ob10))
    have f71 : Fld Z h19 ob10 "corro/core/Order" "level" "Lcorro/core/Level;" .null := f70.ext E19
    have f72 : Fld Z T27.heap ob10 "corro/core/Order" "level" "Lcorro/core/Level;" .null := f71.keep Kq27 (ninS ne_ob10_ob19 nin0)
    have f73 : Fld Z h30 ob10 "corro/core/Order" "level" "Lcorro/core/Level;" .null := f72.other W30 (Or.inl (Ne.symm ne_ob3_ob10))
    have f74 : Fld Z T56.heap ob10 "corro/core/Order" "level" "Lcorro/core/Level;" .null := f73.keep Kq56 (ninS (Ne.symm ne_ob4_ob10) nin0)
    have f75 : Fld Z h18 ob10 "corro/core/Order" "previous" "Lcorro/core/Order;" .null := p15_2.other W18 (Or.inl (Ne.symm ne_ob3_ob10))
    have f76 : Fld Z h19 ob10 "corro/core/Order" "previous" "Lcorro/core/Order;" .null := f75.ext E19
    have f77 : Fld Z T27.heap ob10 "corro/core/Order" "previous" "Lcorro/core/Order;" .null := f76.keep Kq27 (ninS ne_ob10_ob19 nin0)
    have f78 : Fld Z h30 ob10 "corro/core/Order" "previous" "Lcorro/core/Order;" .null := f77.other W30 (Or.inl (Ne.symm ne_ob3_ob10))
    have f79 : Fld Z T56.heap ob10 "corro/core/Order" "previous" "Lcorro/core/Order;" .null := f78.keep Kq56 (ninS (Ne.symm ne_ob4_ob10) nin0)
    have f80 : Fld Z h18 ob10 "corro/core/Order" "next" "Lcorro/core/Order;" .null := p15_3.other W18 (Or.inl (Ne.symm ne_ob3_ob10))
    have f81 : Fld Z h19 ob10 "corro/core/Order" "next" "Lcorro/core/Order;" .null := f80.ext E19
    have f82 : Fld Z T27.heap ob10 "corro/core/Order" "next" "Lcorro/core/Order;" .null := f81.keep Kq27 (ninS ne_ob10_ob19 nin0)
    have f83 : Fld Z h30 ob10 "corro/core/Order" "next" "Lcorro/core/Order;" .null := f82.other W30 (Or.inl (Ne.symm ne_ob3_ob10))
    have f84 : Fld Z T56.heap ob10 "corro/core/Order" "next" "Lcorro/core/Order;" .null := f83.keep Kq56 (ninS (Ne.symm ne_ob4_ob10) nin0)
    obtain ⟨cq85, kq85, q85a, q85b, q85c⟩ := isOf hZ rfl f69
    obtain ⟨_, _, ⟨T85, zL85, zk85, zn85⟩, -, X85, ⟨Lc85, hQ85, l85, y85, z85⟩, st85⟩ := X56.virtualBack hx (y := (⟨"corro/core/Order", "join", "(Lcorro/core/Level;Lcorro/core/Order;)V"⟩ : MethodName)) (z := (⟨"corro/core/Order", "join", "(Lcorro/core/Level;Lcorro/core/Order;)V"⟩ : MethodName)) hown (mvT hZ (wd_31 hw)) (mvT hZ (wd_32 hw)) (notFace_of_selects (args := #[]) (mvT hZ (wd_34 hw))) (mvT hZ (wd_34 hw)) (mvT hZ (wd_33 hw)) (by decide) (backOf (W := 0) (rmJO l Z a0 hw [] ob10 ob1 ob4 .null .null .null (.ref ob1) .null .null T56.heap n0 Zp56 f69 p56_0 f74 f79 f84 p56_1 p56_2 p56_3 g_ob10 g_ob4 (Ne.symm ne_ob4_ob10)) hZ (wd_35 hw) (wd_13 hw) (by decide) (by decide)) q85a q85c (g := (mkF m 107 #[.val (.int p0), .val (.int p1), .val (.int (2 : Int32)), .val (.int (0 : Int32)), .val (.ref ob1), .val (.ref ob3), .unset, .unset, .unset, .unset, .unset, .unset] [(.ref ob4), (.ref ob1), (.ref ob10)])) rfl (by rw [hml]; rfl) (Steps.refl _) (argsL := [(.ref ob1), (.ref ob4)]) (rest := []) (lenOf pd_2 rfl) rfl (by show 2 * 0 + _ ≤ _; exact Nat.le_of_eq rfl) (hb hby at_107) (fun _ _ => ⟨rfl, rfl, (by decide : 5 + 0 ≤ _), (by decide : 41 + 0 ≤ _)⟩)
    dsimp only [Pt.U, Pt.locs, Pt.cells, Pt.slots] at X85 l85 y85 z85 st85 hQ85
    subst l85 y85 z85
    obtain ⟨rfl, N85q, Kq85, p85_0, p85_1, p85_2, p85_3, p85_4, p85_5, p85_6⟩ := hQ85
    have N85 := Fr.app N56 N85q
    refine own_on st85 ?_
    have Zp85 : n0 ≤ T85.heap.size := Nat.le_trans Zp56 Kq85.1
    show own_G p e below Φ T85 (mkF m 110 #[.val (.int p0), .val (.int p1), .val (.int (2 : Int32)), .val (.int (0 : Int32)), .val (.ref ob1), .val (.ref ob3), .unset, .unset, .unset, .unset, .unset, .unset] [])
    refine own_go (fun _ => XS.iloadN X85.here hx rfl (hb hby at_110) rfl) ?_
    show own_G p e below Φ T85 (mkF m 111 #[.val (.int p0), .val (.int p1), .val (.int (2 : Int32)), .val (.int (0 : Int32)), .val (.ref ob1), .val (.ref ob3), .unset, .unset, .unset, .unset, .unset, .unset] [(.int (2 : Int32))])
    refine own_go (fun _ => XS.iconst X85.here hx rfl (hb hby at_111)) ?_
    show own_G p e below Φ T85 (mkF m 112 #[.val (.int p0), .val (.int p1), .val (.int (2 : Int32)), .val (.int (0 : Int32)), .val (.ref ob1), .val (.ref ob3), .unset, .unset, .unset, .unset, .unset, .unset] [(.int (2 : Int32)), (.int (2 : Int32))])
    refine own_go (fun _ => XS.icmpYes X85.here hx rfl (pc0 := 112) (pc' := 128) rfl (hb hby at_112) rfl (Jvm.Free.XT.ii_le_t (by decide : ¬ ((2 : Int32) < (2 : Int32)))) (by decide) (by decide)) ?_
    show own_G p e below Φ T85 (mkF m 128 #[.val (.int p0), .val (.int p1), .val (.int (2 : Int32)), .val (.int (0 : Int32)), .val (.ref ob1), .val (.ref ob3), .unset, .unset, .unset, .unset, .unset, .unset] [])
    refine own_go (fun _ => XS.aload X85.here hx rfl (hb hby at_128) rfl rfl) ?_
    show own_G p e below Φ T85 (mkF m 130 #[.val (.int p0), .val (.int p1), .val (.int (2 : Int32)), .val (.int (0 : Int32)), .val (.ref ob1), .val (.ref ob3), .unset, .unset, .unset, .unset, .unset, .unset] [(.ref ob3)])
    refine own_go (fun _ => XS.iloadN X85.here hx rfl (hb hby at_130) rfl) ?_
    show own_G p e below Φ T85 (mkF m 131 #[.val (.int p0), .val (.int p1), .val (.int (2 : Int32)), .val (.int (0 : Int32)), .val (.ref ob1), .val (.ref ob3), .unset, .unset, .unset, .unset, .unset, .unset] [(.int (0 : Int32)), (.ref ob3)])
    have f86 : Arv Z T85.heap ob3 ka3 (.object "corro/core/Order") (3 : Int32) [(.ref ob4), (.ref ob10), (.ref ob19)] .null := f63.keep Kq85 (ninS ne_ob3_ob10 (ninS ne_ob3_ob4 nin0))
    obtain ⟨cl87, Ar87, q87, S87, M87, H87, G87⟩ := id f86
    have hin87 : ¬ ((0 : Int32) < 0 ∨ cl87.slots.size ≤ ((0 : Int32)).toNatClampNeg) := inb_of S87 ⟨by decide, by decide⟩
    refine own_go (fun _ => X85.aaload hx (j := (0 : Int32)) (v := (.ref ob4)) Ar87.1 (State.isArrayOf_alike hZ.alike Ar87.2.1) rfl Ar87.2.2 hin87 (H87.at hin87 rfl) (g := (mkF m 131 #[.val (.int p0), .val (.int p1), .val (.int (2 : Int32)), .val (.int (0 : Int32)), .val (.ref ob1), .val (.ref ob3), .unset, .unset, .unset, .unset, .unset, .unset] [(.int (0 : Int32)), (.ref ob3)])) rfl rfl (hb hby at_131) _) ?_
    show own_G p e below Φ T85 (mkF m 132 #[.val (.int p0), .val (.int p1), .val (.int (2 : Int32)), .val (.int (0 : Int32)), .val (.ref ob1), .val (.ref ob3), .unset, .unset, .unset, .unset, .unset, .unset] [(.ref ob4)])
    refine own_go (fun _ => XS.astore X85.here hx rfl (hb hby at_132) rfl rfl (l' := #[.val (.int p0), .val (.int p1), .val (.int (2 : Int32)), .val (.int (0 : Int32)), .val (.ref ob1), .val (.ref ob3), .val (.ref ob4), .unset, .unset, .unset, .unset, .unset]) rfl) ?_
    show own_G p e below Φ T85 (mkF m 134 #[.val (.int p0), .val (.int p1), .val (.int (2 : Int32)), .val (.int (0 : Int32)), .val (.ref ob1), .val (.ref ob3), .val (.ref ob4), .unset, .unset, .unset, .unset, .unset] [])
    refine own_go (fun _ => XS.iloadN X85.here hx rfl (hb hby at_134) rfl) ?_
    show own_G p e below Φ T85 (mkF m 135 #[.val (.int p0), .val (.int p1), .val (.int (2 : Int32)), .val (.int (0 : Int32)), .val (.ref ob1), .val (.ref ob3), .val (.ref ob4), .unset, .unset, .unset, .unset, .unset] [(.int (0 : Int32))])
    refine own_go (fun _ => XS.ifYes X85.here hx rfl (pc0 := 135) (pc' := 147) rfl (hb hby at_135) rfl (Jvm.Free.XT.i0_le_t (by decide : ¬ ((0 : Int32) < (0 : Int32)))) (by decide) (by decide)) ?_
    show own_G p e below Φ T85 (mkF m 147 #[.val (.int p0), .val (.int p1), .val (.int (2 : Int32)), .val (.int (0 : Int32)), .val (.ref ob1), .val (.ref ob3), .val (.ref ob4), .unset, .unset, .unset, .unset, .unset] [])
    refine own_go (fun _ => XS.aconstNull X85.here hx rfl (hb hby at_147)) ?_
    show own_G p e below Φ T85 (mkF m 148 #[.val (.int p0), .val (.int p1), .val (.int (2 : Int32)), .val (.int (0 : Int32)), .val (.ref ob1), .val (.ref ob3), .val (.ref ob4), .unset, .unset, .unset, .unset, .unset] [.null])
    refine own_go (fun _ => XS.astore X85.here hx rfl (hb hby at_148) rfl rfl (l' := #[.val (.int p0), .val (.int p1), .val (.int (2 : Int32)), .val (.int (0 : Int32)), .val (.ref ob1), .val (.ref ob3), .val (.ref ob4), .val .null, .unset, .unset, .unset, .unset]) rfl) ?_
    show own_G p e below Φ T85 (mkF m 150 #[.val (.int p0), .val (.int p1), .val (.int (2 : Int32)), .val (.int (0 : Int32)), .val (.ref ob1), .val (.ref ob3), .val (.ref ob4), .val .null, .unset, .unset, .unset, .unset] [])
    refine own_go (fun _ => XS.iloadN X85.here hx rfl (hb hby at_150) rfl) ?_
    show own_G p e below Φ T85 (mkF m 151 #[.val (.int p0), .val (.int p1), .val (.int (2 : Int32)), .val (.int (0 : Int32)), .val (.ref ob1), .val (.ref ob3), .val (.ref ob4), .val .null, .unset, .unset, .unset, .unset] [(.int (0 : Int32))])
    refine own_go (fun _ => XS.iconst X85.here hx rfl (hb hby at_151)) ?_
    show own_G p e below Φ T85 (mkF m 152 #[.val (.int p0), .val (.int p1), .val (.int (2 : Int32)), .val (.int (0 : Int32)), .val (.ref ob1), .val (.ref ob3), .val (.ref ob4), .val .null, .unset, .unset, .unset, .unset] [(.int (1 : Int32)), (.int (0 : Int32))])
    refine own_go (fun _ => XS.iadd X85.here hx rfl (hb hby at_152) rfl) ?_
    show own_G p e below Φ T85 (mkF m 153 #[.val (.int p0), .val (.int p1), .val (.int (2 : Int32)), .val (.int (0 : Int32)), .val (.ref ob1), .val (.ref ob3), .val (.ref ob4), .val .null, .unset, .unset, .unset, .unset] [(.int (1 : Int32))])
    refine own_go (fun _ => XS.iloadN X85.here hx rfl (hb hby at_153) rfl) ?_
    show own_G p e below Φ T85 (mkF m 154 #[.val (.int p0), .val (.int p1), .val (.int (2 : Int32)), .val (.int (0 : Int32)), .val (.ref ob1), .val (.ref ob3), .val (.ref ob4), .val .null, .unset, .unset, .unset, .unset] [(.int (2 : Int32)), (.int (1 : Int32))])
    refine own_go (fun _ => XS.icmpNo X85.here hx rfl (hb hby at_154) rfl (Jvm.Free.XT.ii_ge_f (by decide : ((1 : Int32) < (2 : Int32))))) ?_
    show own_G p e below Φ T85 (mkF m 157 #[.val (.int p0), .val (.int p1), .val (.int (2 : Int32)), .val (.int (0 : Int32)), .val (.ref ob1), .val (.ref ob3), .val (.ref ob4), .val .null, .unset, .unset, .unset, .unset] [])
    refine own_go (fun _ => XS.aload X85.here hx rfl (hb hby at_157) rfl rfl) ?_
    show own_G p e below Φ T85 (mkF m 159 #[.val (.int p0), .val (.int p1), .val (.int (2 : Int32)), .val (.int (0 : Int32)), .val (.ref ob1), .val (.ref ob3), .val (.ref ob4), .val .null, .unset, .unset, .unset, .unset] [(.ref ob3)])
    refine own_go (fun _ => XS.iloadN X85.here hx rfl (hb hby at_159) rfl) ?_
    show own_G p e below Φ T85 (mkF m 160 #[.val (.int p0), .val (.int p1), .val (.int (2 : Int32)), .val (.int (0 : Int32)), .val (.ref ob1), .val (.ref ob3), .val (.ref ob4), .val .null, .unset, .unset, .unset, .unset] [(.int (0 : Int32)), (.ref ob3)])
    refine own_go (fun _ => XS.iconst X85.here hx rfl (hb hby at_160)) ?_
    show own_G p e below Φ T85 (mkF m 161 #[.val (.int p0), .val (.int p1), .val (.int (2 : Int32)), .val (.int (0 : Int32)), .val (.ref ob1), .val (.ref ob3), .val (.ref ob4), .val .null, .unset, .unset, .unset, .unset] [(.int (1 : Int32)), (.int (0 : Int32)), (.ref ob3)])
    refine own_go (fun _ => XS.iadd X85.here hx rfl (hb hby at_161) rfl) ?_
    show own_G p e below Φ T85 (mkF m 162 #[.val (.int p0), .val (.int p1), .val (.int (2 : Int32)), .val (.int (0 : Int32)), .val (.ref ob1), .val (.ref ob3), .val (.ref ob4), .val .null, .unset, .unset, .unset, .unset] [(.int (1 : Int32)), (.ref ob3)])
    obtain ⟨cl88, Ar88, q88, S88, M88, H88, G88⟩ := id f86
    have hin88 : ¬ ((1 : Int32) < 0 ∨ cl88.slots.size ≤ ((1 : Int32)).toNatClampNeg) := inb_of S88 ⟨by decide, by decide⟩
    refine own_go (fun _ => X85.aaload hx (j := (1 : Int32)) (v := (.ref ob10)) Ar88.1 (State.isArrayOf_alike hZ.alike Ar88.2.1) rfl Ar88.2.2 hin88 (H88.at hin88 rfl) (g := (mkF m 162 #[.val (.int p0), .val (.int p1), .val (.int (2 : Int32)), .val (.int (0 : Int32)), .val (.ref ob1), .val (.ref ob3), .val (.ref ob4), .val .null, .unset, .unset, .unset, .unset] [(.int (1 : Int32)), (.ref ob3)])) rfl rfl (hb hby at_162) _) ?_
    show own_G p e below Φ T85 (mkF m 163 #[.val (.int p0), .val (.int p1), .val (.int (2 : Int32)), .val (.int (0 : Int32)), .val (.ref ob1), .val (.ref ob3), .val (.ref ob4), .val .null, .unset, .unset, .unset, .unset] [(.ref ob10)])
    refine own_go (fun _ => XS.goto X85.here hx rfl (pc0 := 163) (pc' := 167) rfl (hb hby at_163) (by decide) (by decide)) ?_
    show own_G p e below Φ T85 (mkF m 167 #[.val (.int p0), .val (.int p1), .val (.int (2 : Int32)), .val (.int (0 : Int32)), .val (.ref ob1), .val (.ref ob3), .val (.ref ob4), .val .null, .unset, .unset, .unset, .unset] [(.ref ob10)])
    refine own_go (fun _ => XS.astore X85.here hx rfl (hb hby at_167) rfl rfl (l' := #[.val (.int p0), .val (.int p1), .val (.int (2 : Int32)), .val (.int (0 : Int32)), .val (.ref ob1), .val (.ref ob3), .val (.ref ob4), .val .null, .val (.ref ob10), .unset, .unset, .unset]) rfl) ?_
    show own_G p e below Φ T85 (mkF m 169 #[.val (.int p0), .val (.int p1), .val (.int (2 : Int32)), .val (.int (0 : Int32)), .val (.ref ob1), .val (.ref ob3), .val (.ref ob4), .val .null, .val (.ref ob10), .unset, .unset, .unset] [])
    refine own_go (fun _ => XS.iloadN X85.here hx rfl (hb hby at_169) rfl) ?_
    show own_G p e below Φ T85 (mkF m 170 #[.val (.int p0), .val (.int p1), .val (.int (2 : Int32)), .val (.int (0 : Int32)), .val (.ref ob1), .val (.ref ob3), .val (.ref ob4), .val .null, .val (.ref ob10), .unset, .unset, .unset] [(.int (0 : Int32))])
    refine own_go (fun _ => XS.iconst X85.here hx rfl (hb hby at_170)) ?_
    show own_G p e below Φ T85 (mkF m 171 #[.val (.int p0), .val (.int p1), .val (.int (2 : Int32)), .val (.int (0 : Int32)), .val (.ref ob1), .val (.ref ob3), .val (.ref ob4), .val .null, .val (.ref ob10), .unset, .unset, .unset] [(.int (1 : Int32)), (.int (0 : Int32))])
    refine own_go (fun _ => XS.icmpYes X85.here hx rfl (pc0 := 171) (pc' := 183) rfl (hb hby at_171) rfl (Jvm.Free.XT.ii_le_t (by decide : ¬ ((1 : Int32) < (0 : Int32)))) (by decide) (by decide)) ?_
    show own_G p e below Φ T85 (mkF m 183 #[.val (.int p0), .val (.int p1), .val (.int (2 : Int32)), .val (.int (0 : Int32)), .val (.ref ob1), .val (.ref ob3), .val (.ref ob4), .val .null, .val (.ref ob10), .unset, .unset, .unset] [])
    refine own_go (fun _ => XS.aconstNull X85.here hx rfl (hb hby at_183)) ?_
    show own_G p e below Φ T85 (mkF m 184 #[.val (.int p0), .val (.int p1), .val (.int (2 : Int32)), .val (.int (0 : Int32)), .val (.ref ob1), .val (.ref ob3), .val (.ref ob4), .val .null, .val (.ref ob10), .unset, .unset, .unset] [.null])
    refine own_go (fun _ => XS.astore X85.here hx rfl (hb hby at_184) rfl rfl (l' := #[.val (.int p0), .val (.int p1), .val (.int (2 : Int32)), .val (.int (0 : Int32)), .val (.ref ob1), .val (.ref ob3), .val (.ref ob4), .val .null, .val (.ref ob10), .val .null, .unset, .unset]) rfl) ?_
    show own_G p e below Φ T85 (mkF m 186 #[.val (.int p0), .val (.int p1), .val (.int (2 : Int32)), .val (.int (0 : Int32)), .val (.ref ob1), .val (.ref ob3), .val (.ref ob4), .val .null, .val (.ref ob10), .val .null, .unset, .unset] [])
    refine own_go (fun _ => XS.iloadN X85.here hx rfl (hb hby at_186) rfl) ?_
    show own_G p e below Φ T85 (mkF m 187 #[.val (.int p0), .val (.int p1), .val (.int (2 : Int32)), .val (.int (0 : Int32)), .val (.ref ob1), .val (.ref ob3), .val (.ref ob4), .val .null, .val (.ref ob10), .val .null, .unset, .unset] [(.int (0 : Int32))])
    refine own_go (fun _ => XS.iconst X85.here hx rfl (hb hby at_187)) ?_
    show own_G p e below Φ T85 (mkF m 188 #[.val (.int p0), .val (.int p1), .val (.int (2 : Int32)), .val (.int (0 : Int32)), .val (.ref ob1), .val (.ref ob3), .val (.ref ob4), .val .null, .val (.ref ob10), .val .null, .unset, .unset] [(.int (2 : Int32)), (.int (0 : Int32))])
    refine own_go (fun _ => XS.iadd X85.here hx rfl (hb hby at_188) rfl) ?_
    show own_G p e below Φ T85 (mkF m 189 #[.val (.int p0), .val (.int p1), .val (.int (2 : Int32)), .val (.int (0 : Int32)), .val (.ref ob1), .val (.ref ob3), .val (.ref ob4), .val .null, .val (.ref ob10), .val .null, .unset, .unset] [(.int (2 : Int32))])
    refine own_go (fun _ => XS.iloadN X85.here hx rfl (hb hby at_189) rfl) ?_
    show own_G p e below Φ T85 (mkF m 190 #[.val (.int p0), .val (.int p1), .val (.int (2 : Int32)), .val (.int (0 : Int32)), .val (.ref ob1), .val (.ref ob3), .val (.ref ob4), .val .null, .val (.ref ob10), .val .null, .unset, .unset] [(.int (2 : Int32)), (.int (2 : Int32))])
    refine own_go (fun _ => XS.icmpYes X85.here hx rfl (pc0 := 190) (pc' := 202) rfl (hb hby at_190) rfl (Jvm.Free.XT.ii_ge_t (by decide : ¬ ((2 : Int32) < (2 : Int32)))) (by decide) (by decide)) ?_
    show own_G p e below Φ T85 (mkF m 202 #[.val (.int p0), .val (.int p1), .val (.int (2 : Int32)), .val (.int (0 : Int32)), .val (.ref ob1), .val (.ref ob3), .val (.ref ob4), .val .null, .val (.ref ob10), .val .null, .unset, .unset] [])
    refine own_go (fun _ => XS.aconstNull X85.here hx rfl (hb hby at_202)) ?_
    show own_G p e below Φ T85 (mkF m 203 #[.val (.int p0), .val (.int p1), .val (.int (2 : Int32)), .val (.int (0 : Int32)), .val (.ref ob1), .val (.ref ob3), .val (.ref ob4), .val .null, .val (.ref ob10), .val .null, .unset, .unset] [.null])
    refine own_go (fun _ => XS.astore X85.here hx rfl (hb hby at_203) rfl rfl (l' := #[.val (.int p0), .val (.int p1), .val (.int (2 : Int32)), .val (.int (0 : Int32)), .val (.ref ob1), .val (.ref ob3), .val (.ref ob4), .val .null, .val (.ref ob10), .val .null, .val .null, .unset]) rfl) ?_
    show own_G p e below Φ T85 (mkF m 205 #[.val (.int p0), .val (.int p1), .val (.int (2 : Int32)), .val (.int (0 : Int32)), .val (.ref ob1), .val (.ref ob3), .val (.ref ob4), .val .null, .val (.ref ob10), .val .null, .val .null, .unset] [])
    refine own_go (fun _ => XS.aload X85.here hx rfl (hb hby at_205) rfl rfl) ?_
    show own_G p e below Φ T85 (mkF m 207 #[.val (.int p0), .val (.int p1), .val (.int (2 : Int32)), .val (.int (0 : Int32)), .val (.ref ob1), .val (.ref ob3), .val (.ref ob4), .val .null, .val (.ref ob10), .val .null, .val .null, .unset] [(.ref ob4)])
    have f89 : Exa Z T85.heap ob4 "corro/core/Order" := p56_0.keep Kq85
    obtain ⟨cq90, kq90, q90a, q90b, q90c⟩ := isOf hZ rfl f89
    obtain ⟨_, _, ⟨T90, zL90, zk90, zn90⟩, -, X90, ⟨Lc90, hQ90, l90, y90, z90⟩, st90⟩ := X85.virtualBack hx (y := (⟨"corro/core/Order", "leave", "()V"⟩ : MethodName)) (z := (⟨"corro/core/Order", "leave", "()V"⟩ : MethodName)) hown (mvT hZ (wd_42 hw)) (mvT hZ (wd_43 hw)) (notFace_of_selects (args := #[]) (mvT hZ (wd_45 hw))) (mvT hZ (wd_45 hw)) (mvT hZ (wd_44 hw)) (by decide) (backOf (W := 0) (rmV01 l Z a0 hw [] ob4 (.ref ob1) ob10 (.ref ob1) (.ref ob4) .null T85.heap n0 Zp85 f89 p85_4 p85_5 p85_6 g_ob4 p85_0 p85_1 p85_2 p85_3 g_ob10 ne_ob4_ob10) hZ (wd_46 hw) (wd_13 hw) (by decide) (by decide)) q90a q90c (g := (mkF m 207 #[.val (.int p0), .val (.int p1), .val (.int (2 : Int32)), .val (.int (0 : Int32)), .val (.ref ob1), .val (.ref ob3), .val (.ref ob4), .val .null, .val (.ref ob10), .val .null, .val .null, .unset] [(.ref ob4)])) rfl (by rw [hml]; rfl) (Steps.refl _) (argsL := []) (rest := []) (lenOf pd_0 rfl) rfl (by show 2 * 0 + _ ≤ _; exact Nat.le_of_eq rfl) (hb hby at_207) (fun _ _ => ⟨rfl, rfl, (by decide : 5 + 0 ≤ _), (by decide : 41 + 0 ≤ _)⟩)
    dsimp only [Pt.U, Pt.locs, Pt.cells, Pt.slots] at X90 l90 y90 z90 st90 hQ90
    subst l90 y90 z90
    obtain ⟨rfl, N90q, Kq90, p90_0, p90_1, p90_2, p90_3, p90_4, p90_5, p90_6⟩ := hQ90
    have N90 := Fr.app N85 N90q
    refine own_on st90 ?_
    have Zp90 : n0 ≤ T90.heap.size := Nat.le_trans Zp85 Kq90.1
    show own_G p e below Φ T90 (mkF m 210 #[.val (.int p0), .val (.int p1), .val (.int (2 : Int32)), .val (.int (0 : Int32)), .val (.ref ob1), .val (.ref ob3), .val (.ref ob4), .val .null, .val (.ref ob10), .val .null, .val .null, .unset] [])
    refine own_go (fun _ => XS.aload X90.here hx rfl (hb hby at_210) rfl rfl) ?_
    show own_G p e below Φ T90 (mkF m 212 #[.val (.int p0), .val (.int p1), .val (.int (2 : Int32)), .val (.int (0 : Int32)), .val (.ref ob1), .val (.ref ob3), .val (.ref ob4), .val .null, .val (.ref ob10), .val .null, .val .null, .unset] [(.ref ob4)])
    obtain ⟨cq91, kq91, q91a, q91b, q91c⟩ := isOf hZ rfl p90_0
    obtain ⟨_, _, ⟨T91, zL91, zk91, zn91⟩, -, X91, ⟨Lc91, hQ91, l91, y91, z91⟩, st91⟩ := X90.virtualBack hx (y := (⟨"corro/core/Order", "level", "()Lcorro/core/Level;"⟩ : MethodName)) (z := (⟨"corro/core/Order", "level", "()Lcorro/core/Level;"⟩ : MethodName)) hown (mvT hZ (wd_47 hw)) (mvT hZ (wd_48 hw)) (notFace_of_selects (args := #[]) (mvT hZ (wd_50 hw))) (mvT hZ (wd_50 hw)) (mvT hZ (wd_49 hw)) (by decide) (backOf (W := 0) (rmGlevel l Z a0 hw [] ob4 .null T90.heap n0 Zp90 p90_1 rfl) hZ (wd_51 hw) (wd_13 hw) (by decide) (by decide)) q91a q91c (g := (mkF m 212 #[.val (.int p0), .val (.int p1), .val (.int (2 : Int32)), .val (.int (0 : Int32)), .val (.ref ob1), .val (.ref ob3), .val (.ref ob4), .val .null, .val (.ref ob10), .val .null, .val .null, .unset] [(.ref ob4)])) rfl (by rw [hml]; rfl) (Steps.refl _) (argsL := []) (rest := []) (lenOf pd_3 rfl) rfl (by show 2 * 0 + _ ≤ _; exact Nat.le_of_eq rfl) (hb hby at_212) (fun _ _ => ⟨rfl, rfl, (by decide : 5 + 0 ≤ _), (by decide : 41 + 0 ≤ _)⟩)
    dsimp only [Pt.U, Pt.locs, Pt.cells, Pt.slots] at X91 l91 y91 z91 st91 hQ91
    subst l91 y91 z91
    obtain ⟨rfl, N91q, hs91⟩ := hQ91
    have N91 := Fr.app N90 N91q
    refine own_on st91 ?_
    show own_G p e below Φ T91 (mkF m 215 #[.val (.int p0), .val (.int p1), .val (.int (2 : Int32)), .val (.int (0 : Int32)), .val (.ref ob1), .val (.ref ob3), .val (.ref ob4), .val .null, .val (.ref ob10), .val .null, .val .null, .unset] [.null])
    refine own_go (fun _ => XS.ifnonnullNo X91.here hx rfl (hb hby at_215) rfl) ?_
    show own_G p e below Φ T91 (mkF m 218 #[.val (.int p0), .val (.int p1), .val (.int (2 : Int32)), .val (.int (0 : Int32)), .val (.ref ob1), .val (.ref ob3), .val (.ref ob4), .val .null, .val (.ref ob10), .val .null, .val .null, .unset] [])
    refine own_go (fun _ => XS.aload X91.here hx rfl (hb hby at_218) rfl rfl) ?_
    show own_G p e below Φ T91 (mkF m 220 #[.val (.int p0), .val (.int p1), .val (.int (2 : Int32)), .val (.int (0 : Int32)), .val (.ref ob1), .val (.ref ob3), .val (.ref ob4), .val .null, .val (.ref ob10), .val .null, .val .null, .unset] [(.ref ob4)])
    obtain ⟨cq92, kq92, q92a, q92b, q92c⟩ := isOf hZ hs91 p90_0
    obtain ⟨_, _, ⟨T92, zL92, zk92, zn92⟩, -, X92, ⟨Lc92, hQ92, l92, y92, z92⟩, st92⟩ := X91.virtualBack hx (y := (⟨"corro/core/Order", "previous", "()Lcorro/core/Order;"⟩ : MethodName)) (z := (⟨"corro/core/Order", "previous", "()Lcorro/core/Order;"⟩ : MethodName)) hown (mvT hZ (wd_52 hw)) (mvT hZ (wd_53 hw)) (notFace_of_selects (args := #[]) (mvT hZ (wd_55 hw))) (mvT hZ (wd_55 hw)) (mvT hZ (wd_54 hw)) (by decide) (backOf (W := 0) (rmGprevious l Z a0 hw [] ob4 .null T90.heap n0 Zp90 p90_2 rfl) hZ (wd_56 hw) (wd_13 hw) (by decide) (by decide)) q92a q92c (g := (mkF m 220 #[.val (.int p0), .val (.int p1), .val (.int (2 : Int32)), .val (.int (0 : Int32)), .val (.ref ob1), .val (.ref ob3), .val (.ref ob4), .val .null, .val (.ref ob10), .val .null, .val .null, .unset] [(.ref ob4)])) rfl (by rw [hml]; rfl) (Steps.refl _) (argsL := []) (rest := []) (lenOf pd_4 rfl) rfl (by show 2 * 0 + _ ≤ _; exact Nat.le_of_eq rfl) (hb hby at_220) (fun _ _ => ⟨rfl, hs91, (by decide : 5 + 0 ≤ _), (by decide : 41 + 0 ≤ _)⟩)
    dsimp only [Pt.U, Pt.locs, Pt.cells, Pt.slots] at X92 l92 y92 z92 st92 hQ92
    subst l92 y92 z92
    obtain ⟨rfl, N92q, hs92⟩ := hQ92
    have N92 := Fr.app N91 N92q
    refine own_on st92 ?_
    show own_G p e below Φ T92 (mkF m 223 #[.val (.int p0), .val (.int p1), .val (.int (2 : Int32)), .val (.int (0 : Int32)), .val (.ref ob1), .val (.ref ob3), .val (.ref ob4), .val .null, .val (.ref ob10), .val .null, .val .null, .unset] [.null])
    refine own_go (fun _ => XS.ifnonnullNo X92.here hx rfl (hb hby at_223) rfl) ?_
    show own_G p e below Φ T92 (mkF m 226 #[.val (.int p0), .val (.int p1), .val (.int (2 : Int32)), .val (.int (0 : Int32)), .val (.ref ob1), .val (.ref ob3), .val (.ref ob4), .val .null, .val (.ref ob10), .val .null, .val .null, .unset] [])
    refine own_go (fun _ => XS.aload X92.here hx rfl (hb hby at_226) rfl rfl) ?_
    show own_G p e below Φ T92 (mkF m 228 #[.val (.int p0), .val (.int p1), .val (.int (2 : Int32)), .val (.int (0 : Int32)), .val (.ref ob1), .val (.ref ob3), .val (.ref ob4), .val .null, .val (.ref ob10), .val .null, .val .null, .unset] [(.ref ob4)])
    obtain ⟨cq93, kq93, q93a, q93b, q93c⟩ := isOf hZ hs92 p90_0
    obtain ⟨_, _, ⟨T93, zL93, zk93, zn93⟩, -, X93, ⟨Lc93, hQ93, l93, y93, z93⟩, st93⟩ := X92.virtualBack hx (y := (⟨"corro/core/Order", "next", "()Lcorro/core/Order;"⟩ : MethodName)) (z := (⟨"corro/core/Order", "next", "()Lcorro/core/Order;"⟩ : MethodName)) hown (mvT hZ (wd_57 hw)) (mvT hZ (wd_58 hw)) (notFace_of_selects (args := #[]) (mvT hZ (wd_60 hw))) (mvT hZ (wd_60 hw)) (mvT hZ (wd_59 hw)) (by decide) (backOf (W := 0) (rmGnext l Z a0 hw [] ob4 .null T90.heap n0 Zp90 p90_3 rfl) hZ (wd_61 hw) (wd_13 hw) (by decide) (by decide)) q93a q93c (g := (mkF m 228 #[.val (.int p0), .val (.int p1), .val (.int (2 : Int32)), .val (.int (0 : Int32)), .val (.ref ob1), .val (.ref ob3), .val (.ref ob4), .val .null, .val (.ref ob10), .val .null, .val .null, .unset] [(.ref ob4)])) rfl (by rw [hml]; rfl) (Steps.refl _) (argsL := []) (rest := []) (lenOf pd_4 rfl) rfl (by show 2 * 0 + _ ≤ _; exact Nat.le_of_eq rfl) (hb hby at_228) (fun _ _ => ⟨rfl, hs92, (by decide : 5 + 0 ≤ _), (by decide : 41 + 0 ≤ _)⟩)
    dsimp only [Pt.U, Pt.locs, Pt.cells, Pt.slots] at X93 l93 y93 z93 st93 hQ93
    subst l93 y93 z93
    obtain ⟨rfl, N93q, hs93⟩ := hQ93
    have N93 := Fr.app N92 N93q
    refine own_on st93 ?_
    show own_G p e below Φ T93 (mkF m 231 #[.val (.int p0), .val (.int p1), .val (.int (2 : Int32)), .val (.int (0 : Int32)), .val (.ref ob1), .val (.ref ob3), .val (.ref ob4), .val .null, .val (.ref ob10), .val .null, .val .null, .unset] [.null])
    refine own_go (fun _ => XS.ifnonnullNo X93.here hx rfl (hb hby at_231) rfl) ?_
    show own_G p e below Φ T93 (mkF m 234 #[.val (.int p0), .val (.int p1), .val (.int (2 : Int32)), .val (.int (0 : Int32)), .val (.ref ob1), .val (.ref ob3), .val (.ref ob4), .val .null, .val (.ref ob10), .val .null, .val .null, .unset] [])
    refine own_go (fun _ => XS.iconst X93.here hx rfl (hb hby at_234)) ?_
    show own_G p e below Φ T93 (mkF m 235 #[.val (.int p0), .val (.int p1), .val (.int (2 : Int32)), .val (.int (0 : Int32)), .val (.ref ob1), .val (.ref ob3), .val (.ref ob4), .val .null, .val (.ref ob10), .val .null, .val .null, .unset] [(.int (1 : Int32))])
    refine own_go (fun _ => XS.goto X93.here hx rfl (pc0 := 235) (pc' := 239) rfl (hb hby at_235) (by decide) (by decide)) ?_
    show own_G p e below Φ T93 (mkF m 239 #[.val (.int p0), .val (.int p1), .val (.int (2 : Int32)), .val (.int (0 : Int32)), .val (.ref ob1), .val (.ref ob3), .val (.ref ob4), .val .null, .val (.ref ob10), .val .null, .val .null, .unset] [(.int (1 : Int32))])
    refine own_go (fun _ => XS.istore X93.here hx rfl (hb hby at_239) rfl (l' := #[.val (.int p0), .val (.int p1), .val (.int (2 : Int32)), .val (.int (0 : Int32)), .val (.ref ob1), .val (.ref ob3), .val (.ref ob4), .val .null, .val (.ref ob10), .val .null, .val .null, .val (.int (1 : Int32))]) rfl) ?_
    show own_G p e below Φ T93 (mkF m 241 #[.val (.int p0), .val (.int p1), .val (.int (2 : Int32)), .val (.int (0 : Int32)), .val (.ref ob1), .val (.ref ob3), .val (.ref ob4), .val .null, .val (.ref ob10), .val .null, .val .null, .val (.int (1 : Int32))] [])
    refine own_go (fun _ => XS.aload X93.here hx rfl (hb hby at_241) rfl rfl) ?_
    show own_G p e below Φ T93 (mkF m 243 #[.val (.int p0), .val (.int p1), .val (.int (2 : Int32)), .val (.int (0 : Int32)), .val (.ref ob1), .val (.ref ob3), .val (.ref ob4), .val .null, .val (.ref ob10), .val .null, .val .null, .val (.int (1 : Int32))] [.null])
    refine own_go (fun _ => XS.ifnullYes X93.here hx rfl (pc0 := 243) (pc' := 288) rfl (hb hby at_243) rfl (by decide) (by decide)) ?_
    show own_G p e below Φ T93 (mkF m 288 #[.val (.int p0), .val (.int p1), .val (.int (2 : Int32)), .val (.int (0 : Int32)), .val (.ref ob1), .val (.ref ob3), .val (.ref ob4), .val .null, .val (.ref ob10), .val .null, .val .null, .val (.int (1 : Int32))] [])
    refine own_go (fun _ => XS.aload X93.here hx rfl (hb hby at_288) rfl rfl) ?_
    show own_G p e below Φ T93 (mkF m 290 #[.val (.int p0), .val (.int p1), .val (.int (2 : Int32)), .val (.int (0 : Int32)), .val (.ref ob1), .val (.ref ob3), .val (.ref ob4), .val .null, .val (.ref ob10), .val .null, .val .null, .val (.int (1 : Int32))] [(.ref ob10)])
    refine own_go (fun _ => XS.ifnullNo X93.here hx rfl (hb hby at_290) rfl) ?_
    show own_G p e below Φ T93 (mkF m 293 #[.val (.int p0), .val (.int p1), .val (.int (2 : Int32)), .val (.int (0 : Int32)), .val (.ref ob1), .val (.ref ob3), .val (.ref ob4), .val .null, .val (.ref ob10), .val .null, .val .null, .val (.int (1 : Int32))] [])
    refine own_go (fun _ => XS.iload X93.here hx rfl (hb hby at_293) rfl) ?_
    show own_G p e below Φ T93 (mkF m 295 #[.val (.int p0), .val (.int p1), .val (.int (2 : Int32)), .val (.int (0 : Int32)), .val (.ref ob1), .val (.ref ob3), .val (.ref ob4), .val .null, .val (.ref ob10), .val .null, .val .null, .val (.int (1 : Int32))] [(.int (1 : Int32))])
    refine own_go (fun _ => XS.ifNo X93.here hx rfl (hb hby at_295) rfl (Jvm.Free.XT.i0_eq_f (by decide : ¬ ((1 : Int32) = (0 : Int32))))) ?_
    show own_G p e below Φ T93 (mkF m 298 #[.val (.int p0), .val (.int p1), .val (.int (2 : Int32)), .val (.int (0 : Int32)), .val (.ref ob1), .val (.ref ob3), .val (.ref ob4), .val .null, .val (.ref ob10), .val .null, .val .null, .val (.int (1 : Int32))] [])
    refine own_go (fun _ => XS.aload X93.here hx rfl (hb hby at_298) rfl rfl) ?_
    show own_G p e below Φ T93 (mkF m 300 #[.val (.int p0), .val (.int p1), .val (.int (2 : Int32)), .val (.int (0 : Int32)), .val (.ref ob1), .val (.ref ob3), .val (.ref ob4), .val .null, .val (.ref ob10), .val .null, .val .null, .val (.int (1 : Int32))] [(.ref ob10)])
    have f95 : Exa Z T90.heap ob10 "corro/core/Order" := p85_0.keep Kq90
    obtain ⟨cq94, kq94, q94a, q94b, q94c⟩ := isOf hZ hs93 f95
    obtain ⟨_, _, ⟨T94, zL94, zk94, zn94⟩, -, X94, ⟨Lc94, hQ94, l94, y94, z94⟩, st94⟩ := X93.virtualBack hx (y := (⟨"corro/core/Order", "previous", "()Lcorro/core/Order;"⟩ : MethodName)) (z := (⟨"corro/core/Order", "previous", "()Lcorro/core/Order;"⟩ : MethodName)) hown (mvT hZ (wd_52 hw)) (mvT hZ (wd_53 hw)) (notFace_of_selects (args := #[]) (mvT hZ (wd_55 hw))) (mvT hZ (wd_55 hw)) (mvT hZ (wd_54 hw)) (by decide) (backOf (W := 0) (rmGprevious l Z a0 hw [] ob10 .null T90.heap n0 Zp90 p90_5 rfl) hZ (wd_56 hw) (wd_13 hw) (by decide) (by decide)) q94a q94c (g := (mkF m 300 #[.val (.int p0), .val (.int p1), .val (.int (2 : Int32)), .val (.int (0 : Int32)), .val (.ref ob1), .val (.ref ob3), .val (.ref ob4), .val .null, .val (.ref ob10), .val .null, .val .null, .val (.int (1 : Int32))] [(.ref ob10)])) rfl (by rw [hml]; rfl) (Steps.refl _) (argsL := []) (rest := []) (lenOf pd_4 rfl) rfl (by show 2 * 0 + _ ≤ _; exact Nat.le_of_eq rfl) (hb hby at_300) (fun _ _ => ⟨rfl, hs93, (by decide : 5 + 0 ≤ _), (by decide : 41 + 0 ≤ _)⟩)
    dsimp only [Pt.U, Pt.locs, Pt.cells, Pt.slots] at X94 l94 y94 z94 st94 hQ94
    subst l94 y94 z94
    obtain ⟨rfl, N94q, hs94⟩ := hQ94
    have N94 := Fr.app N93 N94q
    refine own_on st94 ?_
    show own_G p e below Φ T94 (mkF m 303 #[.val (.int p0), .val (.int p1), .val (.int (2 : Int32)), .val (.int (0 : Int32)), .val (.ref ob1), .val (.ref ob3), .val (.ref ob4), .val .null, .val (.ref ob10), .val .null, .val .null, .val (.int (1 : Int32))] [.null])
    refine own_go (fun _ => XS.aload X94.here hx rfl (hb hby at_303) rfl rfl) ?_
    show own_G p e below Φ T94 (mkF m 305 #[.val (.int p0), .val (.int p1), .val (.int (2 : Int32)), .val (.int (0 : Int32)), .val (.ref ob1), .val (.ref ob3), .val (.ref ob4), .val .null, .val (.ref ob10), .val .null, .val .null, .val (.int (1 : Int32))] [.null, .null])
    refine own_go (fun _ => Jvm.RoadKit.acmp (g := (mkF m 305 #[.val (.int p0), .val (.int p1), .val (.int (2 : Int32)), .val (.int (0 : Int32)), .val (.ref ob1), .val (.ref ob3), .val (.ref ob4), .val .null, .val (.ref ob10), .val .null, .val .null, .val (.int (1 : Int32))] [.null, .null])) X94 hx rfl rfl rfl (pc0 := 305) (pc' := 308) (same := true) rfl (hb hby at_305) rfl (decide_eq_true rfl) (by decide) (by decide)) ?_
    show own_G p e below Φ T94 (mkF m 308 #[.val (.int p0), .val (.int p1), .val (.int (2 : Int32)), .val (.int (0 : Int32)), .val (.ref ob1), .val (.ref ob3), .val (.ref ob4), .val .null, .val (.ref ob10), .val .null, .val .null, .val (.int (1 : Int32))] [])
    refine own_go (fun _ => XS.aload X94.here hx rfl (hb hby at_308) rfl rfl) ?_
    show own_G p e below Φ T94 (mkF m 310 #[.val (.int p0), .val (.int p1), .val (.int (2 : Int32)), .val (.int (0 : Int32)), .val (.ref ob1), .val (.ref ob3), .val (.ref ob4), .val .null, .val (.ref ob10), .val .null, .val .null, .val (.int (1 : Int32))] [(.ref ob10)])
    obtain ⟨cq96, kq96, q96a, q96b, q96c⟩ := isOf hZ hs94 f95
    obtain ⟨_, _, ⟨T96, zL96, zk96, zn96⟩, -, X96, ⟨Lc96, hQ96, l96, y96, z96⟩, st96⟩ := X94.virtualBack hx (y := (⟨"corro/core/Order", "next", "()Lcorro/core/Order;"⟩ : MethodName)) (z := (⟨"corro/core/Order", "next", "()Lcorro/core/Order;"⟩ : MethodName)) hown (mvT hZ (wd_57 hw)) (mvT hZ (wd_58 hw)) (notFace_of_selects (args := #[]) (mvT hZ (wd_60 hw))) (mvT hZ (wd_60 hw)) (mvT hZ (wd_59 hw)) (by decide) (backOf (W := 0) (rmGnext l Z a0 hw [] ob10 .null T90.heap n0 Zp90 p90_6 rfl) hZ (wd_61 hw) (wd_13 hw) (by decide) (by decide)) q96a q96c (g := (mkF m 310 #[.val (.int p0), .val (.int p1), .val (.int (2 : Int32)), .val (.int (0 : Int32)), .val (.ref ob1), .val (.ref ob3), .val (.ref ob4), .val .null, .val (.ref ob10), .val .null, .val .null, .val (.int (1 : Int32))] [(.ref ob10)])) rfl (by rw [hml]; rfl) (Steps.refl _) (argsL := []) (rest := []) (lenOf pd_4 rfl) rfl (by show 2 * 0 + _ ≤ _; exact Nat.le_of_eq rfl) (hb hby at_310) (fun _ _ => ⟨rfl, hs94, (by decide : 5 + 0 ≤ _), (by decide : 41 + 0 ≤ _)⟩)
    dsimp only [Pt.U, Pt.locs, Pt.cells, Pt.slots] at X96 l96 y96 z96 st96 hQ96
    subst l96 y96 z96
    obtain ⟨rfl, N96q, hs96⟩ := hQ96
    have N96 := Fr.app N94 N96q
    refine own_on st96 ?_
    show own_G p e below Φ T96 (mkF m 313 #[.val (.int p0), .val (.int p1), .val (.int (2 : Int32)), .val (.int (0 : Int32)), .val (.ref ob1), .val (.ref ob3), .val (.ref ob4), .val .null, .val (.ref ob10), .val .null, .val .null, .val (.int (1 : Int32))] [.null])
    refine own_go (fun _ => XS.aload X96.here hx rfl (hb hby at_313) rfl rfl) ?_
    show own_G p e below Φ T96 (mkF m 315 #[.val (.int p0), .val (.int p1), .val (.int (2 : Int32)), .val (.int (0 : Int32)), .val (.ref ob1), .val (.ref ob3), .val (.ref ob4), .val .null, .val (.ref ob10), .val .null, .val .null, .val (.int (1 : Int32))] [.null, .null])
    refine own_go (fun _ => Jvm.RoadKit.acmp (g := (mkF m 315 #[.val (.int p0), .val (.int p1), .val (.int (2 : Int32)), .val (.int (0 : Int32)), .val (.ref ob1), .val (.ref ob3), .val (.ref ob4), .val .null, .val (.ref ob10), .val .null, .val .null, .val (.int (1 : Int32))] [.null, .null])) X96 hx rfl rfl rfl (pc0 := 315) (pc' := 318) (same := true) rfl (hb hby at_315) rfl (decide_eq_true rfl) (by decide) (by decide)) ?_
    show own_G p e below Φ T96 (mkF m 318 #[.val (.int p0), .val (.int p1), .val (.int (2 : Int32)), .val (.int (0 : Int32)), .val (.ref ob1), .val (.ref ob3), .val (.ref ob4), .val .null, .val (.ref ob10), .val .null, .val .null, .val (.int (1 : Int32))] [])
    refine own_go (fun _ => XS.aload X96.here hx rfl (hb hby at_318) rfl rfl) ?_
    show own_G p e below Φ T96 (mkF m 320 #[.val (.int p0), .val (.int p1), .val (.int (2 : Int32)), .val (.int (0 : Int32)), .val (.ref ob1), .val (.ref ob3), .val (.ref ob4), .val .null, .val (.ref ob10), .val .null, .val .null, .val (.int (1 : Int32))] [(.ref ob10)])
    obtain ⟨cq97, kq97, q97a, q97b, q97c⟩ := isOf hZ hs96 f95
    obtain ⟨_, _, ⟨T97, zL97, zk97, zn97⟩, -, X97, ⟨Lc97, hQ97, l97, y97, z97⟩, st97⟩ := X96.virtualBack hx (y := (⟨"corro/core/Order", "level", "()Lcorro/core/Level;"⟩ : MethodName)) (z := (⟨"corro/core/Order", "level", "()Lcorro/core/Level;"⟩ : MethodName)) hown (mvT hZ (wd_47 hw)) (mvT hZ (wd_48 hw)) (notFace_of_selects (args := #[]) (mvT hZ (wd_50 hw))) (mvT hZ (wd_50 hw)) (mvT hZ (wd_49 hw)) (by decide) (backOf (W := 0) (rmGlevel l Z a0 hw [] ob10 (.ref ob1) T90.heap n0 Zp90 p90_4 rfl) hZ (wd_51 hw) (wd_13 hw) (by decide) (by decide)) q97a q97c (g := (mkF m 320 #[.val (.int p0), .val (.int p1), .val (.int (2 : Int32)), .val (.int (0 : Int32)), .val (.ref ob1), .val (.ref ob3), .val (.ref ob4), .val .null, .val (.ref ob10), .val .null, .val .null, .val (.int (1 : Int32))] [(.ref ob10)])) rfl (by rw [hml]; rfl) (Steps.refl _) (argsL := []) (rest := []) (lenOf pd_3 rfl) rfl (by show 2 * 0 + _ ≤ _; exact Nat.le_of_eq rfl) (hb hby at_320) (fun _ _ => ⟨rfl, hs96, (by decide : 5 + 0 ≤ _), (by decide : 41 + 0 ≤ _)⟩)
    dsimp only [Pt.U, Pt.locs, Pt.cells, Pt.slots] at X97 l97 y97 z97 st97 hQ97
    subst l97 y97 z97
    obtain ⟨rfl, N97q, hs97⟩ := hQ97
    have N97 := Fr.app N96 N97q
    refine own_on st97 ?_
    show own_G p e below Φ T97 (mkF m 323 #[.val (.int p0), .val (.int p1), .val (.int (2 : Int32)), .val (.int (0 : Int32)), .val (.ref ob1), .val (.ref ob3), .val (.ref ob4), .val .null, .val (.ref ob10), .val .null, .val .null, .val (.int (1 : Int32))] [(.ref ob1)])
    refine own_go (fun _ => XS.aload X97.here hx rfl (hb hby at_323) rfl rfl) ?_
    show own_G p e below Φ T97 (mkF m 325 #[.val (.int p0), .val (.int p1), .val (.int (2 : Int32)), .val (.int (0 : Int32)), .val (.ref ob1), .val (.ref ob3), .val (.ref ob4), .val .null, .val (.ref ob10), .val .null, .val .null, .val (.int (1 : Int32))] [(.ref ob1), (.ref ob1)])
    refine own_go (fun _ => Jvm.RoadKit.acmp (g := (mkF m 325 #[.val (.int p0), .val (.int p1), .val (.int (2 : Int32)), .val (.int (0 : Int32)), .val (.ref ob1), .val (.ref ob3), .val (.ref ob4), .val .null, .val (.ref ob10), .val .null, .val .null, .val (.int (1 : Int32))] [(.ref ob1), (.ref ob1)])) X97 hx rfl rfl rfl (pc0 := 325) (pc' := 328) (same := true) rfl (hb hby at_325) rfl (decide_eq_true rfl) (by decide) (by decide)) ?_
    show own_G p e below Φ T97 (mkF m 328 #[.val (.int p0), .val (.int p1), .val (.int (2 : Int32)), .val (.int (0 : Int32)), .val (.ref ob1), .val (.ref ob3), .val (.ref ob4), .val .null, .val (.ref ob10), .val .null, .val .null, .val (.int (1 : Int32))] [])
    refine own_go (fun _ => XS.iconst X97.here hx rfl (hb hby at_328)) ?_
    show own_G p e below Φ T97 (mkF m 329 #[.val (.int p0), .val (.int p1), .val (.int (2 : Int32)), .val (.int (0 : Int32)), .val (.ref ob1), .val (.ref ob3), .val (.ref ob4), .val .null, .val (.ref ob10), .val .null, .val .null, .val (.int (1 : Int32))] [(.int (1 : Int32))])
    refine own_go (fun _ => XS.goto X97.here hx rfl (pc0 := 329) (pc' := 333) rfl (hb hby at_329) (by decide) (by decide)) ?_
    show own_G p e below Φ T97 (mkF m 333 #[.val (.int p0), .val (.int p1), .val (.int (2 : Int32)), .val (.int (0 : Int32)), .val (.ref ob1), .val (.ref ob3), .val (.ref ob4), .val .null, .val (.ref ob10), .val .null, .val .null, .val (.int (1 : Int32))] [(.int (1 : Int32))])
    refine own_go (fun _ => XS.istore X97.here hx rfl (hb hby at_333) rfl (l' := #[.val (.int p0), .val (.int p1), .val (.int (2 : Int32)), .val (.int (0 : Int32)), .val (.ref ob1), .val (.ref ob3), .val (.ref ob4), .val .null, .val (.ref ob10), .val .null, .val .null, .val (.int (1 : Int32))]) rfl) ?_
    show own_G p e below Φ T97 (mkF m 335 #[.val (.int p0), .val (.int p1), .val (.int (2 : Int32)), .val (.int (0 : Int32)), .val (.ref ob1), .val (.ref ob3), .val (.ref ob4), .val .null, .val (.ref ob10), .val .null, .val .null, .val (.int (1 : Int32))] [])
    refine own_go (fun _ => XS.iload X97.here hx rfl (hb hby at_335) rfl) ?_
    show own_G p e below Φ T97 (mkF m 337 #[.val (.int p0), .val (.int p1), .val (.int (2 : Int32)), .val (.int (0 : Int32)), .val (.ref ob1), .val (.ref ob3), .val (.ref ob4), .val .null, .val (.ref ob10), .val .null, .val .null, .val (.int (1 : Int32))] [(.int (1 : Int32))])
    rw [hΦ]
    refine own_ret X97 (v := some (.int (1 : Int32))) (fun h => by rw [Bd.returns] at h; cases h) (BodyLoose.notSynchronized Bd) (fun fs hr => retN X97 hx (t := .boolean) Bd.returns (by simp) (hb hby at_337) hr) ?_ (by decide) (by decide)
    rw [hs97]
    exact ⟨rfl, N97⟩
  · show own_G p e below Φ T56 (mkF m 92 #[.val (.int p0), .val (.int p1), .val (.int (2 : Int32)), .val (.int (1 : Int32)), .val (.ref ob1), .val (.ref ob3), .unset, .unset, .unset, .unset, .unset, .unset] [])
    refine own_go (fun _ => XS.iloadN X56.here hx rfl (hb hby at_92) rfl) ?_
    show own_G p e below Φ T56 (mkF m 93 #[.val (.int p0), .val (.int p1), .val (.int (2 : Int32)), .val (.int (1 : Int32)), .val (.ref ob1), .val (.ref ob3), .unset, .unset, .unset, .unset, .unset, .unset] [(.int (2 : Int32))])
    refine own_go (fun _ => XS.iconst X56.here hx rfl (hb hby at_93)) ?_
    show own_G p e below Φ T56 (mkF m 94 #[.val (.int p0), .val (.int p1), .val (.int (2 : Int32)), .val (.int (1 : Int32)), .val (.ref ob1), .val (.ref ob3), .unset, .unset, .unset, .unset, .unset, .unset] [(.int (1 : Int32)), (.int (2 : Int32))])
    refine own_go (fun _ => XS.icmpNo X56.here hx rfl (hb hby at_94) rfl (Jvm.Free.XT.ii_le_f (by decide : ((1 : Int32) < (2 : Int32))))) ?_
    show own_G p e below Φ T56 (mkF m 97 #[.val (.int p0), .val (.int p1), .val (.int (2 : Int32)), .val (.int (1 : Int32)), .val (.ref ob1), .val (.ref ob3), .unset, .unset, .unset, .unset, .unset, .unset] [])
    refine own_go (fun _ => XS.aload X56.here hx rfl (hb hby at_97) rfl rfl) ?_
    show own_G p e below Φ T56 (mkF m 99 #[.val (.int p0), .val (.int p1), .val (.int (2 : Int32)), .val (.int (1 : Int32)), .val (.ref ob1), .val (.ref ob3), .unset, .unset, .unset, .unset, .unset, .unset] [(.ref ob3)])
    refine own_go (fun _ => XS.iconst X56.here hx rfl (hb hby at_99)) ?_
    show own_G p e below Φ T56 (mkF m 100 #[.val (.int p0), .val (.int p1), .val (.int (2 : Int32)), .val (.int (1 : Int32)), .val (.ref ob1), .val (.ref ob3), .unset, .unset, .unset, .unset, .unset, .unset] [(.int (1 : Int32)), (.ref ob3)])
    have f98 : Arv Z T56.heap ob3 ka3 (.object "corro/core/Order") (3 : Int32) [(.ref ob4), (.ref ob10), (.ref ob19)] .null := V30.keep Kq56 (ninS ne_ob3_ob4 nin0)
    obtain ⟨cl99, Ar99, q99, S99, M99, H99, G99⟩ := id f98
    have hin99 : ¬ ((1 : Int32) < 0 ∨ cl99.slots.size ≤ ((1 : Int32)).toNatClampNeg) := inb_of S99 ⟨by decide, by decide⟩
    refine own_go (fun _ => X56.aaload hx (j := (1 : Int32)) (v := (.ref ob10)) Ar99.1 (State.isArrayOf_alike hZ.alike Ar99.2.1) rfl Ar99.2.2 hin99 (H99.at hin99 rfl) (g := (mkF m 100 #[.val (.int p0), .val (.int p1), .val (.int (2 : Int32)), .val (.int (1 : Int32)), .val (.ref ob1), .val (.ref ob3), .unset, .unset, .unset, .unset, .unset, .unset] [(.int (1 : Int32)), (.ref ob3)])) rfl rfl (hb hby at_100) _) ?_
    show own_G p e below Φ T56 (mkF m 101 #[.val (.int p0), .val (.int p1), .val (.int (2 : Int32)), .val (.int (1 : Int32)), .val (.ref ob1), .val (.ref ob3), .unset, .unset, .unset, .unset, .unset, .unset] [(.ref ob10)])
    refine own_go (fun _ => XS.aload X56.here hx rfl (hb hby at_101) rfl rfl) ?_
    show own_G p e below Φ T56 (mkF m 103 #[.val (.int p0), .val (.int p1), .val (.int (2 : Int32)), .val (.int (1 : Int32)), .val (.ref ob1), .val (.ref ob3), .unset, .unset, .unset, .unset, .unset, .unset] [(.ref ob1), (.ref ob10)])
    refine own_go (fun _ => XS.aload X56.here hx rfl (hb hby at_103) rfl rfl) ?_
    show own_G p e below Φ T56 (mkF m 105 #[.val (.int p0), .val (.int p1), .val (.int (2 : Int32)), .val (.int (1 : Int32)), .val (.ref ob1), .val (.ref ob3), .unset, .unset, .unset, .unset, .unset, .unset] [(.ref ob3), (.ref ob1), (.ref ob10)])
    refine own_go (fun _ => XS.iconst X56.here hx rfl (hb hby at_105)) ?_
    show own_G p e below Φ T56 (mkF m 106 #[.val (.int p0), .val (.int p1), .val (.int (2 : Int32)), .val (.int (1 : Int32)), .val (.ref ob1), .val (.ref ob3), .unset, .unset, .unset, .unset, .unset, .unset] [(.int (0 : Int32)), (.ref ob3), (.ref ob1), (.ref ob10)])
    obtain ⟨cl100, Ar100, q100, S100, M100, H100, G100⟩ := id f98
    have hin100 : ¬ ((0 : Int32) < 0 ∨ cl100.slots.size ≤ ((0 : Int32)).toNatClampNeg) := inb_of S100 ⟨by decide, by decide⟩
    refine own_go (fun _ => X56.aaload hx (j := (0 : Int32)) (v := (.ref ob4)) Ar100.1 (State.isArrayOf_alike hZ.alike Ar100.2.1) rfl Ar100.2.2 hin100 (H100.at hin100 rfl) (g := (mkF m 106 #[.val (.int p0), .val (.int p1), .val (.int (2 : Int32)), .val (.int (1 : Int32)), .val (.ref ob1), .val (.ref ob3), .unset, .unset, .unset, .unset, .unset, .unset] [(.int (0 : Int32)), (.ref ob3), (.ref ob1), (.ref ob10)])) rfl rfl (hb hby at_106) _) ?_
    show own_G p e below Φ T56 (mkF m 107 #[.val (.int p0), .val (.int p1), .val (.int (2 : Int32)), .val (.int (1 : Int32)), .val (.ref ob1), .val (.ref ob3), .unset, .unset, .unset, .unset, .unset, .unset] [(.ref ob4), (.ref ob1), (.ref ob10)])
    have f101 : Exa Z h19 ob10 "corro/core/Order" := f26.ext E19
    have f102 : Exa Z T27.heap ob10 "corro/core/Order" := f101.keep Kq27
    have f103 : Exa Z h30 ob10 "corro/core/Order" := f102.wr W30
    have f104 : Exa Z T56.heap ob10 "corro/core/Order" := f103.keep Kq56
    have f105 : Fld Z h18 ob10 "corro/core/Order" "level" "Lcorro/core/Level;" .null := p15_1.other W18 (Or.inl (Ne.symm ne_ob3_ob10))
    have f106 : Fld Z h19 ob10 "corro/core/Order" "level" "Lcorro/core/Level;" .null := f105.ext E19
    have f107 : Fld Z T27.heap ob10 "corro/core/Order" "level" "Lcorro/core/Level;" .null := f106.keep Kq27 (ninS ne_ob10_ob19 nin0)
    have f108 : Fld Z h30 ob10 "corro/core/Order" "level" "Lcorro/core/Level;" .null := f107.other W30 (Or.inl (Ne.symm ne_ob3_ob10))
    have f109 : Fld Z T56.heap ob10 "corro/core/Order" "level" "Lcorro/core/Level;" .null := f108.keep Kq56 (ninS (Ne.symm ne_ob4_ob10) nin0)
    have f110 : Fld Z h18 ob10 "corro/core/Order" "previous" "Lcorro/core/Order;" .null := p15_2.other W18 (Or.inl (Ne.symm ne_ob3_ob10))
    have f111 : Fld Z h19 ob10 "corro/core/Order" "previous" "Lcorro/core/Order;" .null := f110.ext E19
    have f112 : Fld Z T27.heap ob10 "corro/core/Order" "previous" "Lcorro/core/Order;" .null := f111.keep Kq27 (ninS ne_ob10_ob19 nin0)
    have f113 : Fld Z h30 ob10 "corro/core/Order" "previous" "Lcorro/core/Order;" .null := f112.other W30 (Or.inl (Ne.symm ne_ob3_ob10))
    have f114 : Fld Z T56.heap ob10 "corro/core/Order" "previous" "Lcorro/core/Order;" .null := f113.keep Kq56 (ninS (Ne.symm ne_ob4_ob10) nin0)
    have f115 : Fld Z h18 ob10 "corro/core/Order" "next" "Lcorro/core/Order;" .null := p15_3.other W18 (Or.inl (Ne.symm ne_ob3_ob10))
    have f116 : Fld Z h19 ob10 "corro/core/Order" "next" "Lcorro/core/Order;" .null := f115.ext E19
    have f117 : Fld Z T27.heap ob10 "corro/core/Order" "next" "Lcorro/core/Order;" .null := f116.keep Kq27 (ninS ne_ob10_ob19 nin0)
    have f118 : Fld Z h30 ob10 "corro/core/Order" "next" "Lcorro/core/Order;" .null := f117.other W30 (Or.inl (Ne.symm ne_ob3_ob10))
    have f119 : Fld Z T56.heap ob10 "corro/core/Order" "next" "Lcorro/core/Order;" .null := f118.keep Kq56 (ninS (Ne.symm ne_ob4_ob10) nin0)
    obtain ⟨cq120, kq120, q120a, q120b, q120c⟩ := isOf hZ rfl f104
    obtain ⟨_, _, ⟨T120, zL120, zk120, zn120⟩, -, X120, ⟨Lc120, hQ120, l120, y120, z120⟩, st120⟩ := X56.virtualBack hx (y := (⟨"corro/core/Order", "join", "(Lcorro/core/Level;Lcorro/core/Order;)V"⟩ : MethodName)) (z := (⟨"corro/core/Order", "join", "(Lcorro/core/Level;Lcorro/core/Order;)V"⟩ : MethodName)) hown (mvT hZ (wd_31 hw)) (mvT hZ (wd_32 hw)) (notFace_of_selects (args := #[]) (mvT hZ (wd_34 hw))) (mvT hZ (wd_34 hw)) (mvT hZ (wd_33 hw)) (by decide) (backOf (W := 0) (rmJO l Z a0 hw [] ob10 ob1 ob4 .null .null .null (.ref ob1) .null .null T56.heap n0 Zp56 f104 p56_0 f109 f114 f119 p56_1 p56_2 p56_3 g_ob10 g_ob4 (Ne.symm ne_ob4_ob10)) hZ (wd_35 hw) (wd_13 hw) (by decide) (by decide)) q120a q120c (g := (mkF m 107 #[.val (.int p0), .val (.int p1), .val (.int (2 : Int32)), .val (.int (1 : Int32)), .val (.ref ob1), .val (.ref ob3), .unset, .unset, .unset, .unset, .unset, .unset] [(.ref ob4), (.ref ob1), (.ref ob10)])) rfl (by rw [hml]; rfl) (Steps.refl _) (argsL := [(.ref ob1), (.ref ob4)]) (rest := []) (lenOf pd_2 rfl) rfl (by show 2 * 0 + _ ≤ _; exact Nat.le_of_eq rfl) (hb hby at_107) (fun _ _ => ⟨rfl, rfl, (by decide : 5 + 0 ≤ _), (by decide : 41 + 0 ≤ _)⟩)
    dsimp only [Pt.U, Pt.locs, Pt.cells, Pt.slots] at X120 l120 y120 z120 st120 hQ120
    subst l120 y120 z120
    obtain ⟨rfl, N120q, Kq120, p120_0, p120_1, p120_2, p120_3, p120_4, p120_5, p120_6⟩ := hQ120
    have N120 := Fr.app N56 N120q
    refine own_on st120 ?_
    have Zp120 : n0 ≤ T120.heap.size := Nat.le_trans Zp56 Kq120.1
    show own_G p e below Φ T120 (mkF m 110 #[.val (.int p0), .val (.int p1), .val (.int (2 : Int32)), .val (.int (1 : Int32)), .val (.ref ob1), .val (.ref ob3), .unset, .unset, .unset, .unset, .unset, .unset] [])
    refine own_go (fun _ => XS.iloadN X120.here hx rfl (hb hby at_110) rfl) ?_
    show own_G p e below Φ T120 (mkF m 111 #[.val (.int p0), .val (.int p1), .val (.int (2 : Int32)), .val (.int (1 : Int32)), .val (.ref ob1), .val (.ref ob3), .unset, .unset, .unset, .unset, .unset, .unset] [(.int (2 : Int32))])
    refine own_go (fun _ => XS.iconst X120.here hx rfl (hb hby at_111)) ?_
    show own_G p e below Φ T120 (mkF m 112 #[.val (.int p0), .val (.int p1), .val (.int (2 : Int32)), .val (.int (1 : Int32)), .val (.ref ob1), .val (.ref ob3), .unset, .unset, .unset, .unset, .unset, .unset] [(.int (2 : Int32)), (.int (2 : Int32))])
    refine own_go (fun _ => XS.icmpYes X120.here hx rfl (pc0 := 112) (pc' := 128) rfl (hb hby at_112) rfl (Jvm.Free.XT.ii_le_t (by decide : ¬ ((2 : Int32) < (2 : Int32)))) (by decide) (by decide)) ?_
    show own_G p e below Φ T120 (mkF m 128 #[.val (.int p0), .val (.int p1), .val (.int (2 : Int32)), .val (.int (1 : Int32)), .val (.ref ob1), .val (.ref ob3), .unset, .unset, .unset, .unset, .unset, .unset] [])
    refine own_go (fun _ => XS.aload X120.here hx rfl (hb hby at_128) rfl rfl) ?_
    show own_G p e below Φ T120 (mkF m 130 #[.val (.int p0), .val (.int p1), .val (.int (2 : Int32)), .val (.int (1 : Int32)), .val (.ref ob1), .val (.ref ob3), .unset, .unset, .unset, .unset, .unset, .unset] [(.ref ob3)])
    refine own_go (fun _ => XS.iloadN X120.here hx rfl (hb hby at_130) rfl) ?_
    show own_G p e below Φ T120 (mkF m 131 #[.val (.int p0), .val (.int p1), .val (.int (2 : Int32)), .val (.int (1 : Int32)), .val (.ref ob1), .val (.ref ob3), .unset, .unset, .unset, .unset, .unset, .unset] [(.int (1 : Int32)), (.ref ob3)])
    have f121 : Arv Z T120.heap ob3 ka3 (.object "corro/core/Order") (3 : Int32) [(.ref ob4), (.ref ob10), (.ref ob19)] .null := f98.keep Kq120 (ninS ne_ob3_ob10 (ninS ne_ob3_ob4 nin0))
    obtain ⟨cl122, Ar122, q122, S122, M122, H122, G122⟩ := id f121
    have hin122 : ¬ ((1 : Int32) < 0 ∨ cl122.slots.size ≤ ((1 : Int32)).toNatClampNeg) := inb_of S122 ⟨by decide, by decide⟩
    refine own_go (fun _ => X120.aaload hx (j := (1 : Int32)) (v := (.ref ob10)) Ar122.1 (State.isArrayOf_alike hZ.alike Ar122.2.1) rfl Ar122.2.2 hin122 (H122.at hin122 rfl) (g := (mkF m 131 #[.val (.int p0), .val (.int p1), .val (.int (2 : Int32)), .val (.int (1 : Int32)), .val (.ref ob1), .val (.ref ob3), .unset, .unset, .unset, .unset, .unset, .unset] [(.int (1 : Int32)), (.ref ob3)])) rfl rfl (hb hby at_131) _) ?_
    show own_G p e below Φ T120 (mkF m 132 #[.val (.int p0), .val (.int p1), .val (.int (2 : Int32)), .val (.int (1 : Int32)), .val (.ref ob1), .val (.ref ob3), .unset, .unset, .unset, .unset, .unset, .unset] [(.ref ob10)])
    refine own_go (fun _ => XS.astore X120.here hx rfl (hb hby at_132) rfl rfl (l' := #[.val (.int p0), .val (.int p1), .val (.int (2 : Int32)), .val (.int (1 : Int32)), .val (.ref ob1), .val (.ref ob3), .val (.ref ob10), .unset, .unset, .unset, .unset, .unset]) rfl) ?_
    show own_G p e below Φ T120 (mkF m 134 #[.val (.int p0), .val (.int p1), .val (.int (2 : Int32)), .val (.int (1 : Int32)), .val (.ref ob1), .val (.ref ob3), .val (.ref ob10), .unset, .unset, .unset, .unset, .unset] [])
    refine own_go (fun _ => XS.iloadN X120.here hx rfl (hb hby at_134) rfl) ?_
    show own_G p e below Φ T120 (mkF m 135 #[.val (.int p0), .val (.int p1), .val (.int (2 : Int32)), .val (.int (1 : Int32)), .val (.ref ob1), .val (.ref ob3), .val (.ref ob10), .unset, .unset, .unset, .unset, .unset] [(.int (1 : Int32))])
    refine own_go (fun _ => XS.ifNo X120.here hx rfl (hb hby at_135) rfl (Jvm.Free.XT.i0_le_f (by decide : ((0 : Int32) < (1 : Int32))))) ?_
    show own_G p e below Φ T120 (mkF m 138 #[.val (.int p0), .val (.int p1), .val (.int (2 : Int32)), .val (.int (1 : Int32)), .val (.ref ob1), .val (.ref ob3), .val (.ref ob10), .unset, .unset, .unset, .unset, .unset] [])
    refine own_go (fun _ => XS.aload X120.here hx rfl (hb hby at_138) rfl rfl) ?_
    show own_G p e below Φ T120 (mkF m 140 #[.val (.int p0), .val (.int p1), .val (.int (2 : Int32)), .val (.int (1 : Int32)), .val (.ref ob1), .val (.ref ob3), .val (.ref ob10), .unset, .unset, .unset, .unset, .unset] [(.ref ob3)])
    refine own_go (fun _ => XS.iloadN X120.here hx rfl (hb hby at_140) rfl) ?_
    show own_G p e below Φ T120 (mkF m 141 #[.val (.int p0), .val (.int p1), .val (.int (2 : Int32)), .val (.int (1 : Int32)), .val (.ref ob1), .val (.ref ob3), .val (.ref ob10), .unset, .unset, .unset, .unset, .unset] [(.int (1 : Int32)), (.ref ob3)])
    refine own_go (fun _ => XS.iconst X120.here hx rfl (hb hby at_141)) ?_
    show own_G p e below Φ T120 (mkF m 142 #[.val (.int p0), .val (.int p1), .val (.int (2 : Int32)), .val (.int (1 : Int32)), .val (.ref ob1), .val (.ref ob3), .val (.ref ob10), .unset, .unset, .unset, .unset, .unset] [(.int (1 : Int32)), (.int (1 : Int32)), (.ref ob3)])
    refine own_go (fun _ => XS.isub X120.here hx rfl (hb hby at_142) rfl) ?_
    show own_G p e below Φ T120 (mkF m 143 #[.val (.int p0), .val (.int p1), .val (.int (2 : Int32)), .val (.int (1 : Int32)), .val (.ref ob1), .val (.ref ob3), .val (.ref ob10), .unset, .unset, .unset, .unset, .unset] [(.int (0 : Int32)), (.ref ob3)])
    obtain ⟨cl123, Ar123, q123, S123, M123, H123, G123⟩ := id f121
    have hin123 : ¬ ((0 : Int32) < 0 ∨ cl123.slots.size ≤ ((0 : Int32)).toNatClampNeg) := inb_of S123 ⟨by decide, by decide⟩
    refine own_go (fun _ => X120.aaload hx (j := (0 : Int32)) (v := (.ref ob4)) Ar123.1 (State.isArrayOf_alike hZ.alike Ar123.2.1) rfl Ar123.2.2 hin123 (H123.at hin123 rfl) (g := (mkF m 143 #[.val (.int p0), .val (.int p1), .val (.int (2 : Int32)), .val (.int (1 : Int32)), .val (.ref ob1), .val (.ref ob3), .val (.ref ob10), .unset, .unset, .unset, .unset, .unset] [(.int (0 : Int32)), (.ref ob3)])) rfl rfl (hb hby at_143) _) ?_
    show own_G p e below Φ T120 (mkF m 144 #[.val (.int p0), .val (.int p1), .val (.int (2 : Int32)), .val (.int (1 : Int32)), .val (.ref ob1), .val (.ref ob3), .val (.ref ob10), .unset, .unset, .unset, .unset, .unset] [(.ref ob4)])
    refine own_go (fun _ => XS.goto X120.here hx rfl (pc0 := 144) (pc' := 148) rfl (hb hby at_144) (by decide) (by decide)) ?_
    show own_G p e below Φ T120 (mkF m 148 #[.val (.int p0), .val (.int p1), .val (.int (2 : Int32)), .val (.int (1 : Int32)), .val (.ref ob1), .val (.ref ob3), .val (.ref ob10), .unset, .unset, .unset, .unset, .unset] [(.ref ob4)])
    refine own_go (fun _ => XS.astore X120.here hx rfl (hb hby at_148) rfl rfl (l' := #[.val (.int p0), .val (.int p1), .val (.int (2 : Int32)), .val (.int (1 : Int32)), .val (.ref ob1), .val (.ref ob3), .val (.ref ob10), .val (.ref ob4), .unset, .unset, .unset, .unset]) rfl) ?_
    show own_G p e below Φ T120 (mkF m 150 #[.val (.int p0), .val (.int p1), .val (.int (2 : Int32)), .val (.int (1 : Int32)), .val (.ref ob1), .val (.ref ob3), .val (.ref ob10), .val (.ref ob4), .unset, .unset, .unset, .unset] [])
    refine own_go (fun _ => XS.iloadN X120.here hx rfl (hb hby at_150) rfl) ?_
    show own_G p e below Φ T120 (mkF m 151 #[.val (.int p0), .val (.int p1), .val (.int (2 : Int32)), .val (.int (1 : Int32)), .val (.ref ob1), .val (.ref ob3), .val (.ref ob10), .val (.ref ob4), .unset, .unset, .unset, .unset] [(.int (1 : Int32))])
    refine own_go (fun _ => XS.iconst X120.here hx rfl (hb hby at_151)) ?_
    show own_G p e below Φ T120 (mkF m 152 #[.val (.int p0), .val (.int p1), .val (.int (2 : Int32)), .val (.int (1 : Int32)), .val (.ref ob1), .val (.ref ob3), .val (.ref ob10), .val (.ref ob4), .unset, .unset, .unset, .unset] [(.int (1 : Int32)), (.int (1 : Int32))])
    refine own_go (fun _ => XS.iadd X120.here hx rfl (hb hby at_152) rfl) ?_
    show own_G p e below Φ T120 (mkF m 153 #[.val (.int p0), .val (.int p1), .val (.int (2 : Int32)), .val (.int (1 : Int32)), .val (.ref ob1), .val (.ref ob3), .val (.ref ob10), .val (.ref ob4), .unset, .unset, .unset, .unset] [(.int (2 : Int32))])
    refine own_go (fun _ => XS.iloadN X120.here hx rfl (hb hby at_153) rfl) ?_
    show own_G p e below Φ T120 (mkF m 154 #[.val (.int p0), .val (.int p1), .val (.int (2 : Int32)), .val (.int (1 : Int32)), .val (.ref ob1), .val (.ref ob3), .val (.ref ob10), .val (.ref ob4), .unset, .unset, .unset, .unset] [(.int (2 : Int32)), (.int (2 : Int32))])
    refine own_go (fun _ => XS.icmpYes X120.here hx rfl (pc0 := 154) (pc' := 166) rfl (hb hby at_154) rfl (Jvm.Free.XT.ii_ge_t (by decide : ¬ ((2 : Int32) < (2 : Int32)))) (by decide) (by decide)) ?_
    show own_G p e below Φ T120 (mkF m 166 #[.val (.int p0), .val (.int p1), .val (.int (2 : Int32)), .val (.int (1 : Int32)), .val (.ref ob1), .val (.ref ob3), .val (.ref ob10), .val (.ref ob4), .unset, .unset, .unset, .unset] [])
    refine own_go (fun _ => XS.aconstNull X120.here hx rfl (hb hby at_166)) ?_
    show own_G p e below Φ T120 (mkF m 167 #[.val (.int p0), .val (.int p1), .val (.int (2 : Int32)), .val (.int (1 : Int32)), .val (.ref ob1), .val (.ref ob3), .val (.ref ob10), .val (.ref ob4), .unset, .unset, .unset, .unset] [.null])
    refine own_go (fun _ => XS.astore X120.here hx rfl (hb hby at_167) rfl rfl (l' := #[.val (.int p0), .val (.int p1), .val (.int (2 : Int32)), .val (.int (1 : Int32)), .val (.ref ob1), .val (.ref ob3), .val (.ref ob10), .val (.ref ob4), .val .null, .unset, .unset, .unset]) rfl) ?_
    show own_G p e below Φ T120 (mkF m 169 #[.val (.int p0), .val (.int p1), .val (.int (2 : Int32)), .val (.int (1 : Int32)), .val (.ref ob1), .val (.ref ob3), .val (.ref ob10), .val (.ref ob4), .val .null, .unset, .unset, .unset] [])
    refine own_go (fun _ => XS.iloadN X120.here hx rfl (hb hby at_169) rfl) ?_
    show own_G p e below Φ T120 (mkF m 170 #[.val (.int p0), .val (.int p1), .val (.int (2 : Int32)), .val (.int (1 : Int32)), .val (.ref ob1), .val (.ref ob3), .val (.ref ob10), .val (.ref ob4), .val .null, .unset, .unset, .unset] [(.int (1 : Int32))])
    refine own_go (fun _ => XS.iconst X120.here hx rfl (hb hby at_170)) ?_
    show own_G p e below Φ T120 (mkF m 171 #[.val (.int p0), .val (.int p1), .val (.int (2 : Int32)), .val (.int (1 : Int32)), .val (.ref ob1), .val (.ref ob3), .val (.ref ob10), .val (.ref ob4), .val .null, .unset, .unset, .unset] [(.int (1 : Int32)), (.int (1 : Int32))])
    refine own_go (fun _ => XS.icmpYes X120.here hx rfl (pc0 := 171) (pc' := 183) rfl (hb hby at_171) rfl (Jvm.Free.XT.ii_le_t (by decide : ¬ ((1 : Int32) < (1 : Int32)))) (by decide) (by decide)) ?_
    show own_G p e below Φ T120 (mkF m 183 #[.val (.int p0), .val (.int p1), .val (.int (2 : Int32)), .val (.int (1 : Int32)), .val (.ref ob1), .val (.ref ob3), .val (.ref ob10), .val (.ref ob4), .val .null, .unset, .unset, .unset] [])
    refine own_go (fun _ => XS.aconstNull X120.here hx rfl (hb hby at_183)) ?_
    show own_G p e below Φ T120 (mkF m 184 #[.val (.int p0), .val (.int p1), .val (.int (2 : Int32)), .val (.int (1 : Int32)), .val (.ref ob1), .val (.ref ob3), .val (.ref ob10), .val (.ref ob4), .val .null, .unset, .unset, .unset] [.null])
    refine own_go (fun _ => XS.astore X120.here hx rfl (hb hby at_184) rfl rfl (l' := #[.val (.int p0), .val (.int p1), .val (.int (2 : Int32)), .val (.int (1 : Int32)), .val (.ref ob1), .val (.ref ob3), .val (.ref ob10), .val (.ref ob4), .val .null, .val .null, .unset, .unset]) rfl) ?_
    show own_G p e below Φ T120 (mkF m 186 #[.val (.int p0), .val (.int p1), .val (.int (2 : Int32)), .val (.int (1 : Int32)), .val (.ref ob1), .val (.ref ob3), .val (.ref ob10), .val (.ref ob4), .val .null, .val .null, .unset, .unset] [])
    refine own_go (fun _ => XS.iloadN X120.here hx rfl (hb hby at_186) rfl) ?_
    show own_G p e below Φ T120 (mkF m 187 #[.val (.int p0), .val (.int p1), .val (.int (2 : Int32)), .val (.int (1 : Int32)), .val (.ref ob1), .val (.ref ob3), .val (.ref ob10), .val (.ref ob4), .val .null, .val .null, .unset, .unset] [(.int (1 : Int32))])
    refine own_go (fun _ => XS.iconst X120.here hx rfl (hb hby at_187)) ?_
    show own_G p e below Φ T120 (mkF m 188 #[.val (.int p0), .val (.int p1), .val (.int (2 : Int32)), .val (.int (1 : Int32)), .val (.ref ob1), .val (.ref ob3), .val (.ref ob10), .val (.ref ob4), .val .null, .val .null, .unset, .unset] [(.int (2 : Int32)), (.int (1 : Int32))])
    refine own_go (fun _ => XS.iadd X120.here hx rfl (hb hby at_188) rfl) ?_
    show own_G p e below Φ T120 (mkF m 189 #[.val (.int p0), .val (.int p1), .val (.int (2 : Int32)), .val (.int (1 : Int32)), .val (.ref ob1), .val (.ref ob3), .val (.ref ob10), .val (.ref ob4), .val .null, .val .null, .unset, .unset] [(.int (3 : Int32))])
    refine own_go (fun _ => XS.iloadN X120.here hx rfl (hb hby at_189) rfl) ?_
    show own_G p e below Φ T120 (mkF m 190 #[.val (.int p0), .val (.int p1), .val (.int (2 : Int32)), .val (.int (1 : Int32)), .val (.ref ob1), .val (.ref ob3), .val (.ref ob10), .val (.ref ob4), .val .null, .val .null, .unset, .unset] [(.int (2 : Int32)), (.int (3 : Int32))])
    refine own_go (fun _ => XS.icmpYes X120.here hx rfl (pc0 := 190) (pc' := 202) rfl (hb hby at_190) rfl (Jvm.Free.XT.ii_ge_t (by decide : ¬ ((3 : Int32) < (2 : Int32)))) (by decide) (by decide)) ?_
    show own_G p e below Φ T120 (mkF m 202 #[.val (.int p0), .val (.int p1), .val (.int (2 : Int32)), .val (.int (1 : Int32)), .val (.ref ob1), .val (.ref ob3), .val (.ref ob10), .val (.ref ob4), .val .null, .val .null, .unset, .unset] [])
    refine own_go (fun _ => XS.aconstNull X120.here hx rfl (hb hby at_202)) ?_
    show own_G p e below Φ T120 (mkF m 203 #[.val (.int p0), .val (.int p1), .val (.int (2 : Int32)), .val (.int (1 : Int32)), .val (.ref ob1), .val (.ref ob3), .val (.ref ob10), .val (.ref ob4), .val .null, .val .null, .unset, .unset] [.null])
    refine own_go (fun _ => XS.astore X120.here hx rfl (hb hby at_203) rfl rfl (l' := #[.val (.int p0), .val (.int p1), .val (.int (2 : Int32)), .val (.int (1 : Int32)), .val (.ref ob1), .val (.ref ob3), .val (.ref ob10), .val (.ref ob4), .val .null, .val .null, .val .null, .unset]) rfl) ?_
    show own_G p e below Φ T120 (mkF m 205 #[.val (.int p0), .val (.int p1), .val (.int (2 : Int32)), .val (.int (1 : Int32)), .val (.ref ob1), .val (.ref ob3), .val (.ref ob10), .val (.ref ob4), .val .null, .val .null, .val .null, .unset] [])
    refine own_go (fun _ => XS.aload X120.here hx rfl (hb hby at_205) rfl rfl) ?_
    show own_G p e below Φ T120 (mkF m 207 #[.val (.int p0), .val (.int p1), .val (.int (2 : Int32)), .val (.int (1 : Int32)), .val (.ref ob1), .val (.ref ob3), .val (.ref ob10), .val (.ref ob4), .val .null, .val .null, .val .null, .unset] [(.ref ob10)])
    have f124 : Exa Z T120.heap ob4 "corro/core/Order" := p56_0.keep Kq120
    obtain ⟨cq125, kq125, q125a, q125b, q125c⟩ := isOf hZ rfl p120_0
    obtain ⟨_, _, ⟨T125, zL125, zk125, zn125⟩, -, X125, ⟨Lc125, hQ125, l125, y125, z125⟩, st125⟩ := X120.virtualBack hx (y := (⟨"corro/core/Order", "leave", "()V"⟩ : MethodName)) (z := (⟨"corro/core/Order", "leave", "()V"⟩ : MethodName)) hown (mvT hZ (wd_42 hw)) (mvT hZ (wd_43 hw)) (notFace_of_selects (args := #[]) (mvT hZ (wd_45 hw))) (mvT hZ (wd_45 hw)) (mvT hZ (wd_44 hw)) (by decide) (backOf (W := 0) (rmV10 l Z a0 hw [] ob10 (.ref ob1) ob4 (.ref ob1) .null (.ref ob10) T120.heap n0 Zp120 p120_0 p120_1 p120_2 p120_3 g_ob10 f124 p120_4 p120_5 p120_6 g_ob4 (Ne.symm ne_ob4_ob10)) hZ (wd_46 hw) (wd_13 hw) (by decide) (by decide)) q125a q125c (g := (mkF m 207 #[.val (.int p0), .val (.int p1), .val (.int (2 : Int32)), .val (.int (1 : Int32)), .val (.ref ob1), .val (.ref ob3), .val (.ref ob10), .val (.ref ob4), .val .null, .val .null, .val .null, .unset] [(.ref ob10)])) rfl (by rw [hml]; rfl) (Steps.refl _) (argsL := []) (rest := []) (lenOf pd_0 rfl) rfl (by show 2 * 0 + _ ≤ _; exact Nat.le_of_eq rfl) (hb hby at_207) (fun _ _ => ⟨rfl, rfl, (by decide : 5 + 0 ≤ _), (by decide : 41 + 0 ≤ _)⟩)
    dsimp only [Pt.U, Pt.locs, Pt.cells, Pt.slots] at X125 l125 y125 z125 st125 hQ125
    subst l125 y125 z125
    obtain ⟨rfl, N125q, Kq125, p125_0, p125_1, p125_2, p125_3, p125_4, p125_5, p125_6⟩ := hQ125
    have N125 := Fr.app N120 N125q
    refine own_on st125 ?_
    have Zp125 : n0 ≤ T125.heap.size := Nat.le_trans Zp120 Kq125.1
    show own_G p e below Φ T125 (mkF m 210 #[.val (.int p0), .val (.int p1), .val (.int (2 : Int32)), .val (.int (1 : Int32)), .val (.ref ob1), .val (.ref ob3), .val (.ref ob10), .val (.ref ob4), .val .null, .val .null, .val .null, .unset] [])
    refine own_go (fun _ => XS.aload X125.here hx rfl (hb hby at_210) rfl rfl) ?_
    show own_G p e below Φ T125 (mkF m 212 #[.val (.int p0), .val (.int p1), .val (.int (2 : Int32)), .val (.int (1 : Int32)), .val (.ref ob1), .val (.ref ob3), .val (.ref ob10), .val (.ref ob4), .val .null, .val .null, .val .null, .unset] [(.ref ob10)])
    obtain ⟨cq126, kq126, q126a, q126b, q126c⟩ := isOf hZ rfl p125_0
    obtain ⟨_, _, ⟨T126, zL126, zk126, zn126⟩, -, X126, ⟨Lc126, hQ126, l126, y126, z126⟩, st126⟩ := X125.virtualBack hx (y := (⟨"corro/core/Order", "level", "()Lcorro/core/Level;"⟩ : MethodName)) (z := (⟨"corro/core/Order", "level", "()Lcorro/core/Level;"⟩ : MethodName)) hown (mvT hZ (wd_47 hw)) (mvT hZ (wd_48 hw)) (notFace_of_selects (args := #[]) (mvT hZ (wd_50 hw))) (mvT hZ (wd_50 hw)) (mvT hZ (wd_49 hw)) (by decide) (backOf (W := 0) (rmGlevel l Z a0 hw [] ob10 .null T125.heap n0 Zp125 p125_1 rfl) hZ (wd_51 hw) (wd_13 hw) (by decide) (by decide)) q126a q126c (g := (mkF m 212 #[.val (.int p0), .val (.int p1), .val (.int (2 : Int32)), .val (.int (1 : Int32)), .val (.ref ob1), .val (.ref ob3), .val (.ref ob10), .val (.ref ob4), .val .null, .val .null, .val .null, .unset] [(.ref ob10)])) rfl (by rw [hml]; rfl) (Steps.refl _) (argsL := []) (rest := []) (lenOf pd_3 rfl) rfl (by show 2 * 0 + _ ≤ _; exact Nat.le_of_eq rfl) (hb hby at_212) (fun _ _ => ⟨rfl, rfl, (by decide : 5 + 0 ≤ _), (by decide : 41 + 0 ≤ _)⟩)
    dsimp only [Pt.U, Pt.locs, Pt.cells, Pt.slots] at X126 l126 y126 z126 st126 hQ126
    subst l126 y126 z126
    obtain ⟨rfl, N126q, hs126⟩ := hQ126
    have N126 := Fr.app N125 N126q
    refine own_on st126 ?_
    show own_G p e below Φ T126 (mkF m 215 #[.val (.int p0), .val (.int p1), .val (.int (2 : Int32)), .val (.int (1 : Int32)), .val (.ref ob1), .val (.ref ob3), .val (.ref ob10), .val (.ref ob4), .val .null, .val .null, .val .null, .unset] [.null])
    refine own_go (fun _ => XS.ifnonnullNo X126.here hx rfl (hb hby at_215) rfl) ?_
    show own_G p e below Φ T126 (mkF m 218 #[.val (.int p0), .val (.int p1), .val (.int (2 : Int32)), .val (.int (1 : Int32)), .val (.ref ob1), .val (.ref ob3), .val (.ref ob10), .val (.ref ob4), .val .null, .val .null, .val .null, .unset] [])
    refine own_go (fun _ => XS.aload X126.here hx rfl (hb hby at_218) rfl rfl) ?_
    show own_G p e below Φ T126 (mkF m 220 #[.val (.int p0), .val (.int p1), .val (.int (2 : Int32)), .val (.int (1 : Int32)), .val (.ref ob1), .val (.ref ob3), .val (.ref ob10), .val (.ref ob4), .val .null, .val .null, .val .null, .unset] [(.ref ob10)])
    obtain ⟨cq127, kq127, q127a, q127b, q127c⟩ := isOf hZ hs126 p125_0
    obtain ⟨_, _, ⟨T127, zL127, zk127, zn127⟩, -, X127, ⟨Lc127, hQ127, l127, y127, z127⟩, st127⟩ := X126.virtualBack hx (y := (⟨"corro/core/Order", "previous", "()Lcorro/core/Order;"⟩ : MethodName)) (z := (⟨"corro/core/Order", "previous", "()Lcorro/core/Order;"⟩ : MethodName)) hown (mvT hZ (wd_52 hw)) (mvT hZ (wd_53 hw)) (notFace_of_selects (args := #[]) (mvT hZ (wd_55 hw))) (mvT hZ (wd_55 hw)) (mvT hZ (wd_54 hw)) (by decide) (backOf (W := 0) (rmGprevious l Z a0 hw [] ob10 .null T125.heap n0 Zp125 p125_2 rfl) hZ (wd_56 hw) (wd_13 hw) (by decide) (by decide)) q127a q127c (g := (mkF m 220 #[.val (.int p0), .val (.int p1), .val (.int (2 : Int32)), .val (.int (1 : Int32)), .val (.ref ob1), .val (.ref ob3), .val (.ref ob10), .val (.ref ob4), .val .null, .val .null, .val .null, .unset] [(.ref ob10)])) rfl (by rw [hml]; rfl) (Steps.refl _) (argsL := []) (rest := []) (lenOf pd_4 rfl) rfl (by show 2 * 0 + _ ≤ _; exact Nat.le_of_eq rfl) (hb hby at_220) (fun _ _ => ⟨rfl, hs126, (by decide : 5 + 0 ≤ _), (by decide : 41 + 0 ≤ _)⟩)
    dsimp only [Pt.U, Pt.locs, Pt.cells, Pt.slots] at X127 l127 y127 z127 st127 hQ127
    subst l127 y127 z127
    obtain ⟨rfl, N127q, hs127⟩ := hQ127
    have N127 := Fr.app N126 N127q
    refine own_on st127 ?_
    show own_G p e below Φ T127 (mkF m 223 #[.val (.int p0), .val (.int p1), .val (.int (2 : Int32)), .val (.int (1 : Int32)), .val (.ref ob1), .val (.ref ob3), .val (.ref ob10), .val (.ref ob4), .val .null, .val .null, .val .null, .unset] [.null])
    refine own_go (fun _ => XS.ifnonnullNo X127.here hx rfl (hb hby at_223) rfl) ?_
    show own_G p e below Φ T127 (mkF m 226 #[.val (.int p0), .val (.int p1), .val (.int (2 : Int32)), .val (.int (1 : Int32)), .val (.ref ob1), .val (.ref ob3), .val (.ref ob10), .val (.ref ob4), .val .null, .val .null, .val .null, .unset] [])
    refine own_go (fun _ => XS.aload X127.here hx rfl (hb hby at_226) rfl rfl) ?_
    show own_G p e below Φ T127 (mkF m 228 #[.val (.int p0), .val (.int p1), .val (.int (2 : Int32)), .val (.int (1 : Int32)), .val (.ref ob1), .val (.ref ob3), .val (.ref ob10), .val (.ref ob4), .val .null, .val .null, .val .null, .unset] [(.ref ob10)])
    obtain ⟨cq128, kq128, q128a, q128b, q128c⟩ := isOf hZ hs127 p125_0
    obtain ⟨_, _, ⟨T128, zL128, zk128, zn128⟩, -, X128, ⟨Lc128, hQ128, l128, y128, z128⟩, st128⟩ := X127.virtualBack hx (y := (⟨"corro/core/Order", "next", "()Lcorro/core/Order;"⟩ : MethodName)) (z := (⟨"corro/core/Order", "next", "()Lcorro/core/Order;"⟩ : MethodName)) hown (mvT hZ (wd_57 hw)) (mvT hZ (wd_58 hw)) (notFace_of_selects (args := #[]) (mvT hZ (wd_60 hw))) (mvT hZ (wd_60 hw)) (mvT hZ (wd_59 hw)) (by decide) (backOf (W := 0) (rmGnext l Z a0 hw [] ob10 .null T125.heap n0 Zp125 p125_3 rfl) hZ (wd_61 hw) (wd_13 hw) (by decide) (by decide)) q128a q128c (g := (mkF m 228 #[.val (.int p0), .val (.int p1), .val (.int (2 : Int32)), .val (.int (1 : Int32)), .val (.ref ob1), .val (.ref ob3), .val (.ref ob10), .val (.ref ob4), .val .null, .val .null, .val .null, .unset] [(.ref ob10)])) rfl (by rw [hml]; rfl) (Steps.refl _) (argsL := []) (rest := []) (lenOf pd_4 rfl) rfl (by show 2 * 0 + _ ≤ _; exact Nat.le_of_eq rfl) (hb hby at_228) (fun _ _ => ⟨rfl, hs127, (by decide : 5 + 0 ≤ _), (by decide : 41 + 0 ≤ _)⟩)
    dsimp only [Pt.U, Pt.locs, Pt.cells, Pt.slots] at X128 l128 y128 z128 st128 hQ128
    subst l128 y128 z128
    obtain ⟨rfl, N128q, hs128⟩ := hQ128
    have N128 := Fr.app N127 N128q
    refine own_on st128 ?_
    show own_G p e below Φ T128 (mkF m 231 #[.val (.int p0), .val (.int p1), .val (.int (2 : Int32)), .val (.int (1 : Int32)), .val (.ref ob1), .val (.ref ob3), .val (.ref ob10), .val (.ref ob4), .val .null, .val .null, .val .null, .unset] [.null])
    refine own_go (fun _ => XS.ifnonnullNo X128.here hx rfl (hb hby at_231) rfl) ?_
    show own_G p e below Φ T128 (mkF m 234 #[.val (.int p0), .val (.int p1), .val (.int (2 : Int32)), .val (.int (1 : Int32)), .val (.ref ob1), .val (.ref ob3), .val (.ref ob10), .val (.ref ob4), .val .null, .val .null, .val .null, .unset] [])
    refine own_go (fun _ => XS.iconst X128.here hx rfl (hb hby at_234)) ?_
    show own_G p e below Φ T128 (mkF m 235 #[.val (.int p0), .val (.int p1), .val (.int (2 : Int32)), .val (.int (1 : Int32)), .val (.ref ob1), .val (.ref ob3), .val (.ref ob10), .val (.ref ob4), .val .null, .val .null, .val .null, .unset] [(.int (1 : Int32))])
    refine own_go (fun _ => XS.goto X128.here hx rfl (pc0 := 235) (pc' := 239) rfl (hb hby at_235) (by decide) (by decide)) ?_
    show own_G p e below Φ T128 (mkF m 239 #[.val (.int p0), .val (.int p1), .val (.int (2 : Int32)), .val (.int (1 : Int32)), .val (.ref ob1), .val (.ref ob3), .val (.ref ob10), .val (.ref ob4), .val .null, .val .null, .val .null, .unset] [(.int (1 : Int32))])
    refine own_go (fun _ => XS.istore X128.here hx rfl (hb hby at_239) rfl (l' := #[.val (.int p0), .val (.int p1), .val (.int (2 : Int32)), .val (.int (1 : Int32)), .val (.ref ob1), .val (.ref ob3), .val (.ref ob10), .val (.ref ob4), .val .null, .val .null, .val .null, .val (.int (1 : Int32))]) rfl) ?_
    show own_G p e below Φ T128 (mkF m 241 #[.val (.int p0), .val (.int p1), .val (.int (2 : Int32)), .val (.int (1 : Int32)), .val (.ref ob1), .val (.ref ob3), .val (.ref ob10), .val (.ref ob4), .val .null, .val .null, .val .null, .val (.int (1 : Int32))] [])
    refine own_go (fun _ => XS.aload X128.here hx rfl (hb hby at_241) rfl rfl) ?_
    show own_G p e below Φ T128 (mkF m 243 #[.val (.int p0), .val (.int p1), .val (.int (2 : Int32)), .val (.int (1 : Int32)), .val (.ref ob1), .val (.ref ob3), .val (.ref ob10), .val (.ref ob4), .val .null, .val .null, .val .null, .val (.int (1 : Int32))] [(.ref ob4)])
    refine own_go (fun _ => XS.ifnullNo X128.here hx rfl (hb hby at_243) rfl) ?_
    show own_G p e below Φ T128 (mkF m 246 #[.val (.int p0), .val (.int p1), .val (.int (2 : Int32)), .val (.int (1 : Int32)), .val (.ref ob1), .val (.ref ob3), .val (.ref ob10), .val (.ref ob4), .val .null, .val .null, .val .null, .val (.int (1 : Int32))] [])
    refine own_go (fun _ => XS.iload X128.here hx rfl (hb hby at_246) rfl) ?_
    show own_G p e below Φ T128 (mkF m 248 #[.val (.int p0), .val (.int p1), .val (.int (2 : Int32)), .val (.int (1 : Int32)), .val (.ref ob1), .val (.ref ob3), .val (.ref ob10), .val (.ref ob4), .val .null, .val .null, .val .null, .val (.int (1 : Int32))] [(.int (1 : Int32))])
    refine own_go (fun _ => XS.ifNo X128.here hx rfl (hb hby at_248) rfl (Jvm.Free.XT.i0_eq_f (by decide : ¬ ((1 : Int32) = (0 : Int32))))) ?_
    show own_G p e below Φ T128 (mkF m 251 #[.val (.int p0), .val (.int p1), .val (.int (2 : Int32)), .val (.int (1 : Int32)), .val (.ref ob1), .val (.ref ob3), .val (.ref ob10), .val (.ref ob4), .val .null, .val .null, .val .null, .val (.int (1 : Int32))] [])
    refine own_go (fun _ => XS.aload X128.here hx rfl (hb hby at_251) rfl rfl) ?_
    show own_G p e below Φ T128 (mkF m 253 #[.val (.int p0), .val (.int p1), .val (.int (2 : Int32)), .val (.int (1 : Int32)), .val (.ref ob1), .val (.ref ob3), .val (.ref ob10), .val (.ref ob4), .val .null, .val .null, .val .null, .val (.int (1 : Int32))] [(.ref ob4)])
    have f130 : Exa Z T125.heap ob4 "corro/core/Order" := f124.keep Kq125
    obtain ⟨cq129, kq129, q129a, q129b, q129c⟩ := isOf hZ hs128 f130
    obtain ⟨_, _, ⟨T129, zL129, zk129, zn129⟩, -, X129, ⟨Lc129, hQ129, l129, y129, z129⟩, st129⟩ := X128.virtualBack hx (y := (⟨"corro/core/Order", "next", "()Lcorro/core/Order;"⟩ : MethodName)) (z := (⟨"corro/core/Order", "next", "()Lcorro/core/Order;"⟩ : MethodName)) hown (mvT hZ (wd_57 hw)) (mvT hZ (wd_58 hw)) (notFace_of_selects (args := #[]) (mvT hZ (wd_60 hw))) (mvT hZ (wd_60 hw)) (mvT hZ (wd_59 hw)) (by decide) (backOf (W := 0) (rmGnext l Z a0 hw [] ob4 .null T125.heap n0 Zp125 p125_6 rfl) hZ (wd_61 hw) (wd_13 hw) (by decide) (by decide)) q129a q129c (g := (mkF m 253 #[.val (.int p0), .val (.int p1), .val (.int (2 : Int32)), .val (.int (1 : Int32)), .val (.ref ob1), .val (.ref ob3), .val (.ref ob10), .val (.ref ob4), .val .null, .val .null, .val .null, .val (.int (1 : Int32))] [(.ref ob4)])) rfl (by rw [hml]; rfl) (Steps.refl _) (argsL := []) (rest := []) (lenOf pd_4 rfl) rfl (by show 2 * 0 + _ ≤ _; exact Nat.le_of_eq rfl) (hb hby at_253) (fun _ _ => ⟨rfl, hs128, (by decide : 5 + 0 ≤ _), (by decide : 41 + 0 ≤ _)⟩)
    dsimp only [Pt.U, Pt.locs, Pt.cells, Pt.slots] at X129 l129 y129 z129 st129 hQ129
    subst l129 y129 z129
    obtain ⟨rfl, N129q, hs129⟩ := hQ129
    have N129 := Fr.app N128 N129q
    refine own_on st129 ?_
    show own_G p e below Φ T129 (mkF m 256 #[.val (.int p0), .val (.int p1), .val (.int (2 : Int32)), .val (.int (1 : Int32)), .val (.ref ob1), .val (.ref ob3), .val (.ref ob10), .val (.ref ob4), .val .null, .val .null, .val .null, .val (.int (1 : Int32))] [.null])
    refine own_go (fun _ => XS.aload X129.here hx rfl (hb hby at_256) rfl rfl) ?_
    show own_G p e below Φ T129 (mkF m 258 #[.val (.int p0), .val (.int p1), .val (.int (2 : Int32)), .val (.int (1 : Int32)), .val (.ref ob1), .val (.ref ob3), .val (.ref ob10), .val (.ref ob4), .val .null, .val .null, .val .null, .val (.int (1 : Int32))] [.null, .null])
    refine own_go (fun _ => Jvm.RoadKit.acmp (g := (mkF m 258 #[.val (.int p0), .val (.int p1), .val (.int (2 : Int32)), .val (.int (1 : Int32)), .val (.ref ob1), .val (.ref ob3), .val (.ref ob10), .val (.ref ob4), .val .null, .val .null, .val .null, .val (.int (1 : Int32))] [.null, .null])) X129 hx rfl rfl rfl (pc0 := 258) (pc' := 261) (same := true) rfl (hb hby at_258) rfl (decide_eq_true rfl) (by decide) (by decide)) ?_
    show own_G p e below Φ T129 (mkF m 261 #[.val (.int p0), .val (.int p1), .val (.int (2 : Int32)), .val (.int (1 : Int32)), .val (.ref ob1), .val (.ref ob3), .val (.ref ob10), .val (.ref ob4), .val .null, .val .null, .val .null, .val (.int (1 : Int32))] [])
    refine own_go (fun _ => XS.aload X129.here hx rfl (hb hby at_261) rfl rfl) ?_
    show own_G p e below Φ T129 (mkF m 263 #[.val (.int p0), .val (.int p1), .val (.int (2 : Int32)), .val (.int (1 : Int32)), .val (.ref ob1), .val (.ref ob3), .val (.ref ob10), .val (.ref ob4), .val .null, .val .null, .val .null, .val (.int (1 : Int32))] [(.ref ob4)])
    obtain ⟨cq131, kq131, q131a, q131b, q131c⟩ := isOf hZ hs129 f130
    obtain ⟨_, _, ⟨T131, zL131, zk131, zn131⟩, -, X131, ⟨Lc131, hQ131, l131, y131, z131⟩, st131⟩ := X129.virtualBack hx (y := (⟨"corro/core/Order", "previous", "()Lcorro/core/Order;"⟩ : MethodName)) (z := (⟨"corro/core/Order", "previous", "()Lcorro/core/Order;"⟩ : MethodName)) hown (mvT hZ (wd_52 hw)) (mvT hZ (wd_53 hw)) (notFace_of_selects (args := #[]) (mvT hZ (wd_55 hw))) (mvT hZ (wd_55 hw)) (mvT hZ (wd_54 hw)) (by decide) (backOf (W := 0) (rmGprevious l Z a0 hw [] ob4 .null T125.heap n0 Zp125 p125_5 rfl) hZ (wd_56 hw) (wd_13 hw) (by decide) (by decide)) q131a q131c (g := (mkF m 263 #[.val (.int p0), .val (.int p1), .val (.int (2 : Int32)), .val (.int (1 : Int32)), .val (.ref ob1), .val (.ref ob3), .val (.ref ob10), .val (.ref ob4), .val .null, .val .null, .val .null, .val (.int (1 : Int32))] [(.ref ob4)])) rfl (by rw [hml]; rfl) (Steps.refl _) (argsL := []) (rest := []) (lenOf pd_4 rfl) rfl (by show 2 * 0 + _ ≤ _; exact Nat.le_of_eq rfl) (hb hby at_263) (fun _ _ => ⟨rfl, hs129, (by decide : 5 + 0 ≤ _), (by decide : 41 + 0 ≤ _)⟩)
    dsimp only [Pt.U, Pt.locs, Pt.cells, Pt.slots] at X131 l131 y131 z131 st131 hQ131
    subst l131 y131 z131
    obtain ⟨rfl, N131q, hs131⟩ := hQ131
    have N131 := Fr.app N129 N131q
    refine own_on st131 ?_
    show own_G p e below Φ T131 (mkF m 266 #[.val (.int p0), .val (.int p1), .val (.int (2 : Int32)), .val (.int (1 : Int32)), .val (.ref ob1), .val (.ref ob3), .val (.ref ob10), .val (.ref ob4), .val .null, .val .null, .val .null, .val (.int (1 : Int32))] [.null])
    refine own_go (fun _ => XS.aload X131.here hx rfl (hb hby at_266) rfl rfl) ?_
    show own_G p e below Φ T131 (mkF m 268 #[.val (.int p0), .val (.int p1), .val (.int (2 : Int32)), .val (.int (1 : Int32)), .val (.ref ob1), .val (.ref ob3), .val (.ref ob10), .val (.ref ob4), .val .null, .val .null, .val .null, .val (.int (1 : Int32))] [.null, .null])
    refine own_go (fun _ => Jvm.RoadKit.acmp (g := (mkF m 268 #[.val (.int p0), .val (.int p1), .val (.int (2 : Int32)), .val (.int (1 : Int32)), .val (.ref ob1), .val (.ref ob3), .val (.ref ob10), .val (.ref ob4), .val .null, .val .null, .val .null, .val (.int (1 : Int32))] [.null, .null])) X131 hx rfl rfl rfl (pc0 := 268) (pc' := 271) (same := true) rfl (hb hby at_268) rfl (decide_eq_true rfl) (by decide) (by decide)) ?_
    show own_G p e below Φ T131 (mkF m 271 #[.val (.int p0), .val (.int p1), .val (.int (2 : Int32)), .val (.int (1 : Int32)), .val (.ref ob1), .val (.ref ob3), .val (.ref ob10), .val (.ref ob4), .val .null, .val .null, .val .null, .val (.int (1 : Int32))] [])
    refine own_go (fun _ => XS.aload X131.here hx rfl (hb hby at_271) rfl rfl) ?_
    show own_G p e below Φ T131 (mkF m 273 #[.val (.int p0), .val (.int p1), .val (.int (2 : Int32)), .val (.int (1 : Int32)), .val (.ref ob1), .val (.ref ob3), .val (.ref ob10), .val (.ref ob4), .val .null, .val .null, .val .null, .val (.int (1 : Int32))] [(.ref ob4)])
    obtain ⟨cq132, kq132, q132a, q132b, q132c⟩ := isOf hZ hs131 f130
    obtain ⟨_, _, ⟨T132, zL132, zk132, zn132⟩, -, X132, ⟨Lc132, hQ132, l132, y132, z132⟩, st132⟩ := X131.virtualBack hx (y := (⟨"corro/core/Order", "level", "()Lcorro/core/Level;"⟩ : MethodName)) (z := (⟨"corro/core/Order", "level", "()Lcorro/core/Level;"⟩ : MethodName)) hown (mvT hZ (wd_47 hw)) (mvT hZ (wd_48 hw)) (notFace_of_selects (args := #[]) (mvT hZ (wd_50 hw))) (mvT hZ (wd_50 hw)) (mvT hZ (wd_49 hw)) (by decide) (backOf (W := 0) (rmGlevel l Z a0 hw [] ob4 (.ref ob1) T125.heap n0 Zp125 p125_4 rfl) hZ (wd_51 hw) (wd_13 hw) (by decide) (by decide)) q132a q132c (g := (mkF m 273 #[.val (.int p0), .val (.int p1), .val (.int (2 : Int32)), .val (.int (1 : Int32)), .val (.ref ob1), .val (.ref ob3), .val (.ref ob10), .val (.ref ob4), .val .null, .val .null, .val .null, .val (.int (1 : Int32))] [(.ref ob4)])) rfl (by rw [hml]; rfl) (Steps.refl _) (argsL := []) (rest := []) (lenOf pd_3 rfl) rfl (by show 2 * 0 + _ ≤ _; exact Nat.le_of_eq rfl) (hb hby at_273) (fun _ _ => ⟨rfl, hs131, (by decide : 5 + 0 ≤ _), (by decide : 41 + 0 ≤ _)⟩)
    dsimp only [Pt.U, Pt.locs, Pt.cells, Pt.slots] at X132 l132 y132 z132 st132 hQ132
    subst l132 y132 z132
    obtain ⟨rfl, N132q, hs132⟩ := hQ132
    have N132 := Fr.app N131 N132q
    refine own_on st132 ?_
    show own_G p e below Φ T132 (mkF m 276 #[.val (.int p0), .val (.int p1), .val (.int (2 : Int32)), .val (.int (1 : Int32)), .val (.ref ob1), .val (.ref ob3), .val (.ref ob10), .val (.ref ob4), .val .null, .val .null, .val .null, .val (.int (1 : Int32))] [(.ref ob1)])
    refine own_go (fun _ => XS.aload X132.here hx rfl (hb hby at_276) rfl rfl) ?_
    show own_G p e below Φ T132 (mkF m 278 #[.val (.int p0), .val (.int p1), .val (.int (2 : Int32)), .val (.int (1 : Int32)), .val (.ref ob1), .val (.ref ob3), .val (.ref ob10), .val (.ref ob4), .val .null, .val .null, .val .null, .val (.int (1 : Int32))] [(.ref ob1), (.ref ob1)])
    refine own_go (fun _ => Jvm.RoadKit.acmp (g := (mkF m 278 #[.val (.int p0), .val (.int p1), .val (.int (2 : Int32)), .val (.int (1 : Int32)), .val (.ref ob1), .val (.ref ob3), .val (.ref ob10), .val (.ref ob4), .val .null, .val .null, .val .null, .val (.int (1 : Int32))] [(.ref ob1), (.ref ob1)])) X132 hx rfl rfl rfl (pc0 := 278) (pc' := 281) (same := true) rfl (hb hby at_278) rfl (decide_eq_true rfl) (by decide) (by decide)) ?_
    show own_G p e below Φ T132 (mkF m 281 #[.val (.int p0), .val (.int p1), .val (.int (2 : Int32)), .val (.int (1 : Int32)), .val (.ref ob1), .val (.ref ob3), .val (.ref ob10), .val (.ref ob4), .val .null, .val .null, .val .null, .val (.int (1 : Int32))] [])
    refine own_go (fun _ => XS.iconst X132.here hx rfl (hb hby at_281)) ?_
    show own_G p e below Φ T132 (mkF m 282 #[.val (.int p0), .val (.int p1), .val (.int (2 : Int32)), .val (.int (1 : Int32)), .val (.ref ob1), .val (.ref ob3), .val (.ref ob10), .val (.ref ob4), .val .null, .val .null, .val .null, .val (.int (1 : Int32))] [(.int (1 : Int32))])
    refine own_go (fun _ => XS.goto X132.here hx rfl (pc0 := 282) (pc' := 286) rfl (hb hby at_282) (by decide) (by decide)) ?_
    show own_G p e below Φ T132 (mkF m 286 #[.val (.int p0), .val (.int p1), .val (.int (2 : Int32)), .val (.int (1 : Int32)), .val (.ref ob1), .val (.ref ob3), .val (.ref ob10), .val (.ref ob4), .val .null, .val .null, .val .null, .val (.int (1 : Int32))] [(.int (1 : Int32))])
    refine own_go (fun _ => XS.istore X132.here hx rfl (hb hby at_286) rfl (l' := #[.val (.int p0), .val (.int p1), .val (.int (2 : Int32)), .val (.int (1 : Int32)), .val (.ref ob1), .val (.ref ob3), .val (.ref ob10), .val (.ref ob4), .val .null, .val .null, .val .null, .val (.int (1 : Int32))]) rfl) ?_
    show own_G p e below Φ T132 (mkF m 288 #[.val (.int p0), .val (.int p1), .val (.int (2 : Int32)), .val (.int (1 : Int32)), .val (.ref ob1), .val (.ref ob3), .val (.ref ob10), .val (.ref ob4), .val .null, .val .null, .val .null, .val (.int (1 : Int32))] [])
    refine own_go (fun _ => XS.aload X132.here hx rfl (hb hby at_288) rfl rfl) ?_
    show own_G p e below Φ T132 (mkF m 290 #[.val (.int p0), .val (.int p1), .val (.int (2 : Int32)), .val (.int (1 : Int32)), .val (.ref ob1), .val (.ref ob3), .val (.ref ob10), .val (.ref ob4), .val .null, .val .null, .val .null, .val (.int (1 : Int32))] [.null])
    refine own_go (fun _ => XS.ifnullYes X132.here hx rfl (pc0 := 290) (pc' := 335) rfl (hb hby at_290) rfl (by decide) (by decide)) ?_
    show own_G p e below Φ T132 (mkF m 335 #[.val (.int p0), .val (.int p1), .val (.int (2 : Int32)), .val (.int (1 : Int32)), .val (.ref ob1), .val (.ref ob3), .val (.ref ob10), .val (.ref ob4), .val .null, .val .null, .val .null, .val (.int (1 : Int32))] [])
    refine own_go (fun _ => XS.iload X132.here hx rfl (hb hby at_335) rfl) ?_
    show own_G p e below Φ T132 (mkF m 337 #[.val (.int p0), .val (.int p1), .val (.int (2 : Int32)), .val (.int (1 : Int32)), .val (.ref ob1), .val (.ref ob3), .val (.ref ob10), .val (.ref ob4), .val .null, .val .null, .val .null, .val (.int (1 : Int32))] [(.int (1 : Int32))])
    rw [hΦ]
    refine own_ret X132 (v := some (.int (1 : Int32))) (fun h => by rw [Bd.returns] at h; cases h) (BodyLoose.notSynchronized Bd) (fun fs hr => retN X132 hx (t := .boolean) Bd.returns (by simp) (hb hby at_337) hr) ?_ (by decide) (by decide)
    rw [hs132]
    exact ⟨rfl, N132⟩
  · show own_G p e below Φ T56 (mkF m 92 #[.val (.int p0), .val (.int p1), .val (.int (3 : Int32)), .val (.int (0 : Int32)), .val (.ref ob1), .val (.ref ob3), .unset, .unset, .unset, .unset, .unset, .unset] [])
    refine own_go (fun _ => XS.iloadN X56.here hx rfl (hb hby at_92) rfl) ?_
    show own_G p e below Φ T56 (mkF m 93 #[.val (.int p0), .val (.int p1), .val (.int (3 : Int32)), .val (.int (0 : Int32)), .val (.ref ob1), .val (.ref ob3), .unset, .unset, .unset, .unset, .unset, .unset] [(.int (3 : Int32))])
    refine own_go (fun _ => XS.iconst X56.here hx rfl (hb hby at_93)) ?_
    show own_G p e below Φ T56 (mkF m 94 #[.val (.int p0), .val (.int p1), .val (.int (3 : Int32)), .val (.int (0 : Int32)), .val (.ref ob1), .val (.ref ob3), .unset, .unset, .unset, .unset, .unset, .unset] [(.int (1 : Int32)), (.int (3 : Int32))])
    refine own_go (fun _ => XS.icmpNo X56.here hx rfl (hb hby at_94) rfl (Jvm.Free.XT.ii_le_f (by decide : ((1 : Int32) < (3 : Int32))))) ?_
    show own_G p e below Φ T56 (mkF m 97 #[.val (.int p0), .val (.int p1), .val (.int (3 : Int32)), .val (.int (0 : Int32)), .val (.ref ob1), .val (.ref ob3), .unset, .unset, .unset, .unset, .unset, .unset] [])
    refine own_go (fun _ => XS.aload X56.here hx rfl (hb hby at_97) rfl rfl) ?_
    show own_G p e below Φ T56 (mkF m 99 #[.val (.int p0), .val (.int p1), .val (.int (3 : Int32)), .val (.int (0 : Int32)), .val (.ref ob1), .val (.ref ob3), .unset, .unset, .unset, .unset, .unset, .unset] [(.ref ob3)])
    refine own_go (fun _ => XS.iconst X56.here hx rfl (hb hby at_99)) ?_
    show own_G p e below Φ T56 (mkF m 100 #[.val (.int p0), .val (.int p1), .val (.int (3 : Int32)), .val (.int (0 : Int32)), .val (.ref ob1), .val (.ref ob3), .unset, .unset, .unset, .unset, .unset, .unset] [(.int (1 : Int32)), (.ref ob3)])
    have f133 : Arv Z T56.heap ob3 ka3 (.object "corro/core/Order") (3 : Int32) [(.ref ob4), (.ref ob10), (.ref ob19)] .null := V30.keep Kq56 (ninS ne_ob3_ob4 nin0)
    obtain ⟨cl134, Ar134, q134, S134, M134, H134, G134⟩ := id f133
    have hin134 : ¬ ((1 : Int32) < 0 ∨ cl134.slots.size ≤ ((1 : Int32)).toNatClampNeg) := inb_of S134 ⟨by decide, by decide⟩
    refine own_go (fun _ => X56.aaload hx (j := (1 : Int32)) (v := (.ref ob10)) Ar134.1 (State.isArrayOf_alike hZ.alike Ar134.2.1) rfl Ar134.2.2 hin134 (H134.at hin134 rfl) (g := (mkF m 100 #[.val (.int p0), .val (.int p1), .val (.int (3 : Int32)), .val (.int (0 : Int32)), .val (.ref ob1), .val (.ref ob3), .unset, .unset, .unset, .unset, .unset, .unset] [(.int (1 : Int32)), (.ref ob3)])) rfl rfl (hb hby at_100) _) ?_
    show own_G p e below Φ T56 (mkF m 101 #[.val (.int p0), .val (.int p1), .val (.int (3 : Int32)), .val (.int (0 : Int32)), .val (.ref ob1), .val (.ref ob3), .unset, .unset, .unset, .unset, .unset, .unset] [(.ref ob10)])
    refine own_go (fun _ => XS.aload X56.here hx rfl (hb hby at_101) rfl rfl) ?_
    show own_G p e below Φ T56 (mkF m 103 #[.val (.int p0), .val (.int p1), .val (.int (3 : Int32)), .val (.int (0 : Int32)), .val (.ref ob1), .val (.ref ob3), .unset, .unset, .unset, .unset, .unset, .unset] [(.ref ob1), (.ref ob10)])
    refine own_go (fun _ => XS.aload X56.here hx rfl (hb hby at_103) rfl rfl) ?_
    show own_G p e below Φ T56 (mkF m 105 #[.val (.int p0), .val (.int p1), .val (.int (3 : Int32)), .val (.int (0 : Int32)), .val (.ref ob1), .val (.ref ob3), .unset, .unset, .unset, .unset, .unset, .unset] [(.ref ob3), (.ref ob1), (.ref ob10)])
    refine own_go (fun _ => XS.iconst X56.here hx rfl (hb hby at_105)) ?_
    show own_G p e below Φ T56 (mkF m 106 #[.val (.int p0), .val (.int p1), .val (.int (3 : Int32)), .val (.int (0 : Int32)), .val (.ref ob1), .val (.ref ob3), .unset, .unset, .unset, .unset, .unset, .unset] [(.int (0 : Int32)), (.ref ob3), (.ref ob1), (.ref ob10)])
    obtain ⟨cl135, Ar135, q135, S135, M135, H135, G135⟩ := id f133
    have hin135 : ¬ ((0 : Int32) < 0 ∨ cl135.slots.size ≤ ((0 : Int32)).toNatClampNeg) := inb_of S135 ⟨by decide, by decide⟩
    refine own_go (fun _ => X56.aaload hx (j := (0 : Int32)) (v := (.ref ob4)) Ar135.1 (State.isArrayOf_alike hZ.alike Ar135.2.1) rfl Ar135.2.2 hin135 (H135.at hin135 rfl) (g := (mkF m 106 #[.val (.int p0), .val (.int p1), .val (.int (3 : Int32)), .val (.int (0 : Int32)), .val (.ref ob1), .val (.ref ob3), .unset, .unset, .unset, .unset, .unset, .unset] [(.int (0 : Int32)), (.ref ob3), (.ref ob1), (.ref ob10)])) rfl rfl (hb hby at_106) _) ?_
    show own_G p e below Φ T56 (mkF m 107 #[.val (.int p0), .val (.int p1), .val (.int (3 : Int32)), .val (.int (0 : Int32)), .val (.ref ob1), .val (.ref ob3), .unset, .unset, .unset, .unset, .unset, .unset] [(.ref ob4), (.ref ob1), (.ref ob10)])
    have f136 : Exa Z h19 ob10 "corro/core/Order" := f26.ext E19
    have f137 : Exa Z T27.heap ob10 "corro/core/Order" := f136.keep Kq27
    have f138 : Exa Z h30 ob10 "corro/core/Order" := f137.wr W30
    have f139 : Exa Z T56.heap ob10 "corro/core/Order" := f138.keep Kq56
    have f140 : Fld Z h18 ob10 "corro/core/Order" "level" "Lcorro/core/Level;" .null := p15_1.other W18 (Or.inl (Ne.symm ne_ob3_ob10))
    have f141 : Fld Z h19 ob10 "corro/core/Order" "level" "Lcorro/core/Level;" .null := f140.ext E19
    have f142 : Fld Z T27.heap ob10 "corro/core/Order" "level" "Lcorro/core/Level;" .null := f141.keep Kq27 (ninS ne_ob10_ob19 nin0)
    have f143 : Fld Z h30 ob10 "corro/core/Order" "level" "Lcorro/core/Level;" .null := f142.other W30 (Or.inl (Ne.symm ne_ob3_ob10))
    have f144 : Fld Z T56.heap ob10 "corro/core/Order" "level" "Lcorro/core/Level;" .null := f143.keep Kq56 (ninS (Ne.symm ne_ob4_ob10) nin0)
    have f145 : Fld Z h18 ob10 "corro/core/Order" "previous" "Lcorro/core/Order;" .null := p15_2.other W18 (Or.inl (Ne.symm ne_ob3_ob10))
    have f146 : Fld Z h19 ob10 "corro/core/Order" "previous" "Lcorro/core/Order;" .null := f145.ext E19
    have f147 : Fld Z T27.heap ob10 "corro/core/Order" "previous" "Lcorro/core/Order;" .null := f146.keep Kq27 (ninS ne_ob10_ob19 nin0)
    have f148 : Fld Z h30 ob10 "corro/core/Order" "previous" "Lcorro/core/Order;" .null := f147.other W30 (Or.inl (Ne.symm ne_ob3_ob10))
    have f149 : Fld Z T56.heap ob10 "corro/core/Order" "previous" "Lcorro/core/Order;" .null := f148.keep Kq56 (ninS (Ne.symm ne_ob4_ob10) nin0)
    have f150 : Fld Z h18 ob10 "corro/core/Order" "next" "Lcorro/core/Order;" .null := p15_3.other W18 (Or.inl (Ne.symm ne_ob3_ob10))
    have f151 : Fld Z h19 ob10 "corro/core/Order" "next" "Lcorro/core/Order;" .null := f150.ext E19
    have f152 : Fld Z T27.heap ob10 "corro/core/Order" "next" "Lcorro/core/Order;" .null := f151.keep Kq27 (ninS ne_ob10_ob19 nin0)
    have f153 : Fld Z h30 ob10 "corro/core/Order" "next" "Lcorro/core/Order;" .null := f152.other W30 (Or.inl (Ne.symm ne_ob3_ob10))
    have f154 : Fld Z T56.heap ob10 "corro/core/Order" "next" "Lcorro/core/Order;" .null := f153.keep Kq56 (ninS (Ne.symm ne_ob4_ob10) nin0)
    obtain ⟨cq155, kq155, q155a, q155b, q155c⟩ := isOf hZ rfl f139
    obtain ⟨_, _, ⟨T155, zL155, zk155, zn155⟩, -, X155, ⟨Lc155, hQ155, l155, y155, z155⟩, st155⟩ := X56.virtualBack hx (y := (⟨"corro/core/Order", "join", "(Lcorro/core/Level;Lcorro/core/Order;)V"⟩ : MethodName)) (z := (⟨"corro/core/Order", "join", "(Lcorro/core/Level;Lcorro/core/Order;)V"⟩ : MethodName)) hown (mvT hZ (wd_31 hw)) (mvT hZ (wd_32 hw)) (notFace_of_selects (args := #[]) (mvT hZ (wd_34 hw))) (mvT hZ (wd_34 hw)) (mvT hZ (wd_33 hw)) (by decide) (backOf (W := 0) (rmJO l Z a0 hw [] ob10 ob1 ob4 .null .null .null (.ref ob1) .null .null T56.heap n0 Zp56 f139 p56_0 f144 f149 f154 p56_1 p56_2 p56_3 g_ob10 g_ob4 (Ne.symm ne_ob4_ob10)) hZ (wd_35 hw) (wd_13 hw) (by decide) (by decide)) q155a q155c (g := (mkF m 107 #[.val (.int p0), .val (.int p1), .val (.int (3 : Int32)), .val (.int (0 : Int32)), .val (.ref ob1), .val (.ref ob3), .unset, .unset, .unset, .unset, .unset, .unset] [(.ref ob4), (.ref ob1), (.ref ob10)])) rfl (by rw [hml]; rfl) (Steps.refl _) (argsL := [(.ref ob1), (.ref ob4)]) (rest := []) (lenOf pd_2 rfl) rfl (by show 2 * 0 + _ ≤ _; exact Nat.le_of_eq rfl) (hb hby at_107) (fun _ _ => ⟨rfl, rfl, (by decide : 5 + 0 ≤ _), (by decide : 41 + 0 ≤ _)⟩)
    dsimp only [Pt.U, Pt.locs, Pt.cells, Pt.slots] at X155 l155 y155 z155 st155 hQ155
    subst l155 y155 z155
    obtain ⟨rfl, N155q, Kq155, p155_0, p155_1, p155_2, p155_3, p155_4, p155_5, p155_6⟩ := hQ155
    have N155 := Fr.app N56 N155q
    refine own_on st155 ?_
    have Zp155 : n0 ≤ T155.heap.size := Nat.le_trans Zp56 Kq155.1
    show own_G p e below Φ T155 (mkF m 110 #[.val (.int p0), .val (.int p1), .val (.int (3 : Int32)), .val (.int (0 : Int32)), .val (.ref ob1), .val (.ref ob3), .unset, .unset, .unset, .unset, .unset, .unset] [])
    refine own_go (fun _ => XS.iloadN X155.here hx rfl (hb hby at_110) rfl) ?_
    show own_G p e below Φ T155 (mkF m 111 #[.val (.int p0), .val (.int p1), .val (.int (3 : Int32)), .val (.int (0 : Int32)), .val (.ref ob1), .val (.ref ob3), .unset, .unset, .unset, .unset, .unset, .unset] [(.int (3 : Int32))])
    refine own_go (fun _ => XS.iconst X155.here hx rfl (hb hby at_111)) ?_
    show own_G p e below Φ T155 (mkF m 112 #[.val (.int p0), .val (.int p1), .val (.int (3 : Int32)), .val (.int (0 : Int32)), .val (.ref ob1), .val (.ref ob3), .unset, .unset, .unset, .unset, .unset, .unset] [(.int (2 : Int32)), (.int (3 : Int32))])
    refine own_go (fun _ => XS.icmpNo X155.here hx rfl (hb hby at_112) rfl (Jvm.Free.XT.ii_le_f (by decide : ((2 : Int32) < (3 : Int32))))) ?_
    show own_G p e below Φ T155 (mkF m 115 #[.val (.int p0), .val (.int p1), .val (.int (3 : Int32)), .val (.int (0 : Int32)), .val (.ref ob1), .val (.ref ob3), .unset, .unset, .unset, .unset, .unset, .unset] [])
    refine own_go (fun _ => XS.aload X155.here hx rfl (hb hby at_115) rfl rfl) ?_
    show own_G p e below Φ T155 (mkF m 117 #[.val (.int p0), .val (.int p1), .val (.int (3 : Int32)), .val (.int (0 : Int32)), .val (.ref ob1), .val (.ref ob3), .unset, .unset, .unset, .unset, .unset, .unset] [(.ref ob3)])
    refine own_go (fun _ => XS.iconst X155.here hx rfl (hb hby at_117)) ?_
    show own_G p e below Φ T155 (mkF m 118 #[.val (.int p0), .val (.int p1), .val (.int (3 : Int32)), .val (.int (0 : Int32)), .val (.ref ob1), .val (.ref ob3), .unset, .unset, .unset, .unset, .unset, .unset] [(.int (2 : Int32)), (.ref ob3)])
    have f156 : Arv Z T155.heap ob3 ka3 (.object "corro/core/Order") (3 : Int32) [(.ref ob4), (.ref ob10), (.ref ob19)] .null := f133.keep Kq155 (ninS ne_ob3_ob10 (ninS ne_ob3_ob4 nin0))
    obtain ⟨cl157, Ar157, q157, S157, M157, H157, G157⟩ := id f156
    have hin157 : ¬ ((2 : Int32) < 0 ∨ cl157.slots.size ≤ ((2 : Int32)).toNatClampNeg) := inb_of S157 ⟨by decide, by decide⟩
    refine own_go (fun _ => X155.aaload hx (j := (2 : Int32)) (v := (.ref ob19)) Ar157.1 (State.isArrayOf_alike hZ.alike Ar157.2.1) rfl Ar157.2.2 hin157 (H157.at hin157 rfl) (g := (mkF m 118 #[.val (.int p0), .val (.int p1), .val (.int (3 : Int32)), .val (.int (0 : Int32)), .val (.ref ob1), .val (.ref ob3), .unset, .unset, .unset, .unset, .unset, .unset] [(.int (2 : Int32)), (.ref ob3)])) rfl rfl (hb hby at_118) _) ?_
    show own_G p e below Φ T155 (mkF m 119 #[.val (.int p0), .val (.int p1), .val (.int (3 : Int32)), .val (.int (0 : Int32)), .val (.ref ob1), .val (.ref ob3), .unset, .unset, .unset, .unset, .unset, .unset] [(.ref ob19)])
    refine own_go (fun _ => XS.aload X155.here hx rfl (hb hby at_119) rfl rfl) ?_
    show own_G p e below Φ T155 (mkF m 121 #[.val (.int p0), .val (.int p1), .val (.int (3 : Int32)), .val (.int (0 : Int32)), .val (.ref ob1), .val (.ref ob3), .unset, .unset, .unset, .unset, .unset, .unset] [(.ref ob1), (.ref ob19)])
    refine own_go (fun _ => XS.aload X155.here hx rfl (hb hby at_121) rfl rfl) ?_
    show own_G p e below Φ T155 (mkF m 123 #[.val (.int p0), .val (.int p1), .val (.int (3 : Int32)), .val (.int (0 : Int32)), .val (.ref ob1), .val (.ref ob3), .unset, .unset, .unset, .unset, .unset, .unset] [(.ref ob3), (.ref ob1), (.ref ob19)])
    refine own_go (fun _ => XS.iconst X155.here hx rfl (hb hby at_123)) ?_
    show own_G p e below Φ T155 (mkF m 124 #[.val (.int p0), .val (.int p1), .val (.int (3 : Int32)), .val (.int (0 : Int32)), .val (.ref ob1), .val (.ref ob3), .unset, .unset, .unset, .unset, .unset, .unset] [(.int (1 : Int32)), (.ref ob3), (.ref ob1), (.ref ob19)])
    obtain ⟨cl158, Ar158, q158, S158, M158, H158, G158⟩ := id f156
    have hin158 : ¬ ((1 : Int32) < 0 ∨ cl158.slots.size ≤ ((1 : Int32)).toNatClampNeg) := inb_of S158 ⟨by decide, by decide⟩
    refine own_go (fun _ => X155.aaload hx (j := (1 : Int32)) (v := (.ref ob10)) Ar158.1 (State.isArrayOf_alike hZ.alike Ar158.2.1) rfl Ar158.2.2 hin158 (H158.at hin158 rfl) (g := (mkF m 124 #[.val (.int p0), .val (.int p1), .val (.int (3 : Int32)), .val (.int (0 : Int32)), .val (.ref ob1), .val (.ref ob3), .unset, .unset, .unset, .unset, .unset, .unset] [(.int (1 : Int32)), (.ref ob3), (.ref ob1), (.ref ob19)])) rfl rfl (hb hby at_124) _) ?_
    show own_G p e below Φ T155 (mkF m 125 #[.val (.int p0), .val (.int p1), .val (.int (3 : Int32)), .val (.int (0 : Int32)), .val (.ref ob1), .val (.ref ob3), .unset, .unset, .unset, .unset, .unset, .unset] [(.ref ob10), (.ref ob1), (.ref ob19)])
    have f159 : Exa Z h30 ob19 "corro/core/Order" := p27_0.wr W30
    have f160 : Exa Z T56.heap ob19 "corro/core/Order" := f159.keep Kq56
    have f161 : Exa Z T155.heap ob19 "corro/core/Order" := f160.keep Kq155
    have f162 : Fld Z h30 ob19 "corro/core/Order" "level" "Lcorro/core/Level;" .null := p27_1.other W30 (Or.inl (Ne.symm ne_ob3_ob19))
    have f163 : Fld Z T56.heap ob19 "corro/core/Order" "level" "Lcorro/core/Level;" .null := f162.keep Kq56 (ninS (Ne.symm ne_ob4_ob19) nin0)
    have f164 : Fld Z T155.heap ob19 "corro/core/Order" "level" "Lcorro/core/Level;" .null := f163.keep Kq155 (ninS (Ne.symm ne_ob10_ob19) (ninS (Ne.symm ne_ob4_ob19) nin0))
    have f165 : Fld Z h30 ob19 "corro/core/Order" "previous" "Lcorro/core/Order;" .null := p27_2.other W30 (Or.inl (Ne.symm ne_ob3_ob19))
    have f166 : Fld Z T56.heap ob19 "corro/core/Order" "previous" "Lcorro/core/Order;" .null := f165.keep Kq56 (ninS (Ne.symm ne_ob4_ob19) nin0)
    have f167 : Fld Z T155.heap ob19 "corro/core/Order" "previous" "Lcorro/core/Order;" .null := f166.keep Kq155 (ninS (Ne.symm ne_ob10_ob19) (ninS (Ne.symm ne_ob4_ob19) nin0))
    have f168 : Fld Z h30 ob19 "corro/core/Order" "next" "Lcorro/core/Order;" .null := p27_3.other W30 (Or.inl (Ne.symm ne_ob3_ob19))
    have f169 : Fld Z T56.heap ob19 "corro/core/Order" "next" "Lcorro/core/Order;" .null := f168.keep Kq56 (ninS (Ne.symm ne_ob4_ob19) nin0)
    have f170 : Fld Z T155.heap ob19 "corro/core/Order" "next" "Lcorro/core/Order;" .null := f169.keep Kq155 (ninS (Ne.symm ne_ob10_ob19) (ninS (Ne.symm ne_ob4_ob19) nin0))
    obtain ⟨cq171, kq171, q171a, q171b, q171c⟩ := isOf hZ rfl f161
    obtain ⟨_, _, ⟨T171, zL171, zk171, zn171⟩, -, X171, ⟨Lc171, hQ171, l171, y171, z171⟩, st171⟩ := X155.virtualBack hx (y := (⟨"corro/core/Order", "join", "(Lcorro/core/Level;Lcorro/core/Order;)V"⟩ : MethodName)) (z := (⟨"corro/core/Order", "join", "(Lcorro/core/Level;Lcorro/core/Order;)V"⟩ : MethodName)) hown (mvT hZ (wd_31 hw)) (mvT hZ (wd_32 hw)) (notFace_of_selects (args := #[]) (mvT hZ (wd_34 hw))) (mvT hZ (wd_34 hw)) (mvT hZ (wd_33 hw)) (by decide) (backOf (W := 0) (rmJO l Z a0 hw [] ob19 ob1 ob10 .null .null .null (.ref ob1) (.ref ob4) .null T155.heap n0 Zp155 f161 p155_0 f164 f167 f170 p155_1 p155_2 p155_3 g_ob19 g_ob10 (Ne.symm ne_ob10_ob19)) hZ (wd_35 hw) (wd_13 hw) (by decide) (by decide)) q171a q171c (g := (mkF m 125 #[.val (.int p0), .val (.int p1), .val (.int (3 : Int32)), .val (.int (0 : Int32)), .val (.ref ob1), .val (.ref ob3), .unset, .unset, .unset, .unset, .unset, .unset] [(.ref ob10), (.ref ob1), (.ref ob19)])) rfl (by rw [hml]; rfl) (Steps.refl _) (argsL := [(.ref ob1), (.ref ob10)]) (rest := []) (lenOf pd_2 rfl) rfl (by show 2 * 0 + _ ≤ _; exact Nat.le_of_eq rfl) (hb hby at_125) (fun _ _ => ⟨rfl, rfl, (by decide : 5 + 0 ≤ _), (by decide : 41 + 0 ≤ _)⟩)
    dsimp only [Pt.U, Pt.locs, Pt.cells, Pt.slots] at X171 l171 y171 z171 st171 hQ171
    subst l171 y171 z171
    obtain ⟨rfl, N171q, Kq171, p171_0, p171_1, p171_2, p171_3, p171_4, p171_5, p171_6⟩ := hQ171
    have N171 := Fr.app N155 N171q
    refine own_on st171 ?_
    have Zp171 : n0 ≤ T171.heap.size := Nat.le_trans Zp155 Kq171.1
    show own_G p e below Φ T171 (mkF m 128 #[.val (.int p0), .val (.int p1), .val (.int (3 : Int32)), .val (.int (0 : Int32)), .val (.ref ob1), .val (.ref ob3), .unset, .unset, .unset, .unset, .unset, .unset] [])
    refine own_go (fun _ => XS.aload X171.here hx rfl (hb hby at_128) rfl rfl) ?_
    show own_G p e below Φ T171 (mkF m 130 #[.val (.int p0), .val (.int p1), .val (.int (3 : Int32)), .val (.int (0 : Int32)), .val (.ref ob1), .val (.ref ob3), .unset, .unset, .unset, .unset, .unset, .unset] [(.ref ob3)])
    refine own_go (fun _ => XS.iloadN X171.here hx rfl (hb hby at_130) rfl) ?_
    show own_G p e below Φ T171 (mkF m 131 #[.val (.int p0), .val (.int p1), .val (.int (3 : Int32)), .val (.int (0 : Int32)), .val (.ref ob1), .val (.ref ob3), .unset, .unset, .unset, .unset, .unset, .unset] [(.int (0 : Int32)), (.ref ob3)])
    have f172 : Arv Z T171.heap ob3 ka3 (.object "corro/core/Order") (3 : Int32) [(.ref ob4), (.ref ob10), (.ref ob19)] .null := f156.keep Kq171 (ninS ne_ob3_ob19 (ninS ne_ob3_ob10 nin0))
    obtain ⟨cl173, Ar173, q173, S173, M173, H173, G173⟩ := id f172
    have hin173 : ¬ ((0 : Int32) < 0 ∨ cl173.slots.size ≤ ((0 : Int32)).toNatClampNeg) := inb_of S173 ⟨by decide, by decide⟩
    refine own_go (fun _ => X171.aaload hx (j := (0 : Int32)) (v := (.ref ob4)) Ar173.1 (State.isArrayOf_alike hZ.alike Ar173.2.1) rfl Ar173.2.2 hin173 (H173.at hin173 rfl) (g := (mkF m 131 #[.val (.int p0), .val (.int p1), .val (.int (3 : Int32)), .val (.int (0 : Int32)), .val (.ref ob1), .val (.ref ob3), .unset, .unset, .unset, .unset, .unset, .unset] [(.int (0 : Int32)), (.ref ob3)])) rfl rfl (hb hby at_131) _) ?_
    show own_G p e below Φ T171 (mkF m 132 #[.val (.int p0), .val (.int p1), .val (.int (3 : Int32)), .val (.int (0 : Int32)), .val (.ref ob1), .val (.ref ob3), .unset, .unset, .unset, .unset, .unset, .unset] [(.ref ob4)])
    refine own_go (fun _ => XS.astore X171.here hx rfl (hb hby at_132) rfl rfl (l' := #[.val (.int p0), .val (.int p1), .val (.int (3 : Int32)), .val (.int (0 : Int32)), .val (.ref ob1), .val (.ref ob3), .val (.ref ob4), .unset, .unset, .unset, .unset, .unset]) rfl) ?_
    show own_G p e below Φ T171 (mkF m 134 #[.val (.int p0), .val (.int p1), .val (.int (3 : Int32)), .val (.int (0 : Int32)), .val (.ref ob1), .val (.ref ob3), .val (.ref ob4), .unset, .unset, .unset, .unset, .unset] [])
    refine own_go (fun _ => XS.iloadN X171.here hx rfl (hb hby at_134) rfl) ?_
    show own_G p e below Φ T171 (mkF m 135 #[.val (.int p0), .val (.int p1), .val (.int (3 : Int32)), .val (.int (0 : Int32)), .val (.ref ob1), .val (.ref ob3), .val (.ref ob4), .unset, .unset, .unset, .unset, .unset] [(.int (0 : Int32))])
    refine own_go (fun _ => XS.ifYes X171.here hx rfl (pc0 := 135) (pc' := 147) rfl (hb hby at_135) rfl (Jvm.Free.XT.i0_le_t (by decide : ¬ ((0 : Int32) < (0 : Int32)))) (by decide) (by decide)) ?_
    show own_G p e below Φ T171 (mkF m 147 #[.val (.int p0), .val (.int p1), .val (.int (3 : Int32)), .val (.int (0 : Int32)), .val (.ref ob1), .val (.ref ob3), .val (.ref ob4), .unset, .unset, .unset, .unset, .unset] [])
    refine own_go (fun _ => XS.aconstNull X171.here hx rfl (hb hby at_147)) ?_
    show own_G p e below Φ T171 (mkF m 148 #[.val (.int p0), .val (.int p1), .val (.int (3 : Int32)), .val (.int (0 : Int32)), .val (.ref ob1), .val (.ref ob3), .val (.ref ob4), .unset, .unset, .unset, .unset, .unset] [.null])
    refine own_go (fun _ => XS.astore X171.here hx rfl (hb hby at_148) rfl rfl (l' := #[.val (.int p0), .val (.int p1), .val (.int (3 : Int32)), .val (.int (0 : Int32)), .val (.ref ob1), .val (.ref ob3), .val (.ref ob4), .val .null, .unset, .unset, .unset, .unset]) rfl) ?_
    show own_G p e below Φ T171 (mkF m 150 #[.val (.int p0), .val (.int p1), .val (.int (3 : Int32)), .val (.int (0 : Int32)), .val (.ref ob1), .val (.ref ob3), .val (.ref ob4), .val .null, .unset, .unset, .unset, .unset] [])
    refine own_go (fun _ => XS.iloadN X171.here hx rfl (hb hby at_150) rfl) ?_
    show own_G p e below Φ T171 (mkF m 151 #[.val (.int p0), .val (.int p1), .val (.int (3 : Int32)), .val (.int (0 : Int32)), .val (.ref ob1), .val (.ref ob3), .val (.ref ob4), .val .null, .unset, .unset, .unset, .unset] [(.int (0 : Int32))])
    refine own_go (fun _ => XS.iconst X171.here hx rfl (hb hby at_151)) ?_
    show own_G p e below Φ T171 (mkF m 152 #[.val (.int p0), .val (.int p1), .val (.int (3 : Int32)), .val (.int (0 : Int32)), .val (.ref ob1), .val (.ref ob3), .val (.ref ob4), .val .null, .unset, .unset, .unset, .unset] [(.int (1 : Int32)), (.int (0 : Int32))])
    refine own_go (fun _ => XS.iadd X171.here hx rfl (hb hby at_152) rfl) ?_
    show own_G p e below Φ T171 (mkF m 153 #[.val (.int p0), .val (.int p1), .val (.int (3 : Int32)), .val (.int (0 : Int32)), .val (.ref ob1), .val (.ref ob3), .val (.ref ob4), .val .null, .unset, .unset, .unset, .unset] [(.int (1 : Int32))])
    refine own_go (fun _ => XS.iloadN X171.here hx rfl (hb hby at_153) rfl) ?_
    show own_G p e below Φ T171 (mkF m 154 #[.val (.int p0), .val (.int p1), .val (.int (3 : Int32)), .val (.int (0 : Int32)), .val (.ref ob1), .val (.ref ob3), .val (.ref ob4), .val .null, .unset, .unset, .unset, .unset] [(.int (3 : Int32)), (.int (1 : Int32))])
    refine own_go (fun _ => XS.icmpNo X171.here hx rfl (hb hby at_154) rfl (Jvm.Free.XT.ii_ge_f (by decide : ((1 : Int32) < (3 : Int32))))) ?_
    show own_G p e below Φ T171 (mkF m 157 #[.val (.int p0), .val (.int p1), .val (.int (3 : Int32)), .val (.int (0 : Int32)), .val (.ref ob1), .val (.ref ob3), .val (.ref ob4), .val .null, .unset, .unset, .unset, .unset] [])
    refine own_go (fun _ => XS.aload X171.here hx rfl (hb hby at_157) rfl rfl) ?_
    show own_G p e below Φ T171 (mkF m 159 #[.val (.int p0), .val (.int p1), .val (.int (3 : Int32)), .val (.int (0 : Int32)), .val (.ref ob1), .val (.ref ob3), .val (.ref ob4), .val .null, .unset, .unset, .unset, .unset] [(.ref ob3)])
    refine own_go (fun _ => XS.iloadN X171.here hx rfl (hb hby at_159) rfl) ?_
    show own_G p e below Φ T171 (mkF m 160 #[.val (.int p0), .val (.int p1), .val (.int (3 : Int32)), .val (.int (0 : Int32)), .val (.ref ob1), .val (.ref ob3), .val (.ref ob4), .val .null, .unset, .unset, .unset, .unset] [(.int (0 : Int32)), (.ref ob3)])
    refine own_go (fun _ => XS.iconst X171.here hx rfl (hb hby at_160)) ?_
    show own_G p e below Φ T171 (mkF m 161 #[.val (.int p0), .val (.int p1), .val (.int (3 : Int32)), .val (.int (0 : Int32)), .val (.ref ob1), .val (.ref ob3), .val (.ref ob4), .val .null, .unset, .unset, .unset, .unset] [(.int (1 : Int32)), (.int (0 : Int32)), (.ref ob3)])
    refine own_go (fun _ => XS.iadd X171.here hx rfl (hb hby at_161) rfl) ?_
    show own_G p e below Φ T171 (mkF m 162 #[.val (.int p0), .val (.int p1), .val (.int (3 : Int32)), .val (.int (0 : Int32)), .val (.ref ob1), .val (.ref ob3), .val (.ref ob4), .val .null, .unset, .unset, .unset, .unset] [(.int (1 : Int32)), (.ref ob3)])
    obtain ⟨cl174, Ar174, q174, S174, M174, H174, G174⟩ := id f172
    have hin174 : ¬ ((1 : Int32) < 0 ∨ cl174.slots.size ≤ ((1 : Int32)).toNatClampNeg) := inb_of S174 ⟨by decide, by decide⟩
    refine own_go (fun _ => X171.aaload hx (j := (1 : Int32)) (v := (.ref ob10)) Ar174.1 (State.isArrayOf_alike hZ.alike Ar174.2.1) rfl Ar174.2.2 hin174 (H174.at hin174 rfl) (g := (mkF m 162 #[.val (.int p0), .val (.int p1), .val (.int (3 : Int32)), .val (.int (0 : Int32)), .val (.ref ob1), .val (.ref ob3), .val (.ref ob4), .val .null, .unset, .unset, .unset, .unset] [(.int (1 : Int32)), (.ref ob3)])) rfl rfl (hb hby at_162) _) ?_
    show own_G p e below Φ T171 (mkF m 163 #[.val (.int p0), .val (.int p1), .val (.int (3 : Int32)), .val (.int (0 : Int32)), .val (.ref ob1), .val (.ref ob3), .val (.ref ob4), .val .null, .unset, .unset, .unset, .unset] [(.ref ob10)])
    refine own_go (fun _ => XS.goto X171.here hx rfl (pc0 := 163) (pc' := 167) rfl (hb hby at_163) (by decide) (by decide)) ?_
    show own_G p e below Φ T171 (mkF m 167 #[.val (.int p0), .val (.int p1), .val (.int (3 : Int32)), .val (.int (0 : Int32)), .val (.ref ob1), .val (.ref ob3), .val (.ref ob4), .val .null, .unset, .unset, .unset, .unset] [(.ref ob10)])
    refine own_go (fun _ => XS.astore X171.here hx rfl (hb hby at_167) rfl rfl (l' := #[.val (.int p0), .val (.int p1), .val (.int (3 : Int32)), .val (.int (0 : Int32)), .val (.ref ob1), .val (.ref ob3), .val (.ref ob4), .val .null, .val (.ref ob10), .unset, .unset, .unset]) rfl) ?_
    show own_G p e below Φ T171 (mkF m 169 #[.val (.int p0), .val (.int p1), .val (.int (3 : Int32)), .val (.int (0 : Int32)), .val (.ref ob1), .val (.ref ob3), .val (.ref ob4), .val .null, .val (.ref ob10), .unset, .unset, .unset] [])
    refine own_go (fun _ => XS.iloadN X171.here hx rfl (hb hby at_169) rfl) ?_
    show own_G p e below Φ T171 (mkF m 170 #[.val (.int p0), .val (.int p1), .val (.int (3 : Int32)), .val (.int (0 : Int32)), .val (.ref ob1), .val (.ref ob3), .val (.ref ob4), .val .null, .val (.ref ob10), .unset, .unset, .unset] [(.int (0 : Int32))])
    refine own_go (fun _ => XS.iconst X171.here hx rfl (hb hby at_170)) ?_
    show own_G p e below Φ T171 (mkF m 171 #[.val (.int p0), .val (.int p1), .val (.int (3 : Int32)), .val (.int (0 : Int32)), .val (.ref ob1), .val (.ref ob3), .val (.ref ob4), .val .null, .val (.ref ob10), .unset, .unset, .unset] [(.int (1 : Int32)), (.int (0 : Int32))])
    refine own_go (fun _ => XS.icmpYes X171.here hx rfl (pc0 := 171) (pc' := 183) rfl (hb hby at_171) rfl (Jvm.Free.XT.ii_le_t (by decide : ¬ ((1 : Int32) < (0 : Int32)))) (by decide) (by decide)) ?_
    show own_G p e below Φ T171 (mkF m 183 #[.val (.int p0), .val (.int p1), .val (.int (3 : Int32)), .val (.int (0 : Int32)), .val (.ref ob1), .val (.ref ob3), .val (.ref ob4), .val .null, .val (.ref ob10), .unset, .unset, .unset] [])
    refine own_go (fun _ => XS.aconstNull X171.here hx rfl (hb hby at_183)) ?_
    show own_G p e below Φ T171 (mkF m 184 #[.val (.int p0), .val (.int p1), .val (.int (3 : Int32)), .val (.int (0 : Int32)), .val (.ref ob1), .val (.ref ob3), .val (.ref ob4), .val .null, .val (.ref ob10), .unset, .unset, .unset] [.null])
    refine own_go (fun _ => XS.astore X171.here hx rfl (hb hby at_184) rfl rfl (l' := #[.val (.int p0), .val (.int p1), .val (.int (3 : Int32)), .val (.int (0 : Int32)), .val (.ref ob1), .val (.ref ob3), .val (.ref ob4), .val .null, .val (.ref ob10), .val .null, .unset, .unset]) rfl) ?_
    show own_G p e below Φ T171 (mkF m 186 #[.val (.int p0), .val (.int p1), .val (.int (3 : Int32)), .val (.int (0 : Int32)), .val (.ref ob1), .val (.ref ob3), .val (.ref ob4), .val .null, .val (.ref ob10), .val .null, .unset, .unset] [])
    refine own_go (fun _ => XS.iloadN X171.here hx rfl (hb hby at_186) rfl) ?_
    show own_G p e below Φ T171 (mkF m 187 #[.val (.int p0), .val (.int p1), .val (.int (3 : Int32)), .val (.int (0 : Int32)), .val (.ref ob1), .val (.ref ob3), .val (.ref ob4), .val .null, .val (.ref ob10), .val .null, .unset, .unset] [(.int (0 : Int32))])
    refine own_go (fun _ => XS.iconst X171.here hx rfl (hb hby at_187)) ?_
    show own_G p e below Φ T171 (mkF m 188 #[.val (.int p0), .val (.int p1), .val (.int (3 : Int32)), .val (.int (0 : Int32)), .val (.ref ob1), .val (.ref ob3), .val (.ref ob4), .val .null, .val (.ref ob10), .val .null, .unset, .unset] [(.int (2 : Int32)), (.int (0 : Int32))])
    refine own_go (fun _ => XS.iadd X171.here hx rfl (hb hby at_188) rfl) ?_
    show own_G p e below Φ T171 (mkF m 189 #[.val (.int p0), .val (.int p1), .val (.int (3 : Int32)), .val (.int (0 : Int32)), .val (.ref ob1), .val (.ref ob3), .val (.ref ob4), .val .null, .val (.ref ob10), .val .null, .unset, .unset] [(.int (2 : Int32))])
    refine own_go (fun _ => XS.iloadN X171.here hx rfl (hb hby at_189) rfl) ?_
    show own_G p e below Φ T171 (mkF m 190 #[.val (.int p0), .val (.int p1), .val (.int (3 : Int32)), .val (.int (0 : Int32)), .val (.ref ob1), .val (.ref ob3), .val (.ref ob4), .val .null, .val (.ref ob10), .val .null, .unset, .unset] [(.int (3 : Int32)), (.int (2 : Int32))])
    refine own_go (fun _ => XS.icmpNo X171.here hx rfl (hb hby at_190) rfl (Jvm.Free.XT.ii_ge_f (by decide : ((2 : Int32) < (3 : Int32))))) ?_
    show own_G p e below Φ T171 (mkF m 193 #[.val (.int p0), .val (.int p1), .val (.int (3 : Int32)), .val (.int (0 : Int32)), .val (.ref ob1), .val (.ref ob3), .val (.ref ob4), .val .null, .val (.ref ob10), .val .null, .unset, .unset] [])
    refine own_go (fun _ => XS.aload X171.here hx rfl (hb hby at_193) rfl rfl) ?_
    show own_G p e below Φ T171 (mkF m 195 #[.val (.int p0), .val (.int p1), .val (.int (3 : Int32)), .val (.int (0 : Int32)), .val (.ref ob1), .val (.ref ob3), .val (.ref ob4), .val .null, .val (.ref ob10), .val .null, .unset, .unset] [(.ref ob3)])
    refine own_go (fun _ => XS.iloadN X171.here hx rfl (hb hby at_195) rfl) ?_
    show own_G p e below Φ T171 (mkF m 196 #[.val (.int p0), .val (.int p1), .val (.int (3 : Int32)), .val (.int (0 : Int32)), .val (.ref ob1), .val (.ref ob3), .val (.ref ob4), .val .null, .val (.ref ob10), .val .null, .unset, .unset] [(.int (0 : Int32)), (.ref ob3)])
    refine own_go (fun _ => XS.iconst X171.here hx rfl (hb hby at_196)) ?_
    show own_G p e below Φ T171 (mkF m 197 #[.val (.int p0), .val (.int p1), .val (.int (3 : Int32)), .val (.int (0 : Int32)), .val (.ref ob1), .val (.ref ob3), .val (.ref ob4), .val .null, .val (.ref ob10), .val .null, .unset, .unset] [(.int (2 : Int32)), (.int (0 : Int32)), (.ref ob3)])
    refine own_go (fun _ => XS.iadd X171.here hx rfl (hb hby at_197) rfl) ?_
    show own_G p e below Φ T171 (mkF m 198 #[.val (.int p0), .val (.int p1), .val (.int (3 : Int32)), .val (.int (0 : Int32)), .val (.ref ob1), .val (.ref ob3), .val (.ref ob4), .val .null, .val (.ref ob10), .val .null, .unset, .unset] [(.int (2 : Int32)), (.ref ob3)])
    obtain ⟨cl175, Ar175, q175, S175, M175, H175, G175⟩ := id f172
    have hin175 : ¬ ((2 : Int32) < 0 ∨ cl175.slots.size ≤ ((2 : Int32)).toNatClampNeg) := inb_of S175 ⟨by decide, by decide⟩
    refine own_go (fun _ => X171.aaload hx (j := (2 : Int32)) (v := (.ref ob19)) Ar175.1 (State.isArrayOf_alike hZ.alike Ar175.2.1) rfl Ar175.2.2 hin175 (H175.at hin175 rfl) (g := (mkF m 198 #[.val (.int p0), .val (.int p1), .val (.int (3 : Int32)), .val (.int (0 : Int32)), .val (.ref ob1), .val (.ref ob3), .val (.ref ob4), .val .null, .val (.ref ob10), .val .null, .unset, .unset] [(.int (2 : Int32)), (.ref ob3)])) rfl rfl (hb hby at_198) _) ?_
    show own_G p e below Φ T171 (mkF m 199 #[.val (.int p0), .val (.int p1), .val (.int (3 : Int32)), .val (.int (0 : Int32)), .val (.ref ob1), .val (.ref ob3), .val (.ref ob4), .val .null, .val (.ref ob10), .val .null, .unset, .unset] [(.ref ob19)])
    refine own_go (fun _ => XS.goto X171.here hx rfl (pc0 := 199) (pc' := 203) rfl (hb hby at_199) (by decide) (by decide)) ?_
    show own_G p e below Φ T171 (mkF m 203 #[.val (.int p0), .val (.int p1), .val (.int (3 : Int32)), .val (.int (0 : Int32)), .val (.ref ob1), .val (.ref ob3), .val (.ref ob4), .val .null, .val (.ref ob10), .val .null, .unset, .unset] [(.ref ob19)])
    refine own_go (fun _ => XS.astore X171.here hx rfl (hb hby at_203) rfl rfl (l' := #[.val (.int p0), .val (.int p1), .val (.int (3 : Int32)), .val (.int (0 : Int32)), .val (.ref ob1), .val (.ref ob3), .val (.ref ob4), .val .null, .val (.ref ob10), .val .null, .val (.ref ob19), .unset]) rfl) ?_
    show own_G p e below Φ T171 (mkF m 205 #[.val (.int p0), .val (.int p1), .val (.int (3 : Int32)), .val (.int (0 : Int32)), .val (.ref ob1), .val (.ref ob3), .val (.ref ob4), .val .null, .val (.ref ob10), .val .null, .val (.ref ob19), .unset] [])
    refine own_go (fun _ => XS.aload X171.here hx rfl (hb hby at_205) rfl rfl) ?_
    show own_G p e below Φ T171 (mkF m 207 #[.val (.int p0), .val (.int p1), .val (.int (3 : Int32)), .val (.int (0 : Int32)), .val (.ref ob1), .val (.ref ob3), .val (.ref ob4), .val .null, .val (.ref ob10), .val .null, .val (.ref ob19), .unset] [(.ref ob4)])
    have f176 : Exa Z T155.heap ob4 "corro/core/Order" := p56_0.keep Kq155
    have f177 : Exa Z T171.heap ob4 "corro/core/Order" := f176.keep Kq171
    have f178 : Fld Z T171.heap ob4 "corro/core/Order" "level" "Lcorro/core/Level;" (.ref ob1) := p155_4.keep Kq171 (ninS ne_ob4_ob19 (ninS ne_ob4_ob10 nin0))
    have f179 : Fld Z T171.heap ob4 "corro/core/Order" "previous" "Lcorro/core/Order;" .null := p155_5.keep Kq171 (ninS ne_ob4_ob19 (ninS ne_ob4_ob10 nin0))
    have f180 : Fld Z T171.heap ob4 "corro/core/Order" "next" "Lcorro/core/Order;" (.ref ob10) := p155_6.keep Kq171 (ninS ne_ob4_ob19 (ninS ne_ob4_ob10 nin0))
    have f181 : Exa Z T171.heap ob10 "corro/core/Order" := p155_0.keep Kq171
    obtain ⟨cq182, kq182, q182a, q182b, q182c⟩ := isOf hZ rfl f177
    obtain ⟨_, _, ⟨T182, zL182, zk182, zn182⟩, -, X182, ⟨Lc182, hQ182, l182, y182, z182⟩, st182⟩ := X171.virtualBack hx (y := (⟨"corro/core/Order", "leave", "()V"⟩ : MethodName)) (z := (⟨"corro/core/Order", "leave", "()V"⟩ : MethodName)) hown (mvT hZ (wd_42 hw)) (mvT hZ (wd_43 hw)) (notFace_of_selects (args := #[]) (mvT hZ (wd_45 hw))) (mvT hZ (wd_45 hw)) (mvT hZ (wd_44 hw)) (by decide) (backOf (W := 0) (rmV01 l Z a0 hw [] ob4 (.ref ob1) ob10 (.ref ob1) (.ref ob4) (.ref ob19) T171.heap n0 Zp171 f177 f178 f179 f180 g_ob4 f181 p171_4 p171_5 p171_6 g_ob10 ne_ob4_ob10) hZ (wd_46 hw) (wd_13 hw) (by decide) (by decide)) q182a q182c (g := (mkF m 207 #[.val (.int p0), .val (.int p1), .val (.int (3 : Int32)), .val (.int (0 : Int32)), .val (.ref ob1), .val (.ref ob3), .val (.ref ob4), .val .null, .val (.ref ob10), .val .null, .val (.ref ob19), .unset] [(.ref ob4)])) rfl (by rw [hml]; rfl) (Steps.refl _) (argsL := []) (rest := []) (lenOf pd_0 rfl) rfl (by show 2 * 0 + _ ≤ _; exact Nat.le_of_eq rfl) (hb hby at_207) (fun _ _ => ⟨rfl, rfl, (by decide : 5 + 0 ≤ _), (by decide : 41 + 0 ≤ _)⟩)
    dsimp only [Pt.U, Pt.locs, Pt.cells, Pt.slots] at X182 l182 y182 z182 st182 hQ182
    subst l182 y182 z182
    obtain ⟨rfl, N182q, Kq182, p182_0, p182_1, p182_2, p182_3, p182_4, p182_5, p182_6⟩ := hQ182
    have N182 := Fr.app N171 N182q
    refine own_on st182 ?_
    have Zp182 : n0 ≤ T182.heap.size := Nat.le_trans Zp171 Kq182.1
    show own_G p e below Φ T182 (mkF m 210 #[.val (.int p0), .val (.int p1), .val (.int (3 : Int32)), .val (.int (0 : Int32)), .val (.ref ob1), .val (.ref ob3), .val (.ref ob4), .val .null, .val (.ref ob10), .val .null, .val (.ref ob19), .unset] [])
    refine own_go (fun _ => XS.aload X182.here hx rfl (hb hby at_210) rfl rfl) ?_
    show own_G p e below Φ T182 (mkF m 212 #[.val (.int p0), .val (.int p1), .val (.int (3 : Int32)), .val (.int (0 : Int32)), .val (.ref ob1), .val (.ref ob3), .val (.ref ob4), .val .null, .val (.ref ob10), .val .null, .val (.ref ob19), .unset] [(.ref ob4)])
    obtain ⟨cq183, kq183, q183a, q183b, q183c⟩ := isOf hZ rfl p182_0
    obtain ⟨_, _, ⟨T183, zL183, zk183, zn183⟩, -, X183, ⟨Lc183, hQ183, l183, y183, z183⟩, st183⟩ := X182.virtualBack hx (y := (⟨"corro/core/Order", "level", "()Lcorro/core/Level;"⟩ : MethodName)) (z := (⟨"corro/core/Order", "level", "()Lcorro/core/Level;"⟩ : MethodName)) hown (mvT hZ (wd_47 hw)) (mvT hZ (wd_48 hw)) (notFace_of_selects (args := #[]) (mvT hZ (wd_50 hw))) (mvT hZ (wd_50 hw)) (mvT hZ (wd_49 hw)) (by decide) (backOf (W := 0) (rmGlevel l Z a0 hw [] ob4 .null T182.heap n0 Zp182 p182_1 rfl) hZ (wd_51 hw) (wd_13 hw) (by decide) (by decide)) q183a q183c (g := (mkF m 212 #[.val (.int p0), .val (.int p1), .val (.int (3 : Int32)), .val (.int (0 : Int32)), .val (.ref ob1), .val (.ref ob3), .val (.ref ob4), .val .null, .val (.ref ob10), .val .null, .val (.ref ob19), .unset] [(.ref ob4)])) rfl (by rw [hml]; rfl) (Steps.refl _) (argsL := []) (rest := []) (lenOf pd_3 rfl) rfl (by show 2 * 0 + _ ≤ _; exact Nat.le_of_eq rfl) (hb hby at_212) (fun _ _ => ⟨rfl, rfl, (by decide : 5 + 0 ≤ _), (by decide : 41 + 0 ≤ _)⟩)
    dsimp only [Pt.U, Pt.locs, Pt.cells, Pt.slots] at X183 l183 y183 z183 st183 hQ183
    subst l183 y183 z183
    obtain ⟨rfl, N183q, hs183⟩ := hQ183
    have N183 := Fr.app N182 N183q
    refine own_on st183 ?_
    show own_G p e below Φ T183 (mkF m 215 #[.val (.int p0), .val (.int p1), .val (.int (3 : Int32)), .val (.int (0 : Int32)), .val (.ref ob1), .val (.ref ob3), .val (.ref ob4), .val .null, .val (.ref ob10), .val .null, .val (.ref ob19), .unset] [.null])
    refine own_go (fun _ => XS.ifnonnullNo X183.here hx rfl (hb hby at_215) rfl) ?_
    show own_G p e below Φ T183 (mkF m 218 #[.val (.int p0), .val (.int p1), .val (.int (3 : Int32)), .val (.int (0 : Int32)), .val (.ref ob1), .val (.ref ob3), .val (.ref ob4), .val .null, .val (.ref ob10), .val .null, .val (.ref ob19), .unset] [])
    refine own_go (fun _ => XS.aload X183.here hx rfl (hb hby at_218) rfl rfl) ?_
    show own_G p e below Φ T183 (mkF m 220 #[.val (.int p0), .val (.int p1), .val (.int (3 : Int32)), .val (.int (0 : Int32)), .val (.ref ob1), .val (.ref ob3), .val (.ref ob4), .val .null, .val (.ref ob10), .val .null, .val (.ref ob19), .unset] [(.ref ob4)])
    obtain ⟨cq184, kq184, q184a, q184b, q184c⟩ := isOf hZ hs183 p182_0
    obtain ⟨_, _, ⟨T184, zL184, zk184, zn184⟩, -, X184, ⟨Lc184, hQ184, l184, y184, z184⟩, st184⟩ := X183.virtualBack hx (y := (⟨"corro/core/Order", "previous", "()Lcorro/core/Order;"⟩ : MethodName)) (z := (⟨"corro/core/Order", "previous", "()Lcorro/core/Order;"⟩ : MethodName)) hown (mvT hZ (wd_52 hw)) (mvT hZ (wd_53 hw)) (notFace_of_selects (args := #[]) (mvT hZ (wd_55 hw))) (mvT hZ (wd_55 hw)) (mvT hZ (wd_54 hw)) (by decide) (backOf (W := 0) (rmGprevious l Z a0 hw [] ob4 .null T182.heap n0 Zp182 p182_2 rfl) hZ (wd_56 hw) (wd_13 hw) (by decide) (by decide)) q184a q184c (g := (mkF m 220 #[.val (.int p0), .val (.int p1), .val (.int (3 : Int32)), .val (.int (0 : Int32)), .val (.ref ob1), .val (.ref ob3), .val (.ref ob4), .val .null, .val (.ref ob10), .val .null, .val (.ref ob19), .unset] [(.ref ob4)])) rfl (by rw [hml]; rfl) (Steps.refl _) (argsL := []) (rest := []) (lenOf pd_4 rfl) rfl (by show 2 * 0 + _ ≤ _; exact Nat.le_of_eq rfl) (hb hby at_220) (fun _ _ => ⟨rfl, hs183, (by decide : 5 + 0 ≤ _), (by decide : 41 + 0 ≤ _)⟩)
    dsimp only [Pt.U, Pt.locs, Pt.cells, Pt.slots] at X184 l184 y184 z184 st184 hQ184
    subst l184 y184 z184
    obtain ⟨rfl, N184q, hs184⟩ := hQ184
    have N184 := Fr.app N183 N184q
    refine own_on st184 ?_
    show own_G p e below Φ T184 (mkF m 223 #[.val (.int p0), .val (.int p1), .val (.int (3 : Int32)), .val (.int (0 : Int32)), .val (.ref ob1), .val (.ref ob3), .val (.ref ob4), .val .null, .val (.ref ob10), .val .null, .val (.ref ob19), .unset] [.null])
    refine own_go (fun _ => XS.ifnonnullNo X184.here hx rfl (hb hby at_223) rfl) ?_
    show own_G p e below Φ T184 (mkF m 226 #[.val (.int p0), .val (.int p1), .val (.int (3 : Int32)), .val (.int (0 : Int32)), .val (.ref ob1), .val (.ref ob3), .val (.ref ob4), .val .null, .val (.ref ob10), .val .null, .val (.ref ob19), .unset] [])
    refine own_go (fun _ => XS.aload X184.here hx rfl (hb hby at_226) rfl rfl) ?_
    show own_G p e below Φ T184 (mkF m 228 #[.val (.int p0), .val (.int p1), .val (.int (3 : Int32)), .val (.int (0 : Int32)), .val (.ref ob1), .val (.ref ob3), .val (.ref ob4), .val .null, .val (.ref ob10), .val .null, .val (.ref ob19), .unset] [(.ref ob4)])
    obtain ⟨cq185, kq185, q185a, q185b, q185c⟩ := isOf hZ hs184 p182_0
    obtain ⟨_, _, ⟨T185, zL185, zk185, zn185⟩, -, X185, ⟨Lc185, hQ185, l185, y185, z185⟩, st185⟩ := X184.virtualBack hx (y := (⟨"corro/core/Order", "next", "()Lcorro/core/Order;"⟩ : MethodName)) (z := (⟨"corro/core/Order", "next", "()Lcorro/core/Order;"⟩ : MethodName)) hown (mvT hZ (wd_57 hw)) (mvT hZ (wd_58 hw)) (notFace_of_selects (args := #[]) (mvT hZ (wd_60 hw))) (mvT hZ (wd_60 hw)) (mvT hZ (wd_59 hw)) (by decide) (backOf (W := 0) (rmGnext l Z a0 hw [] ob4 .null T182.heap n0 Zp182 p182_3 rfl) hZ (wd_61 hw) (wd_13 hw) (by decide) (by decide)) q185a q185c (g := (mkF m 228 #[.val (.int p0), .val (.int p1), .val (.int (3 : Int32)), .val (.int (0 : Int32)), .val (.ref ob1), .val (.ref ob3), .val (.ref ob4), .val .null, .val (.ref ob10), .val .null, .val (.ref ob19), .unset] [(.ref ob4)])) rfl (by rw [hml]; rfl) (Steps.refl _) (argsL := []) (rest := []) (lenOf pd_4 rfl) rfl (by show 2 * 0 + _ ≤ _; exact Nat.le_of_eq rfl) (hb hby at_228) (fun _ _ => ⟨rfl, hs184, (by decide : 5 + 0 ≤ _), (by decide : 41 + 0 ≤ _)⟩)
    dsimp only [Pt.U, Pt.locs, Pt.cells, Pt.slots] at X185 l185 y185 z185 st185 hQ185
    subst l185 y185 z185
    obtain ⟨rfl, N185q, hs185⟩ := hQ185
    have N185 := Fr.app N184 N185q
    refine own_on st185 ?_
    show own_G p e below Φ T185 (mkF m 231 #[.val (.int p0), .val (.int p1), .val (.int (3 : Int32)), .val (.int (0 : Int32)), .val (.ref ob1), .val (.ref ob3), .val (.ref ob4), .val .null, .val (.ref ob10), .val .null, .val (.ref ob19), .unset] [.null])
    refine own_go (fun _ => XS.ifnonnullNo X185.here hx rfl (hb hby at_231) rfl) ?_
    show own_G p e below Φ T185 (mkF m 234 #[.val (.int p0), .val (.int p1), .val (.int (3 : Int32)), .val (.int (0 : Int32)), .val (.ref ob1), .val (.ref ob3), .val (.ref ob4), .val .null, .val (.ref ob10), .val .null, .val (.ref ob19), .unset] [])
    refine own_go (fun _ => XS.iconst X185.here hx rfl (hb hby at_234)) ?_
    show own_G p e below Φ T185 (mkF m 235 #[.val (.int p0), .val (.int p1), .val (.int (3 : Int32)), .val (.int (0 : Int32)), .val (.ref ob1), .val (.ref ob3), .val (.ref ob4), .val .null, .val (.ref ob10), .val .null, .val (.ref ob19), .unset] [(.int (1 : Int32))])
    refine own_go (fun _ => XS.goto X185.here hx rfl (pc0 := 235) (pc' := 239) rfl (hb hby at_235) (by decide) (by decide)) ?_
    show own_G p e below Φ T185 (mkF m 239 #[.val (.int p0), .val (.int p1), .val (.int (3 : Int32)), .val (.int (0 : Int32)), .val (.ref ob1), .val (.ref ob3), .val (.ref ob4), .val .null, .val (.ref ob10), .val .null, .val (.ref ob19), .unset] [(.int (1 : Int32))])
    refine own_go (fun _ => XS.istore X185.here hx rfl (hb hby at_239) rfl (l' := #[.val (.int p0), .val (.int p1), .val (.int (3 : Int32)), .val (.int (0 : Int32)), .val (.ref ob1), .val (.ref ob3), .val (.ref ob4), .val .null, .val (.ref ob10), .val .null, .val (.ref ob19), .val (.int (1 : Int32))]) rfl) ?_
    show own_G p e below Φ T185 (mkF m 241 #[.val (.int p0), .val (.int p1), .val (.int (3 : Int32)), .val (.int (0 : Int32)), .val (.ref ob1), .val (.ref ob3), .val (.ref ob4), .val .null, .val (.ref ob10), .val .null, .val (.ref ob19), .val (.int (1 : Int32))] [])
    refine own_go (fun _ => XS.aload X185.here hx rfl (hb hby at_241) rfl rfl) ?_
    show own_G p e below Φ T185 (mkF m 243 #[.val (.int p0), .val (.int p1), .val (.int (3 : Int32)), .val (.int (0 : Int32)), .val (.ref ob1), .val (.ref ob3), .val (.ref ob4), .val .null, .val (.ref ob10), .val .null, .val (.ref ob19), .val (.int (1 : Int32))] [.null])
    refine own_go (fun _ => XS.ifnullYes X185.here hx rfl (pc0 := 243) (pc' := 288) rfl (hb hby at_243) rfl (by decide) (by decide)) ?_
    show own_G p e below Φ T185 (mkF m 288 #[.val (.int p0), .val (.int p1), .val (.int (3 : Int32)), .val (.int (0 : Int32)), .val (.ref ob1), .val (.ref ob3), .val (.ref ob4), .val .null, .val (.ref ob10), .val .null, .val (.ref ob19), .val (.int (1 : Int32))] [])
    refine own_go (fun _ => XS.aload X185.here hx rfl (hb hby at_288) rfl rfl) ?_
    show own_G p e below Φ T185 (mkF m 290 #[.val (.int p0), .val (.int p1), .val (.int (3 : Int32)), .val (.int (0 : Int32)), .val (.ref ob1), .val (.ref ob3), .val (.ref ob4), .val .null, .val (.ref ob10), .val .null, .val (.ref ob19), .val (.int (1 : Int32))] [(.ref ob10)])
    refine own_go (fun _ => XS.ifnullNo X185.here hx rfl (hb hby at_290) rfl) ?_
    show own_G p e below Φ T185 (mkF m 293 #[.val (.int p0), .val (.int p1), .val (.int (3 : Int32)), .val (.int (0 : Int32)), .val (.ref ob1), .val (.ref ob3), .val (.ref ob4), .val .null, .val (.ref ob10), .val .null, .val (.ref ob19), .val (.int (1 : Int32))] [])
    refine own_go (fun _ => XS.iload X185.here hx rfl (hb hby at_293) rfl) ?_
    show own_G p e below Φ T185 (mkF m 295 #[.val (.int p0), .val (.int p1), .val (.int (3 : Int32)), .val (.int (0 : Int32)), .val (.ref ob1), .val (.ref ob3), .val (.ref ob4), .val .null, .val (.ref ob10), .val .null, .val (.ref ob19), .val (.int (1 : Int32))] [(.int (1 : Int32))])
    refine own_go (fun _ => XS.ifNo X185.here hx rfl (hb hby at_295) rfl (Jvm.Free.XT.i0_eq_f (by decide : ¬ ((1 : Int32) = (0 : Int32))))) ?_
    show own_G p e below Φ T185 (mkF m 298 #[.val (.int p0), .val (.int p1), .val (.int (3 : Int32)), .val (.int (0 : Int32)), .val (.ref ob1), .val (.ref ob3), .val (.ref ob4), .val .null, .val (.ref ob10), .val .null, .val (.ref ob19), .val (.int (1 : Int32))] [])
    refine own_go (fun _ => XS.aload X185.here hx rfl (hb hby at_298) rfl rfl) ?_
    show own_G p e below Φ T185 (mkF m 300 #[.val (.int p0), .val (.int p1), .val (.int (3 : Int32)), .val (.int (0 : Int32)), .val (.ref ob1), .val (.ref ob3), .val (.ref ob4), .val .null, .val (.ref ob10), .val .null, .val (.ref ob19), .val (.int (1 : Int32))] [(.ref ob10)])
    have f187 : Exa Z T182.heap ob10 "corro/core/Order" := f181.keep Kq182
    obtain ⟨cq186, kq186, q186a, q186b, q186c⟩ := isOf hZ hs185 f187
    obtain ⟨_, _, ⟨T186, zL186, zk186, zn186⟩, -, X186, ⟨Lc186, hQ186, l186, y186, z186⟩, st186⟩ := X185.virtualBack hx (y := (⟨"corro/core/Order", "previous", "()Lcorro/core/Order;"⟩ : MethodName)) (z := (⟨"corro/core/Order", "previous", "()Lcorro/core/Order;"⟩ : MethodName)) hown (mvT hZ (wd_52 hw)) (mvT hZ (wd_53 hw)) (notFace_of_selects (args := #[]) (mvT hZ (wd_55 hw))) (mvT hZ (wd_55 hw)) (mvT hZ (wd_54 hw)) (by decide) (backOf (W := 0) (rmGprevious l Z a0 hw [] ob10 .null T182.heap n0 Zp182 p182_5 rfl) hZ (wd_56 hw) (wd_13 hw) (by decide) (by decide)) q186a q186c (g := (mkF m 300 #[.val (.int p0), .val (.int p1), .val (.int (3 : Int32)), .val (.int (0 : Int32)), .val (.ref ob1), .val (.ref ob3), .val (.ref ob4), .val .null, .val (.ref ob10), .val .null, .val (.ref ob19), .val (.int (1 : Int32))] [(.ref ob10)])) rfl (by rw [hml]; rfl) (Steps.refl _) (argsL := []) (rest := []) (lenOf pd_4 rfl) rfl (by show 2 * 0 + _ ≤ _; exact Nat.le_of_eq rfl) (hb hby at_300) (fun _ _ => ⟨rfl, hs185, (by decide : 5 + 0 ≤ _), (by decide : 41 + 0 ≤ _)⟩)
    dsimp only [Pt.U, Pt.locs, Pt.cells, Pt.slots] at X186 l186 y186 z186 st186 hQ186
    subst l186 y186 z186
    obtain ⟨rfl, N186q, hs186⟩ := hQ186
    have N186 := Fr.app N185 N186q
    refine own_on st186 ?_
    show own_G p e below Φ T186 (mkF m 303 #[.val (.int p0), .val (.int p1), .val (.int (3 : Int32)), .val (.int (0 : Int32)), .val (.ref ob1), .val (.ref ob3), .val (.ref ob4), .val .null, .val (.ref ob10), .val .null, .val (.ref ob19), .val (.int (1 : Int32))] [.null])
    refine own_go (fun _ => XS.aload X186.here hx rfl (hb hby at_303) rfl rfl) ?_
    show own_G p e below Φ T186 (mkF m 305 #[.val (.int p0), .val (.int p1), .val (.int (3 : Int32)), .val (.int (0 : Int32)), .val (.ref ob1), .val (.ref ob3), .val (.ref ob4), .val .null, .val (.ref ob10), .val .null, .val (.ref ob19), .val (.int (1 : Int32))] [.null, .null])
    refine own_go (fun _ => Jvm.RoadKit.acmp (g := (mkF m 305 #[.val (.int p0), .val (.int p1), .val (.int (3 : Int32)), .val (.int (0 : Int32)), .val (.ref ob1), .val (.ref ob3), .val (.ref ob4), .val .null, .val (.ref ob10), .val .null, .val (.ref ob19), .val (.int (1 : Int32))] [.null, .null])) X186 hx rfl rfl rfl (pc0 := 305) (pc' := 308) (same := true) rfl (hb hby at_305) rfl (decide_eq_true rfl) (by decide) (by decide)) ?_
    show own_G p e below Φ T186 (mkF m 308 #[.val (.int p0), .val (.int p1), .val (.int (3 : Int32)), .val (.int (0 : Int32)), .val (.ref ob1), .val (.ref ob3), .val (.ref ob4), .val .null, .val (.ref ob10), .val .null, .val (.ref ob19), .val (.int (1 : Int32))] [])
    refine own_go (fun _ => XS.aload X186.here hx rfl (hb hby at_308) rfl rfl) ?_
    show own_G p e below Φ T186 (mkF m 310 #[.val (.int p0), .val (.int p1), .val (.int (3 : Int32)), .val (.int (0 : Int32)), .val (.ref ob1), .val (.ref ob3), .val (.ref ob4), .val .null, .val (.ref ob10), .val .null, .val (.ref ob19), .val (.int (1 : Int32))] [(.ref ob10)])
    obtain ⟨cq188, kq188, q188a, q188b, q188c⟩ := isOf hZ hs186 f187
    obtain ⟨_, _, ⟨T188, zL188, zk188, zn188⟩, -, X188, ⟨Lc188, hQ188, l188, y188, z188⟩, st188⟩ := X186.virtualBack hx (y := (⟨"corro/core/Order", "next", "()Lcorro/core/Order;"⟩ : MethodName)) (z := (⟨"corro/core/Order", "next", "()Lcorro/core/Order;"⟩ : MethodName)) hown (mvT hZ (wd_57 hw)) (mvT hZ (wd_58 hw)) (notFace_of_selects (args := #[]) (mvT hZ (wd_60 hw))) (mvT hZ (wd_60 hw)) (mvT hZ (wd_59 hw)) (by decide) (backOf (W := 0) (rmGnext l Z a0 hw [] ob10 (.ref ob19) T182.heap n0 Zp182 p182_6 rfl) hZ (wd_61 hw) (wd_13 hw) (by decide) (by decide)) q188a q188c (g := (mkF m 310 #[.val (.int p0), .val (.int p1), .val (.int (3 : Int32)), .val (.int (0 : Int32)), .val (.ref ob1), .val (.ref ob3), .val (.ref ob4), .val .null, .val (.ref ob10), .val .null, .val (.ref ob19), .val (.int (1 : Int32))] [(.ref ob10)])) rfl (by rw [hml]; rfl) (Steps.refl _) (argsL := []) (rest := []) (lenOf pd_4 rfl) rfl (by show 2 * 0 + _ ≤ _; exact Nat.le_of_eq rfl) (hb hby at_310) (fun _ _ => ⟨rfl, hs186, (by decide : 5 + 0 ≤ _), (by decide : 41 + 0 ≤ _)⟩)
    dsimp only [Pt.U, Pt.locs, Pt.cells, Pt.slots] at X188 l188 y188 z188 st188 hQ188
    subst l188 y188 z188
    obtain ⟨rfl, N188q, hs188⟩ := hQ188
    have N188 := Fr.app N186 N188q
    refine own_on st188 ?_
    show own_G p e below Φ T188 (mkF m 313 #[.val (.int p0), .val (.int p1), .val (.int (3 : Int32)), .val (.int (0 : Int32)), .val (.ref ob1), .val (.ref ob3), .val (.ref ob4), .val .null, .val (.ref ob10), .val .null, .val (.ref ob19), .val (.int (1 : Int32))] [(.ref ob19)])
    refine own_go (fun _ => XS.aload X188.here hx rfl (hb hby at_313) rfl rfl) ?_
    show own_G p e below Φ T188 (mkF m 315 #[.val (.int p0), .val (.int p1), .val (.int (3 : Int32)), .val (.int (0 : Int32)), .val (.ref ob1), .val (.ref ob3), .val (.ref ob4), .val .null, .val (.ref ob10), .val .null, .val (.ref ob19), .val (.int (1 : Int32))] [(.ref ob19), (.ref ob19)])
    refine own_go (fun _ => Jvm.RoadKit.acmp (g := (mkF m 315 #[.val (.int p0), .val (.int p1), .val (.int (3 : Int32)), .val (.int (0 : Int32)), .val (.ref ob1), .val (.ref ob3), .val (.ref ob4), .val .null, .val (.ref ob10), .val .null, .val (.ref ob19), .val (.int (1 : Int32))] [(.ref ob19), (.ref ob19)])) X188 hx rfl rfl rfl (pc0 := 315) (pc' := 318) (same := true) rfl (hb hby at_315) rfl (decide_eq_true rfl) (by decide) (by decide)) ?_
    show own_G p e below Φ T188 (mkF m 318 #[.val (.int p0), .val (.int p1), .val (.int (3 : Int32)), .val (.int (0 : Int32)), .val (.ref ob1), .val (.ref ob3), .val (.ref ob4), .val .null, .val (.ref ob10), .val .null, .val (.ref ob19), .val (.int (1 : Int32))] [])
    refine own_go (fun _ => XS.aload X188.here hx rfl (hb hby at_318) rfl rfl) ?_
    show own_G p e below Φ T188 (mkF m 320 #[.val (.int p0), .val (.int p1), .val (.int (3 : Int32)), .val (.int (0 : Int32)), .val (.ref ob1), .val (.ref ob3), .val (.ref ob4), .val .null, .val (.ref ob10), .val .null, .val (.ref ob19), .val (.int (1 : Int32))] [(.ref ob10)])
    obtain ⟨cq189, kq189, q189a, q189b, q189c⟩ := isOf hZ hs188 f187
    obtain ⟨_, _, ⟨T189, zL189, zk189, zn189⟩, -, X189, ⟨Lc189, hQ189, l189, y189, z189⟩, st189⟩ := X188.virtualBack hx (y := (⟨"corro/core/Order", "level", "()Lcorro/core/Level;"⟩ : MethodName)) (z := (⟨"corro/core/Order", "level", "()Lcorro/core/Level;"⟩ : MethodName)) hown (mvT hZ (wd_47 hw)) (mvT hZ (wd_48 hw)) (notFace_of_selects (args := #[]) (mvT hZ (wd_50 hw))) (mvT hZ (wd_50 hw)) (mvT hZ (wd_49 hw)) (by decide) (backOf (W := 0) (rmGlevel l Z a0 hw [] ob10 (.ref ob1) T182.heap n0 Zp182 p182_4 rfl) hZ (wd_51 hw) (wd_13 hw) (by decide) (by decide)) q189a q189c (g := (mkF m 320 #[.val (.int p0), .val (.int p1), .val (.int (3 : Int32)), .val (.int (0 : Int32)), .val (.ref ob1), .val (.ref ob3), .val (.ref ob4), .val .null, .val (.ref ob10), .val .null, .val (.ref ob19), .val (.int (1 : Int32))] [(.ref ob10)])) rfl (by rw [hml]; rfl) (Steps.refl _) (argsL := []) (rest := []) (lenOf pd_3 rfl) rfl (by show 2 * 0 + _ ≤ _; exact Nat.le_of_eq rfl) (hb hby at_320) (fun _ _ => ⟨rfl, hs188, (by decide : 5 + 0 ≤ _), (by decide : 41 + 0 ≤ _)⟩)
    dsimp only [Pt.U, Pt.locs, Pt.cells, Pt.slots] at X189 l189 y189 z189 st189 hQ189
    subst l189 y189 z189
    obtain ⟨rfl, N189q, hs189⟩ := hQ189
    have N189 := Fr.app N188 N189q
    refine own_on st189 ?_
    show own_G p e below Φ T189 (mkF m 323 #[.val (.int p0), .val (.int p1), .val (.int (3 : Int32)), .val (.int (0 : Int32)), .val (.ref ob1), .val (.ref ob3), .val (.ref ob4), .val .null, .val (.ref ob10), .val .null, .val (.ref ob19), .val (.int (1 : Int32))] [(.ref ob1)])
    refine own_go (fun _ => XS.aload X189.here hx rfl (hb hby at_323) rfl rfl) ?_
    show own_G p e below Φ T189 (mkF m 325 #[.val (.int p0), .val (.int p1), .val (.int (3 : Int32)), .val (.int (0 : Int32)), .val (.ref ob1), .val (.ref ob3), .val (.ref ob4), .val .null, .val (.ref ob10), .val .null, .val (.ref ob19), .val (.int (1 : Int32))] [(.ref ob1), (.ref ob1)])
    refine own_go (fun _ => Jvm.RoadKit.acmp (g := (mkF m 325 #[.val (.int p0), .val (.int p1), .val (.int (3 : Int32)), .val (.int (0 : Int32)), .val (.ref ob1), .val (.ref ob3), .val (.ref ob4), .val .null, .val (.ref ob10), .val .null, .val (.ref ob19), .val (.int (1 : Int32))] [(.ref ob1), (.ref ob1)])) X189 hx rfl rfl rfl (pc0 := 325) (pc' := 328) (same := true) rfl (hb hby at_325) rfl (decide_eq_true rfl) (by decide) (by decide)) ?_
    show own_G p e below Φ T189 (mkF m 328 #[.val (.int p0), .val (.int p1), .val (.int (3 : Int32)), .val (.int (0 : Int32)), .val (.ref ob1), .val (.ref ob3), .val (.ref ob4), .val .null, .val (.ref ob10), .val .null, .val (.ref ob19), .val (.int (1 : Int32))] [])
    refine own_go (fun _ => XS.iconst X189.here hx rfl (hb hby at_328)) ?_
    show own_G p e below Φ T189 (mkF m 329 #[.val (.int p0), .val (.int p1), .val (.int (3 : Int32)), .val (.int (0 : Int32)), .val (.ref ob1), .val (.ref ob3), .val (.ref ob4), .val .null, .val (.ref ob10), .val .null, .val (.ref ob19), .val (.int (1 : Int32))] [(.int (1 : Int32))])
    refine own_go (fun _ => XS.goto X189.here hx rfl (pc0 := 329) (pc' := 333) rfl (hb hby at_329) (by decide) (by decide)) ?_
    show own_G p e below Φ T189 (mkF m 333 #[.val (.int p0), .val (.int p1), .val (.int (3 : Int32)), .val (.int (0 : Int32)), .val (.ref ob1), .val (.ref ob3), .val (.ref ob4), .val .null, .val (.ref ob10), .val .null, .val (.ref ob19), .val (.int (1 : Int32))] [(.int (1 : Int32))])
    refine own_go (fun _ => XS.istore X189.here hx rfl (hb hby at_333) rfl (l' := #[.val (.int p0), .val (.int p1), .val (.int (3 : Int32)), .val (.int (0 : Int32)), .val (.ref ob1), .val (.ref ob3), .val (.ref ob4), .val .null, .val (.ref ob10), .val .null, .val (.ref ob19), .val (.int (1 : Int32))]) rfl) ?_
    show own_G p e below Φ T189 (mkF m 335 #[.val (.int p0), .val (.int p1), .val (.int (3 : Int32)), .val (.int (0 : Int32)), .val (.ref ob1), .val (.ref ob3), .val (.ref ob4), .val .null, .val (.ref ob10), .val .null, .val (.ref ob19), .val (.int (1 : Int32))] [])
    refine own_go (fun _ => XS.iload X189.here hx rfl (hb hby at_335) rfl) ?_
    show own_G p e below Φ T189 (mkF m 337 #[.val (.int p0), .val (.int p1), .val (.int (3 : Int32)), .val (.int (0 : Int32)), .val (.ref ob1), .val (.ref ob3), .val (.ref ob4), .val .null, .val (.ref ob10), .val .null, .val (.ref ob19), .val (.int (1 : Int32))] [(.int (1 : Int32))])
    rw [hΦ]
    refine own_ret X189 (v := some (.int (1 : Int32))) (fun h => by rw [Bd.returns] at h; cases h) (BodyLoose.notSynchronized Bd) (fun fs hr => retN X189 hx (t := .boolean) Bd.returns (by simp) (hb hby at_337) hr) ?_ (by decide) (by decide)
    rw [hs189]
    exact ⟨rfl, N189⟩
  · show own_G p e below Φ T56 (mkF m 92 #[.val (.int p0), .val (.int p1), .val (.int (3 : Int32)), .val (.int (1 : Int32)), .val (.ref ob1), .val (.ref ob3), .unset, .unset, .unset, .unset, .unset, .unset] [])
    refine own_go (fun _ => XS.iloadN X56.here hx rfl (hb hby at_92) rfl) ?_
    show own_G p e below Φ T56 (mkF m 93 #[.val (.int p0), .val (.int p1), .val (.int (3 : Int32)), .val (.int (1 : Int32)), .val (.ref ob1), .val (.ref ob3), .unset, .unset, .unset, .unset, .unset, .unset] [(.int (3 : Int32))])
    refine own_go (fun _ => XS.iconst X56.here hx rfl (hb hby at_93)) ?_
    show own_G p e below Φ T56 (mkF m 94 #[.val (.int p0), .val (.int p1), .val (.int (3 : Int32)), .val (.int (1 : Int32)), .val (.ref ob1), .val (.ref ob3), .unset, .unset, .unset, .unset, .unset, .unset] [(.int (1 : Int32)), (.int (3 : Int32))])
    refine own_go (fun _ => XS.icmpNo X56.here hx rfl (hb hby at_94) rfl (Jvm.Free.XT.ii_le_f (by decide : ((1 : Int32) < (3 : Int32))))) ?_
    show own_G p e below Φ T56 (mkF m 97 #[.val (.int p0), .val (.int p1), .val (.int (3 : Int32)), .val (.int (1 : Int32)), .val (.ref ob1), .val (.ref ob3), .unset, .unset, .unset, .unset, .unset, .unset] [])
    refine own_go (fun _ => XS.aload X56.here hx rfl (hb hby at_97) rfl rfl) ?_
    show own_G p e below Φ T56 (mkF m 99 #[.val (.int p0), .val (.int p1), .val (.int (3 : Int32)), .val (.int (1 : Int32)), .val (.ref ob1), .val (.ref ob3), .unset, .unset, .unset, .unset, .unset, .unset] [(.ref ob3)])
    refine own_go (fun _ => XS.iconst X56.here hx rfl (hb hby at_99)) ?_
    show own_G p e below Φ T56 (mkF m 100 #[.val (.int p0), .val (.int p1), .val (.int (3 : Int32)), .val (.int (1 : Int32)), .val (.ref ob1), .val (.ref ob3), .unset, .unset, .unset, .unset, .unset, .unset] [(.int (1 : Int32)), (.ref ob3)])
    have f190 : Arv Z T56.heap ob3 ka3 (.object "corro/core/Order") (3 : Int32) [(.ref ob4), (.ref ob10), (.ref ob19)] .null := V30.keep Kq56 (ninS ne_ob3_ob4 nin0)
    obtain ⟨cl191, Ar191, q191, S191, M191, H191, G191⟩ := id f190
    have hin191 : ¬ ((1 : Int32) < 0 ∨ cl191.slots.size ≤ ((1 : Int32)).toNatClampNeg) := inb_of S191 ⟨by decide, by decide⟩
    refine own_go (fun _ => X56.aaload hx (j := (1 : Int32)) (v := (.ref ob10)) Ar191.1 (State.isArrayOf_alike hZ.alike Ar191.2.1) rfl Ar191.2.2 hin191 (H191.at hin191 rfl) (g := (mkF m 100 #[.val (.int p0), .val (.int p1), .val (.int (3 : Int32)), .val (.int (1 : Int32)), .val (.ref ob1), .val (.ref ob3), .unset, .unset, .unset, .unset, .unset, .unset] [(.int (1 : Int32)), (.ref ob3)])) rfl rfl (hb hby at_100) _) ?_
    show own_G p e below Φ T56 (mkF m 101 #[.val (.int p0), .val (.int p1), .val (.int (3 : Int32)), .val (.int (1 : Int32)), .val (.ref ob1), .val (.ref ob3), .unset, .unset, .unset, .unset, .unset, .unset] [(.ref ob10)])
    refine own_go (fun _ => XS.aload X56.here hx rfl (hb hby at_101) rfl rfl) ?_
    show own_G p e below Φ T56 (mkF m 103 #[.val (.int p0), .val (.int p1), .val (.int (3 : Int32)), .val (.int (1 : Int32)), .val (.ref ob1), .val (.ref ob3), .unset, .unset, .unset, .unset, .unset, .unset] [(.ref ob1), (.ref ob10)])
    refine own_go (fun _ => XS.aload X56.here hx rfl (hb hby at_103) rfl rfl) ?_
    show own_G p e below Φ T56 (mkF m 105 #[.val (.int p0), .val (.int p1), .val (.int (3 : Int32)), .val (.int (1 : Int32)), .val (.ref ob1), .val (.ref ob3), .unset, .unset, .unset, .unset, .unset, .unset] [(.ref ob3), (.ref ob1), (.ref ob10)])
    refine own_go (fun _ => XS.iconst X56.here hx rfl (hb hby at_105)) ?_
    show own_G p e below Φ T56 (mkF m 106 #[.val (.int p0), .val (.int p1), .val (.int (3 : Int32)), .val (.int (1 : Int32)), .val (.ref ob1), .val (.ref ob3), .unset, .unset, .unset, .unset, .unset, .unset] [(.int (0 : Int32)), (.ref ob3), (.ref ob1), (.ref ob10)])
    obtain ⟨cl192, Ar192, q192, S192, M192, H192, G192⟩ := id f190
    have hin192 : ¬ ((0 : Int32) < 0 ∨ cl192.slots.size ≤ ((0 : Int32)).toNatClampNeg) := inb_of S192 ⟨by decide, by decide⟩
    refine own_go (fun _ => X56.aaload hx (j := (0 : Int32)) (v := (.ref ob4)) Ar192.1 (State.isArrayOf_alike hZ.alike Ar192.2.1) rfl Ar192.2.2 hin192 (H192.at hin192 rfl) (g := (mkF m 106 #[.val (.int p0), .val (.int p1), .val (.int (3 : Int32)), .val (.int (1 : Int32)), .val (.ref ob1), .val (.ref ob3), .unset, .unset, .unset, .unset, .unset, .unset] [(.int (0 : Int32)), (.ref ob3), (.ref ob1), (.ref ob10)])) rfl rfl (hb hby at_106) _) ?_
    show own_G p e below Φ T56 (mkF m 107 #[.val (.int p0), .val (.int p1), .val (.int (3 : Int32)), .val (.int (1 : Int32)), .val (.ref ob1), .val (.ref ob3), .unset, .unset, .unset, .unset, .unset, .unset] [(.ref ob4), (.ref ob1), (.ref ob10)])
    have f193 : Exa Z h19 ob10 "corro/core/Order" := f26.ext E19
    have f194 : Exa Z T27.heap ob10 "corro/core/Order" := f193.keep Kq27
    have f195 : Exa Z h30 ob10 "corro/core/Order" := f194.wr W30
    have f196 : Exa Z T56.heap ob10 "corro/core/Order" := f195.keep Kq56
    have f197 : Fld Z h18 ob10 "corro/core/Order" "level" "Lcorro/core/Level;" .null := p15_1.other W18 (Or.inl (Ne.symm ne_ob3_ob10))
    have f198 : Fld Z h19 ob10 "corro/core/Order" "level" "Lcorro/core/Level;" .null := f197.ext E19
    have f199 : Fld Z T27.heap ob10 "corro/core/Order" "level" "Lcorro/core/Level;" .null := f198.keep Kq27 (ninS ne_ob10_ob19 nin0)
    have f200 : Fld Z h30 ob10 "corro/core/Order" "level" "Lcorro/core/Level;" .null := f199.other W30 (Or.inl (Ne.symm ne_ob3_ob10))
    have f201 : Fld Z T56.heap ob10 "corro/core/Order" "level" "Lcorro/core/Level;" .null := f200.keep Kq56 (ninS (Ne.symm ne_ob4_ob10) nin0)
    have f202 : Fld Z h18 ob10 "corro/core/Order" "previous" "Lcorro/core/Order;" .null := p15_2.other W18 (Or.inl (Ne.symm ne_ob3_ob10))
    have f203 : Fld Z h19 ob10 "corro/core/Order" "previous" "Lcorro/core/Order;" .null := f202.ext E19
    have f204 : Fld Z T27.heap ob10 "corro/core/Order" "previous" "Lcorro/core/Order;" .null := f203.keep Kq27 (ninS ne_ob10_ob19 nin0)
    have f205 : Fld Z h30 ob10 "corro/core/Order" "previous" "Lcorro/core/Order;" .null := f204.other W30 (Or.inl (Ne.symm ne_ob3_ob10))
    have f206 : Fld Z T56.heap ob10 "corro/core/Order" "previous" "Lcorro/core/Order;" .null := f205.keep Kq56 (ninS (Ne.symm ne_ob4_ob10) nin0)
    have f207 : Fld Z h18 ob10 "corro/core/Order" "next" "Lcorro/core/Order;" .null := p15_3.other W18 (Or.inl (Ne.symm ne_ob3_ob10))
    have f208 : Fld Z h19 ob10 "corro/core/Order" "next" "Lcorro/core/Order;" .null := f207.ext E19
    have f209 : Fld Z T27.heap ob10 "corro/core/Order" "next" "Lcorro/core/Order;" .null := f208.keep Kq27 (ninS ne_ob10_ob19 nin0)
    have f210 : Fld Z h30 ob10 "corro/core/Order" "next" "Lcorro/core/Order;" .null := f209.other W30 (Or.inl (Ne.symm ne_ob3_ob10))
    have f211 : Fld Z T56.heap ob10 "corro/core/Order" "next" "Lcorro/core/Order;" .null := f210.keep Kq56 (ninS (Ne.symm ne_ob4_ob10) nin0)
    obtain ⟨cq212, kq212, q212a, q212b, q212c⟩ := isOf hZ rfl f196
    obtain ⟨_, _, ⟨T212, zL212, zk212, zn212⟩, -, X212, ⟨Lc212, hQ212, l212, y212, z212⟩, st212⟩ := X56.virtualBack hx (y := (⟨"corro/core/Order", "join", "(Lcorro/core/Level;Lcorro/core/Order;)V"⟩ : MethodName)) (z := (⟨"corro/core/Order", "join", "(Lcorro/core/Level;Lcorro/core/Order;)V"⟩ : MethodName)) hown (mvT hZ (wd_31 hw)) (mvT hZ (wd_32 hw)) (notFace_of_selects (args := #[]) (mvT hZ (wd_34 hw))) (mvT hZ (wd_34 hw)) (mvT hZ (wd_33 hw)) (by decide) (backOf (W := 0) (rmJO l Z a0 hw [] ob10 ob1 ob4 .null .null .null (.ref ob1) .null .null T56.heap n0 Zp56 f196 p56_0 f201 f206 f211 p56_1 p56_2 p56_3 g_ob10 g_ob4 (Ne.symm ne_ob4_ob10)) hZ (wd_35 hw) (wd_13 hw) (by decide) (by decide)) q212a q212c (g := (mkF m 107 #[.val (.int p0), .val (.int p1), .val (.int (3 : Int32)), .val (.int (1 : Int32)), .val (.ref ob1), .val (.ref ob3), .unset, .unset, .unset, .unset, .unset, .unset] [(.ref ob4), (.ref ob1), (.ref ob10)])) rfl (by rw [hml]; rfl) (Steps.refl _) (argsL := [(.ref ob1), (.ref ob4)]) (rest := []) (lenOf pd_2 rfl) rfl (by show 2 * 0 + _ ≤ _; exact Nat.le_of_eq rfl) (hb hby at_107) (fun _ _ => ⟨rfl, rfl, (by decide : 5 + 0 ≤ _), (by decide : 41 + 0 ≤ _)⟩)
    dsimp only [Pt.U, Pt.locs, Pt.cells, Pt.slots] at X212 l212 y212 z212 st212 hQ212
    subst l212 y212 z212
    obtain ⟨rfl, N212q, Kq212, p212_0, p212_1, p212_2, p212_3, p212_4, p212_5, p212_6⟩ := hQ212
    have N212 := Fr.app N56 N212q
    refine own_on st212 ?_
    have Zp212 : n0 ≤ T212.heap.size := Nat.le_trans Zp56 Kq212.1
    show own_G p e below Φ T212 (mkF m 110 #[.val (.int p0), .val (.int p1), .val (.int (3 : Int32)), .val (.int (1 : Int32)), .val (.ref ob1), .val (.ref ob3), .unset, .unset, .unset, .unset, .unset, .unset] [])
    refine own_go (fun _ => XS.iloadN X212.here hx rfl (hb hby at_110) rfl) ?_
    show own_G p e below Φ T212 (mkF m 111 #[.val (.int p0), .val (.int p1), .val (.int (3 : Int32)), .val (.int (1 : Int32)), .val (.ref ob1), .val (.ref ob3), .unset, .unset, .unset, .unset, .unset, .unset] [(.int (3 : Int32))])
    refine own_go (fun _ => XS.iconst X212.here hx rfl (hb hby at_111)) ?_
    show own_G p e below Φ T212 (mkF m 112 #[.val (.int p0), .val (.int p1), .val (.int (3 : Int32)), .val (.int (1 : Int32)), .val (.ref ob1), .val (.ref ob3), .unset, .unset, .unset, .unset, .unset, .unset] [(.int (2 : Int32)), (.int (3 : Int32))])
    refine own_go (fun _ => XS.icmpNo X212.here hx rfl (hb hby at_112) rfl (Jvm.Free.XT.ii_le_f (by decide : ((2 : Int32) < (3 : Int32))))) ?_
    show own_G p e below Φ T212 (mkF m 115 #[.val (.int p0), .val (.int p1), .val (.int (3 : Int32)), .val (.int (1 : Int32)), .val (.ref ob1), .val (.ref ob3), .unset, .unset, .unset, .unset, .unset, .unset] [])
    refine own_go (fun _ => XS.aload X212.here hx rfl (hb hby at_115) rfl rfl) ?_
    show own_G p e below Φ T212 (mkF m 117 #[.val (.int p0), .val (.int p1), .val (.int (3 : Int32)), .val (.int (1 : Int32)), .val (.ref ob1), .val (.ref ob3), .unset, .unset, .unset, .unset, .unset, .unset] [(.ref ob3)])
    refine own_go (fun _ => XS.iconst X212.here hx rfl (hb hby at_117)) ?_
    show own_G p e below Φ T212 (mkF m 118 #[.val (.int p0), .val (.int p1), .val (.int (3 : Int32)), .val (.int (1 : Int32)), .val (.ref ob1), .val (.ref ob3), .unset, .unset, .unset, .unset, .unset, .unset] [(.int (2 : Int32)), (.ref ob3)])
    have f213 : Arv Z T212.heap ob3 ka3 (.object "corro/core/Order") (3 : Int32) [(.ref ob4), (.ref ob10), (.ref ob19)] .null := f190.keep Kq212 (ninS ne_ob3_ob10 (ninS ne_ob3_ob4 nin0))
    obtain ⟨cl214, Ar214, q214, S214, M214, H214, G214⟩ := id f213
    have hin214 : ¬ ((2 : Int32) < 0 ∨ cl214.slots.size ≤ ((2 : Int32)).toNatClampNeg) := inb_of S214 ⟨by decide, by decide⟩
    refine own_go (fun _ => X212.aaload hx (j := (2 : Int32)) (v := (.ref ob19)) Ar214.1 (State.isArrayOf_alike hZ.alike Ar214.2.1) rfl Ar214.2.2 hin214 (H214.at hin214 rfl) (g := (mkF m 118 #[.val (.int p0), .val (.int p1), .val (.int (3 : Int32)), .val (.int (1 : Int32)), .val (.ref ob1), .val (.ref ob3), .unset, .unset, .unset, .unset, .unset, .unset] [(.int (2 : Int32)), (.ref ob3)])) rfl rfl (hb hby at_118) _) ?_
    show own_G p e below Φ T212 (mkF m 119 #[.val (.int p0), .val (.int p1), .val (.int (3 : Int32)), .val (.int (1 : Int32)), .val (.ref ob1), .val (.ref ob3), .unset, .unset, .unset, .unset, .unset, .unset] [(.ref ob19)])
    refine own_go (fun _ => XS.aload X212.here hx rfl (hb hby at_119) rfl rfl) ?_
    show own_G p e below Φ T212 (mkF m 121 #[.val (.int p0), .val (.int p1), .val (.int (3 : Int32)), .val (.int (1 : Int32)), .val (.ref ob1), .val (.ref ob3), .unset, .unset, .unset, .unset, .unset, .unset] [(.ref ob1), (.ref ob19)])
    refine own_go (fun _ => XS.aload X212.here hx rfl (hb hby at_121) rfl rfl) ?_
    show own_G p e below Φ T212 (mkF m 123 #[.val (.int p0), .val (.int p1), .val (.int (3 : Int32)), .val (.int (1 : Int32)), .val (.ref ob1), .val (.ref ob3), .unset, .unset, .unset, .unset, .unset, .unset] [(.ref ob3), (.ref ob1), (.ref ob19)])
    refine own_go (fun _ => XS.iconst X212.here hx rfl (hb hby at_123)) ?_
    show own_G p e below Φ T212 (mkF m 124 #[.val (.int p0), .val (.int p1), .val (.int (3 : Int32)), .val (.int (1 : Int32)), .val (.ref ob1), .val (.ref ob3), .unset, .unset, .unset, .unset, .unset, .unset] [(.int (1 : Int32)), (.ref ob3), (.ref ob1), (.ref ob19)])
    obtain ⟨cl215, Ar215, q215, S215, M215, H215, G215⟩ := id f213
    have hin215 : ¬ ((1 : Int32) < 0 ∨ cl215.slots.size ≤ ((1 : Int32)).toNatClampNeg) := inb_of S215 ⟨by decide, by decide⟩
    refine own_go (fun _ => X212.aaload hx (j := (1 : Int32)) (v := (.ref ob10)) Ar215.1 (State.isArrayOf_alike hZ.alike Ar215.2.1) rfl Ar215.2.2 hin215 (H215.at hin215 rfl) (g := (mkF m 124 #[.val (.int p0), .val (.int p1), .val (.int (3 : Int32)), .val (.int (1 : Int32)), .val (.ref ob1), .val (.ref ob3), .unset, .unset, .unset, .unset, .unset, .unset] [(.int (1 : Int32)), (.ref ob3), (.ref ob1), (.ref ob19)])) rfl rfl (hb hby at_124) _) ?_
    show own_G p e below Φ T212 (mkF m 125 #[.val (.int p0), .val (.int p1), .val (.int (3 : Int32)), .val (.int (1 : Int32)), .val (.ref ob1), .val (.ref ob3), .unset, .unset, .unset, .unset, .unset, .unset] [(.ref ob10), (.ref ob1), (.ref ob19)])
    have f216 : Exa Z h30 ob19 "corro/core/Order" := p27_0.wr W30
    have f217 : Exa Z T56.heap ob19 "corro/core/Order" := f216.keep Kq56
    have f218 : Exa Z T212.heap ob19 "corro/core/Order" := f217.keep Kq212
    have f219 : Fld Z h30 ob19 "corro/core/Order" "level" "Lcorro/core/Level;" .null := p27_1.other W30 (Or.inl (Ne.symm ne_ob3_ob19))
    have f220 : Fld Z T56.heap ob19 "corro/core/Order" "level" "Lcorro/core/Level;" .null := f219.keep Kq56 (ninS (Ne.symm ne_ob4_ob19) nin0)
    have f221 : Fld Z T212.heap ob19 "corro/core/Order" "level" "Lcorro/core/Level;" .null := f220.keep Kq212 (ninS (Ne.symm ne_ob10_ob19) (ninS (Ne.symm ne_ob4_ob19) nin0))
    have f222 : Fld Z h30 ob19 "corro/core/Order" "previous" "Lcorro/core/Order;" .null := p27_2.other W30 (Or.inl (Ne.symm ne_ob3_ob19))
    have f223 : Fld Z T56.heap ob19 "corro/core/Order" "previous" "Lcorro/core/Order;" .null := f222.keep Kq56 (ninS (Ne.symm ne_ob4_ob19) nin0)
    have f224 : Fld Z T212.heap ob19 "corro/core/Order" "previous" "Lcorro/core/Order;" .null := f223.keep Kq212 (ninS (Ne.symm ne_ob10_ob19) (ninS (Ne.symm ne_ob4_ob19) nin0))
    have f225 : Fld Z h30 ob19 "corro/core/Order" "next" "Lcorro/core/Order;" .null := p27_3.other W30 (Or.inl (Ne.symm ne_ob3_ob19))
    have f226 : Fld Z T56.heap ob19 "corro/core/Order" "next" "Lcorro/core/Order;" .null := f225.keep Kq56 (ninS (Ne.symm ne_ob4_ob19) nin0)
    have f227 : Fld Z T212.heap ob19 "corro/core/Order" "next" "Lcorro/core/Order;" .null := f226.keep Kq212 (ninS (Ne.symm ne_ob10_ob19) (ninS (Ne.symm ne_ob4_ob19) nin0))
    obtain ⟨cq228, kq228, q228a, q228b, q228c⟩ := isOf hZ rfl f218
    obtain ⟨_, _, ⟨T228, zL228, zk228, zn228⟩, -, X228, ⟨Lc228, hQ228, l228, y228, z228⟩, st228⟩ := X212.virtualBack hx (y := (⟨"corro/core/Order", "join", "(Lcorro/core/Level;Lcorro/core/Order;)V"⟩ : MethodName)) (z := (⟨"corro/core/Order", "join", "(Lcorro/core/Level;Lcorro/core/Order;)V"⟩ : MethodName)) hown (mvT hZ (wd_31 hw)) (mvT hZ (wd_32 hw)) (notFace_of_selects (args := #[]) (mvT hZ (wd_34 hw))) (mvT hZ (wd_34 hw)) (mvT hZ (wd_33 hw)) (by decide) (backOf (W := 0) (rmJO l Z a0 hw [] ob19 ob1 ob10 .null .null .null (.ref ob1) (.ref ob4) .null T212.heap n0 Zp212 f218 p212_0 f221 f224 f227 p212_1 p212_2 p212_3 g_ob19 g_ob10 (Ne.symm ne_ob10_ob19)) hZ (wd_35 hw) (wd_13 hw) (by decide) (by decide)) q228a q228c (g := (mkF m 125 #[.val (.int p0), .val (.int p1), .val (.int (3 : Int32)), .val (.int (1 : Int32)), .val (.ref ob1), .val (.ref ob3), .unset, .unset, .unset, .unset, .unset, .unset] [(.ref ob10), (.ref ob1), (.ref ob19)])) rfl (by rw [hml]; rfl) (Steps.refl _) (argsL := [(.ref ob1), (.ref ob10)]) (rest := []) (lenOf pd_2 rfl) rfl (by show 2 * 0 + _ ≤ _; exact Nat.le_of_eq rfl) (hb hby at_125) (fun _ _ => ⟨rfl, rfl, (by decide : 5 + 0 ≤ _), (by decide : 41 + 0 ≤ _)⟩)
    dsimp only [Pt.U, Pt.locs, Pt.cells, Pt.slots] at X228 l228 y228 z228 st228 hQ228
    subst l228 y228 z228
    obtain ⟨rfl, N228q, Kq228, p228_0, p228_1, p228_2, p228_3, p228_4, p228_5, p228_6⟩ := hQ228
    have N228 := Fr.app N212 N228q
    refine own_on st228 ?_
    have Zp228 : n0 ≤ T228.heap.size := Nat.le_trans Zp212 Kq228.1
    show own_G p e below Φ T228 (mkF m 128 #[.val (.int p0), .val (.int p1), .val (.int (3 : Int32)), .val (.int (1 : Int32)), .val (.ref ob1), .val (.ref ob3), .unset, .unset, .unset, .unset, .unset, .unset] [])
    refine own_go (fun _ => XS.aload X228.here hx rfl (hb hby at_128) rfl rfl) ?_
    show own_G p e below Φ T228 (mkF m 130 #[.val (.int p0), .val (.int p1), .val (.int (3 : Int32)), .val (.int (1 : Int32)), .val (.ref ob1), .val (.ref ob3), .unset, .unset, .unset, .unset, .unset, .unset] [(.ref ob3)])
    refine own_go (fun _ => XS.iloadN X228.here hx rfl (hb hby at_130) rfl) ?_
    show own_G p e below Φ T228 (mkF m 131 #[.val (.int p0), .val (.int p1), .val (.int (3 : Int32)), .val (.int (1 : Int32)), .val (.ref ob1), .val (.ref ob3), .unset, .unset, .unset, .unset, .unset, .unset] [(.int (1 : Int32)), (.ref ob3)])
    have f229 : Arv Z T228.heap ob3 ka3 (.object "corro/core/Order") (3 : Int32) [(.ref ob4), (.ref ob10), (.ref ob19)] .null := f213.keep Kq228 (ninS ne_ob3_ob19 (ninS ne_ob3_ob10 nin0))
    obtain ⟨cl230, Ar230, q230, S230, M230, H230, G230⟩ := id f229
    have hin230 : ¬ ((1 : Int32) < 0 ∨ cl230.slots.size ≤ ((1 : Int32)).toNatClampNeg) := inb_of S230 ⟨by decide, by decide⟩
    refine own_go (fun _ => X228.aaload hx (j := (1 : Int32)) (v := (.ref ob10)) Ar230.1 (State.isArrayOf_alike hZ.alike Ar230.2.1) rfl Ar230.2.2 hin230 (H230.at hin230 rfl) (g := (mkF m 131 #[.val (.int p0), .val (.int p1), .val (.int (3 : Int32)), .val (.int (1 : Int32)), .val (.ref ob1), .val (.ref ob3), .unset, .unset, .unset, .unset, .unset, .unset] [(.int (1 : Int32)), (.ref ob3)])) rfl rfl (hb hby at_131) _) ?_
    show own_G p e below Φ T228 (mkF m 132 #[.val (.int p0), .val (.int p1), .val (.int (3 : Int32)), .val (.int (1 : Int32)), .val (.ref ob1), .val (.ref ob3), .unset, .unset, .unset, .unset, .unset, .unset] [(.ref ob10)])
    refine own_go (fun _ => XS.astore X228.here hx rfl (hb hby at_132) rfl rfl (l' := #[.val (.int p0), .val (.int p1), .val (.int (3 : Int32)), .val (.int (1 : Int32)), .val (.ref ob1), .val (.ref ob3), .val (.ref ob10), .unset, .unset, .unset, .unset, .unset]) rfl) ?_
    show own_G p e below Φ T228 (mkF m 134 #[.val (.int p0), .val (.int p1), .val (.int (3 : Int32)), .val (.int (1 : Int32)), .val (.ref ob1), .val (.ref ob3), .val (.ref ob10), .unset, .unset, .unset, .unset, .unset] [])
    refine own_go (fun _ => XS.iloadN X228.here hx rfl (hb hby at_134) rfl) ?_
    show own_G p e below Φ T228 (mkF m 135 #[.val (.int p0), .val (.int p1), .val (.int (3 : Int32)), .val (.int (1 : Int32)), .val (.ref ob1), .val (.ref ob3), .val (.ref ob10), .unset, .unset, .unset, .unset, .unset] [(.int (1 : Int32))])
    refine own_go (fun _ => XS.ifNo X228.here hx rfl (hb hby at_135) rfl (Jvm.Free.XT.i0_le_f (by decide : ((0 : Int32) < (1 : Int32))))) ?_
    show own_G p e below Φ T228 (mkF m 138 #[.val (.int p0), .val (.int p1), .val (.int (3 : Int32)), .val (.int (1 : Int32)), .val (.ref ob1), .val (.ref ob3), .val (.ref ob10), .unset, .unset, .unset, .unset, .unset] [])
    refine own_go (fun _ => XS.aload X228.here hx rfl (hb hby at_138) rfl rfl) ?_
    show own_G p e below Φ T228 (mkF m 140 #[.val (.int p0), .val (.int p1), .val (.int (3 : Int32)), .val (.int (1 : Int32)), .val (.ref ob1), .val (.ref ob3), .val (.ref ob10), .unset, .unset, .unset, .unset, .unset] [(.ref ob3)])
    refine own_go (fun _ => XS.iloadN X228.here hx rfl (hb hby at_140) rfl) ?_
    show own_G p e below Φ T228 (mkF m 141 #[.val (.int p0), .val (.int p1), .val (.int (3 : Int32)), .val (.int (1 : Int32)), .val (.ref ob1), .val (.ref ob3), .val (.ref ob10), .unset, .unset, .unset, .unset, .unset] [(.int (1 : Int32)), (.ref ob3)])
    refine own_go (fun _ => XS.iconst X228.here hx rfl (hb hby at_141)) ?_
    show own_G p e below Φ T228 (mkF m 142 #[.val (.int p0), .val (.int p1), .val (.int (3 : Int32)), .val (.int (1 : Int32)), .val (.ref ob1), .val (.ref ob3), .val (.ref ob10), .unset, .unset, .unset, .unset, .unset] [(.int (1 : Int32)), (.int (1 : Int32)), (.ref ob3)])
    refine own_go (fun _ => XS.isub X228.here hx rfl (hb hby at_142) rfl) ?_
    show own_G p e below Φ T228 (mkF m 143 #[.val (.int p0), .val (.int p1), .val (.int (3 : Int32)), .val (.int (1 : Int32)), .val (.ref ob1), .val (.ref ob3), .val (.ref ob10), .unset, .unset, .unset, .unset, .unset] [(.int (0 : Int32)), (.ref ob3)])
    obtain ⟨cl231, Ar231, q231, S231, M231, H231, G231⟩ := id f229
    have hin231 : ¬ ((0 : Int32) < 0 ∨ cl231.slots.size ≤ ((0 : Int32)).toNatClampNeg) := inb_of S231 ⟨by decide, by decide⟩
    refine own_go (fun _ => X228.aaload hx (j := (0 : Int32)) (v := (.ref ob4)) Ar231.1 (State.isArrayOf_alike hZ.alike Ar231.2.1) rfl Ar231.2.2 hin231 (H231.at hin231 rfl) (g := (mkF m 143 #[.val (.int p0), .val (.int p1), .val (.int (3 : Int32)), .val (.int (1 : Int32)), .val (.ref ob1), .val (.ref ob3), .val (.ref ob10), .unset, .unset, .unset, .unset, .unset] [(.int (0 : Int32)), (.ref ob3)])) rfl rfl (hb hby at_143) _) ?_
    show own_G p e below Φ T228 (mkF m 144 #[.val (.int p0), .val (.int p1), .val (.int (3 : Int32)), .val (.int (1 : Int32)), .val (.ref ob1), .val (.ref ob3), .val (.ref ob10), .unset, .unset, .unset, .unset, .unset] [(.ref ob4)])
    refine own_go (fun _ => XS.goto X228.here hx rfl (pc0 := 144) (pc' := 148) rfl (hb hby at_144) (by decide) (by decide)) ?_
    show own_G p e below Φ T228 (mkF m 148 #[.val (.int p0), .val (.int p1), .val (.int (3 : Int32)), .val (.int (1 : Int32)), .val (.ref ob1), .val (.ref ob3), .val (.ref ob10), .unset, .unset, .unset, .unset, .unset] [(.ref ob4)])
    refine own_go (fun _ => XS.astore X228.here hx rfl (hb hby at_148) rfl rfl (l' := #[.val (.int p0), .val (.int p1), .val (.int (3 : Int32)), .val (.int (1 : Int32)), .val (.ref ob1), .val (.ref ob3), .val (.ref ob10), .val (.ref ob4), .unset, .unset, .unset, .unset]) rfl) ?_
    show own_G p e below Φ T228 (mkF m 150 #[.val (.int p0), .val (.int p1), .val (.int (3 : Int32)), .val (.int (1 : Int32)), .val (.ref ob1), .val (.ref ob3), .val (.ref ob10), .val (.ref ob4), .unset, .unset, .unset, .unset] [])
    refine own_go (fun _ => XS.iloadN X228.here hx rfl (hb hby at_150) rfl) ?_
    show own_G p e below Φ T228 (mkF m 151 #[.val (.int p0), .val (.int p1), .val (.int (3 : Int32)), .val (.int (1 : Int32)), .val (.ref ob1), .val (.ref ob3), .val (.ref ob10), .val (.ref ob4), .unset, .unset, .unset, .unset] [(.int (1 : Int32))])
    refine own_go (fun _ => XS.iconst X228.here hx rfl (hb hby at_151)) ?_
    show own_G p e below Φ T228 (mkF m 152 #[.val (.int p0), .val (.int p1), .val (.int (3 : Int32)), .val (.int (1 : Int32)), .val (.ref ob1), .val (.ref ob3), .val (.ref ob10), .val (.ref ob4), .unset, .unset, .unset, .unset] [(.int (1 : Int32)), (.int (1 : Int32))])
    refine own_go (fun _ => XS.iadd X228.here hx rfl (hb hby at_152) rfl) ?_
    show own_G p e below Φ T228 (mkF m 153 #[.val (.int p0), .val (.int p1), .val (.int (3 : Int32)), .val (.int (1 : Int32)), .val (.ref ob1), .val (.ref ob3), .val (.ref ob10), .val (.ref ob4), .unset, .unset, .unset, .unset] [(.int (2 : Int32))])
    refine own_go (fun _ => XS.iloadN X228.here hx rfl (hb hby at_153) rfl) ?_
    show own_G p e below Φ T228 (mkF m 154 #[.val (.int p0), .val (.int p1), .val (.int (3 : Int32)), .val (.int (1 : Int32)), .val (.ref ob1), .val (.ref ob3), .val (.ref ob10), .val (.ref ob4), .unset, .unset, .unset, .unset] [(.int (3 : Int32)), (.int (2 : Int32))])
    refine own_go (fun _ => XS.icmpNo X228.here hx rfl (hb hby at_154) rfl (Jvm.Free.XT.ii_ge_f (by decide : ((2 : Int32) < (3 : Int32))))) ?_
    show own_G p e below Φ T228 (mkF m 157 #[.val (.int p0), .val (.int p1), .val (.int (3 : Int32)), .val (.int (1 : Int32)), .val (.ref ob1), .val (.ref ob3), .val (.ref ob10), .val (.ref ob4), .unset, .unset, .unset, .unset] [])
    refine own_go (fun _ => XS.aload X228.here hx rfl (hb hby at_157) rfl rfl) ?_
    show own_G p e below Φ T228 (mkF m 159 #[.val (.int p0), .val (.int p1), .val (.int (3 : Int32)), .val (.int (1 : Int32)), .val (.ref ob1), .val (.ref ob3), .val (.ref ob10), .val (.ref ob4), .unset, .unset, .unset, .unset] [(.ref ob3)])
    refine own_go (fun _ => XS.iloadN X228.here hx rfl (hb hby at_159) rfl) ?_
    show own_G p e below Φ T228 (mkF m 160 #[.val (.int p0), .val (.int p1), .val (.int (3 : Int32)), .val (.int (1 : Int32)), .val (.ref ob1), .val (.ref ob3), .val (.ref ob10), .val (.ref ob4), .unset, .unset, .unset, .unset] [(.int (1 : Int32)), (.ref ob3)])
    refine own_go (fun _ => XS.iconst X228.here hx rfl (hb hby at_160)) ?_
    show own_G p e below Φ T228 (mkF m 161 #[.val (.int p0), .val (.int p1), .val (.int (3 : Int32)), .val (.int (1 : Int32)), .val (.ref ob1), .val (.ref ob3), .val (.ref ob10), .val (.ref ob4), .unset, .unset, .unset, .unset] [(.int (1 : Int32)), (.int (1 : Int32)), (.ref ob3)])
    refine own_go (fun _ => XS.iadd X228.here hx rfl (hb hby at_161) rfl) ?_
    show own_G p e below Φ T228 (mkF m 162 #[.val (.int p0), .val (.int p1), .val (.int (3 : Int32)), .val (.int (1 : Int32)), .val (.ref ob1), .val (.ref ob3), .val (.ref ob10), .val (.ref ob4), .unset, .unset, .unset, .unset] [(.int (2 : Int32)), (.ref ob3)])
    obtain ⟨cl232, Ar232, q232, S232, M232, H232, G232⟩ := id f229
    have hin232 : ¬ ((2 : Int32) < 0 ∨ cl232.slots.size ≤ ((2 : Int32)).toNatClampNeg) := inb_of S232 ⟨by decide, by decide⟩
    refine own_go (fun _ => X228.aaload hx (j := (2 : Int32)) (v := (.ref ob19)) Ar232.1 (State.isArrayOf_alike hZ.alike Ar232.2.1) rfl Ar232.2.2 hin232 (H232.at hin232 rfl) (g := (mkF m 162 #[.val (.int p0), .val (.int p1), .val (.int (3 : Int32)), .val (.int (1 : Int32)), .val (.ref ob1), .val (.ref ob3), .val (.ref ob10), .val (.ref ob4), .unset, .unset, .unset, .unset] [(.int (2 : Int32)), (.ref ob3)])) rfl rfl (hb hby at_162) _) ?_
    show own_G p e below Φ T228 (mkF m 163 #[.val (.int p0), .val (.int p1), .val (.int (3 : Int32)), .val (.int (1 : Int32)), .val (.ref ob1), .val (.ref ob3), .val (.ref ob10), .val (.ref ob4), .unset, .unset, .unset, .unset] [(.ref ob19)])
    refine own_go (fun _ => XS.goto X228.here hx rfl (pc0 := 163) (pc' := 167) rfl (hb hby at_163) (by decide) (by decide)) ?_
    show own_G p e below Φ T228 (mkF m 167 #[.val (.int p0), .val (.int p1), .val (.int (3 : Int32)), .val (.int (1 : Int32)), .val (.ref ob1), .val (.ref ob3), .val (.ref ob10), .val (.ref ob4), .unset, .unset, .unset, .unset] [(.ref ob19)])
    refine own_go (fun _ => XS.astore X228.here hx rfl (hb hby at_167) rfl rfl (l' := #[.val (.int p0), .val (.int p1), .val (.int (3 : Int32)), .val (.int (1 : Int32)), .val (.ref ob1), .val (.ref ob3), .val (.ref ob10), .val (.ref ob4), .val (.ref ob19), .unset, .unset, .unset]) rfl) ?_
    show own_G p e below Φ T228 (mkF m 169 #[.val (.int p0), .val (.int p1), .val (.int (3 : Int32)), .val (.int (1 : Int32)), .val (.ref ob1), .val (.ref ob3), .val (.ref ob10), .val (.ref ob4), .val (.ref ob19), .unset, .unset, .unset] [])
    refine own_go (fun _ => XS.iloadN X228.here hx rfl (hb hby at_169) rfl) ?_
    show own_G p e below Φ T228 (mkF m 170 #[.val (.int p0), .val (.int p1), .val (.int (3 : Int32)), .val (.int (1 : Int32)), .val (.ref ob1), .val (.ref ob3), .val (.ref ob10), .val (.ref ob4), .val (.ref ob19), .unset, .unset, .unset] [(.int (1 : Int32))])
    refine own_go (fun _ => XS.iconst X228.here hx rfl (hb hby at_170)) ?_
    show own_G p e below Φ T228 (mkF m 171 #[.val (.int p0), .val (.int p1), .val (.int (3 : Int32)), .val (.int (1 : Int32)), .val (.ref ob1), .val (.ref ob3), .val (.ref ob10), .val (.ref ob4), .val (.ref ob19), .unset, .unset, .unset] [(.int (1 : Int32)), (.int (1 : Int32))])
    refine own_go (fun _ => XS.icmpYes X228.here hx rfl (pc0 := 171) (pc' := 183) rfl (hb hby at_171) rfl (Jvm.Free.XT.ii_le_t (by decide : ¬ ((1 : Int32) < (1 : Int32)))) (by decide) (by decide)) ?_
    show own_G p e below Φ T228 (mkF m 183 #[.val (.int p0), .val (.int p1), .val (.int (3 : Int32)), .val (.int (1 : Int32)), .val (.ref ob1), .val (.ref ob3), .val (.ref ob10), .val (.ref ob4), .val (.ref ob19), .unset, .unset, .unset] [])
    refine own_go (fun _ => XS.aconstNull X228.here hx rfl (hb hby at_183)) ?_
    show own_G p e below Φ T228 (mkF m 184 #[.val (.int p0), .val (.int p1), .val (.int (3 : Int32)), .val (.int (1 : Int32)), .val (.ref ob1), .val (.ref ob3), .val (.ref ob10), .val (.ref ob4), .val (.ref ob19), .unset, .unset, .unset] [.null])
    refine own_go (fun _ => XS.astore X228.here hx rfl (hb hby at_184) rfl rfl (l' := #[.val (.int p0), .val (.int p1), .val (.int (3 : Int32)), .val (.int (1 : Int32)), .val (.ref ob1), .val (.ref ob3), .val (.ref ob10), .val (.ref ob4), .val (.ref ob19), .val .null, .unset, .unset]) rfl) ?_
    show own_G p e below Φ T228 (mkF m 186 #[.val (.int p0), .val (.int p1), .val (.int (3 : Int32)), .val (.int (1 : Int32)), .val (.ref ob1), .val (.ref ob3), .val (.ref ob10), .val (.ref ob4), .val (.ref ob19), .val .null, .unset, .unset] [])
    refine own_go (fun _ => XS.iloadN X228.here hx rfl (hb hby at_186) rfl) ?_
    show own_G p e below Φ T228 (mkF m 187 #[.val (.int p0), .val (.int p1), .val (.int (3 : Int32)), .val (.int (1 : Int32)), .val (.ref ob1), .val (.ref ob3), .val (.ref ob10), .val (.ref ob4), .val (.ref ob19), .val .null, .unset, .unset] [(.int (1 : Int32))])
    refine own_go (fun _ => XS.iconst X228.here hx rfl (hb hby at_187)) ?_
    show own_G p e below Φ T228 (mkF m 188 #[.val (.int p0), .val (.int p1), .val (.int (3 : Int32)), .val (.int (1 : Int32)), .val (.ref ob1), .val (.ref ob3), .val (.ref ob10), .val (.ref ob4), .val (.ref ob19), .val .null, .unset, .unset] [(.int (2 : Int32)), (.int (1 : Int32))])
    refine own_go (fun _ => XS.iadd X228.here hx rfl (hb hby at_188) rfl) ?_
    show own_G p e below Φ T228 (mkF m 189 #[.val (.int p0), .val (.int p1), .val (.int (3 : Int32)), .val (.int (1 : Int32)), .val (.ref ob1), .val (.ref ob3), .val (.ref ob10), .val (.ref ob4), .val (.ref ob19), .val .null, .unset, .unset] [(.int (3 : Int32))])
    refine own_go (fun _ => XS.iloadN X228.here hx rfl (hb hby at_189) rfl) ?_
    show own_G p e below Φ T228 (mkF m 190 #[.val (.int p0), .val (.int p1), .val (.int (3 : Int32)), .val (.int (1 : Int32)), .val (.ref ob1), .val (.ref ob3), .val (.ref ob10), .val (.ref ob4), .val (.ref ob19), .val .null, .unset, .unset] [(.int (3 : Int32)), (.int (3 : Int32))])
    refine own_go (fun _ => XS.icmpYes X228.here hx rfl (pc0 := 190) (pc' := 202) rfl (hb hby at_190) rfl (Jvm.Free.XT.ii_ge_t (by decide : ¬ ((3 : Int32) < (3 : Int32)))) (by decide) (by decide)) ?_
    show own_G p e below Φ T228 (mkF m 202 #[.val (.int p0), .val (.int p1), .val (.int (3 : Int32)), .val (.int (1 : Int32)), .val (.ref ob1), .val (.ref ob3), .val (.ref ob10), .val (.ref ob4), .val (.ref ob19), .val .null, .unset, .unset] [])
    refine own_go (fun _ => XS.aconstNull X228.here hx rfl (hb hby at_202)) ?_
    show own_G p e below Φ T228 (mkF m 203 #[.val (.int p0), .val (.int p1), .val (.int (3 : Int32)), .val (.int (1 : Int32)), .val (.ref ob1), .val (.ref ob3), .val (.ref ob10), .val (.ref ob4), .val (.ref ob19), .val .null, .unset, .unset] [.null])
    refine own_go (fun _ => XS.astore X228.here hx rfl (hb hby at_203) rfl rfl (l' := #[.val (.int p0), .val (.int p1), .val (.int (3 : Int32)), .val (.int (1 : Int32)), .val (.ref ob1), .val (.ref ob3), .val (.ref ob10), .val (.ref ob4), .val (.ref ob19), .val .null, .val .null, .unset]) rfl) ?_
    show own_G p e below Φ T228 (mkF m 205 #[.val (.int p0), .val (.int p1), .val (.int (3 : Int32)), .val (.int (1 : Int32)), .val (.ref ob1), .val (.ref ob3), .val (.ref ob10), .val (.ref ob4), .val (.ref ob19), .val .null, .val .null, .unset] [])
    refine own_go (fun _ => XS.aload X228.here hx rfl (hb hby at_205) rfl rfl) ?_
    show own_G p e below Φ T228 (mkF m 207 #[.val (.int p0), .val (.int p1), .val (.int (3 : Int32)), .val (.int (1 : Int32)), .val (.ref ob1), .val (.ref ob3), .val (.ref ob10), .val (.ref ob4), .val (.ref ob19), .val .null, .val .null, .unset] [(.ref ob10)])
    have f233 : Exa Z T228.heap ob10 "corro/core/Order" := p212_0.keep Kq228
    have f234 : Exa Z T212.heap ob4 "corro/core/Order" := p56_0.keep Kq212
    have f235 : Exa Z T228.heap ob4 "corro/core/Order" := f234.keep Kq228
    have f236 : Fld Z T228.heap ob4 "corro/core/Order" "level" "Lcorro/core/Level;" (.ref ob1) := p212_4.keep Kq228 (ninS ne_ob4_ob19 (ninS ne_ob4_ob10 nin0))
    have f237 : Fld Z T228.heap ob4 "corro/core/Order" "previous" "Lcorro/core/Order;" .null := p212_5.keep Kq228 (ninS ne_ob4_ob19 (ninS ne_ob4_ob10 nin0))
    have f238 : Fld Z T228.heap ob4 "corro/core/Order" "next" "Lcorro/core/Order;" (.ref ob10) := p212_6.keep Kq228 (ninS ne_ob4_ob19 (ninS ne_ob4_ob10 nin0))
    obtain ⟨cq239, kq239, q239a, q239b, q239c⟩ := isOf hZ rfl f233
    obtain ⟨_, _, ⟨T239, zL239, zk239, zn239⟩, -, X239, ⟨Lc239, hQ239, l239, y239, z239⟩, st239⟩ := X228.virtualBack hx (y := (⟨"corro/core/Order", "leave", "()V"⟩ : MethodName)) (z := (⟨"corro/core/Order", "leave", "()V"⟩ : MethodName)) hown (mvT hZ (wd_42 hw)) (mvT hZ (wd_43 hw)) (notFace_of_selects (args := #[]) (mvT hZ (wd_45 hw))) (mvT hZ (wd_45 hw)) (mvT hZ (wd_44 hw)) (by decide) (backOf (W := 0) (rmV11 l Z a0 hw [] ob10 (.ref ob1) ob4 (.ref ob1) .null (.ref ob10) ob19 (.ref ob1) (.ref ob10) .null T228.heap n0 Zp228 f233 p228_4 p228_5 p228_6 g_ob10 f235 f236 f237 f238 g_ob4 (Ne.symm ne_ob4_ob10) p228_0 p228_1 p228_2 p228_3 g_ob19 ne_ob10_ob19 ne_ob4_ob19) hZ (wd_46 hw) (wd_13 hw) (by decide) (by decide)) q239a q239c (g := (mkF m 207 #[.val (.int p0), .val (.int p1), .val (.int (3 : Int32)), .val (.int (1 : Int32)), .val (.ref ob1), .val (.ref ob3), .val (.ref ob10), .val (.ref ob4), .val (.ref ob19), .val .null, .val .null, .unset] [(.ref ob10)])) rfl (by rw [hml]; rfl) (Steps.refl _) (argsL := []) (rest := []) (lenOf pd_0 rfl) rfl (by show 2 * 0 + _ ≤ _; exact Nat.le_of_eq rfl) (hb hby at_207) (fun _ _ => ⟨rfl, rfl, (by decide : 5 + 0 ≤ _), (by decide : 41 + 0 ≤ _)⟩)
    dsimp only [Pt.U, Pt.locs, Pt.cells, Pt.slots] at X239 l239 y239 z239 st239 hQ239
    subst l239 y239 z239
    obtain ⟨rfl, N239q, Kq239, p239_0, p239_1, p239_2, p239_3, p239_4, p239_5, p239_6, p239_7, p239_8, p239_9⟩ := hQ239
    have N239 := Fr.app N228 N239q
    refine own_on st239 ?_
    have Zp239 : n0 ≤ T239.heap.size := Nat.le_trans Zp228 Kq239.1
    show own_G p e below Φ T239 (mkF m 210 #[.val (.int p0), .val (.int p1), .val (.int (3 : Int32)), .val (.int (1 : Int32)), .val (.ref ob1), .val (.ref ob3), .val (.ref ob10), .val (.ref ob4), .val (.ref ob19), .val .null, .val .null, .unset] [])
    refine own_go (fun _ => XS.aload X239.here hx rfl (hb hby at_210) rfl rfl) ?_
    show own_G p e below Φ T239 (mkF m 212 #[.val (.int p0), .val (.int p1), .val (.int (3 : Int32)), .val (.int (1 : Int32)), .val (.ref ob1), .val (.ref ob3), .val (.ref ob10), .val (.ref ob4), .val (.ref ob19), .val .null, .val .null, .unset] [(.ref ob10)])
    obtain ⟨cq240, kq240, q240a, q240b, q240c⟩ := isOf hZ rfl p239_0
    obtain ⟨_, _, ⟨T240, zL240, zk240, zn240⟩, -, X240, ⟨Lc240, hQ240, l240, y240, z240⟩, st240⟩ := X239.virtualBack hx (y := (⟨"corro/core/Order", "level", "()Lcorro/core/Level;"⟩ : MethodName)) (z := (⟨"corro/core/Order", "level", "()Lcorro/core/Level;"⟩ : MethodName)) hown (mvT hZ (wd_47 hw)) (mvT hZ (wd_48 hw)) (notFace_of_selects (args := #[]) (mvT hZ (wd_50 hw))) (mvT hZ (wd_50 hw)) (mvT hZ (wd_49 hw)) (by decide) (backOf (W := 0) (rmGlevel l Z a0 hw [] ob10 .null T239.heap n0 Zp239 p239_1 rfl) hZ (wd_51 hw) (wd_13 hw) (by decide) (by decide)) q240a q240c (g := (mkF m 212 #[.val (.int p0), .val (.int p1), .val (.int (3 : Int32)), .val (.int (1 : Int32)), .val (.ref ob1), .val (.ref ob3), .val (.ref ob10), .val (.ref ob4), .val (.ref ob19), .val .null, .val .null, .unset] [(.ref ob10)])) rfl (by rw [hml]; rfl) (Steps.refl _) (argsL := []) (rest := []) (lenOf pd_3 rfl) rfl (by show 2 * 0 + _ ≤ _; exact Nat.le_of_eq rfl) (hb hby at_212) (fun _ _ => ⟨rfl, rfl, (by decide : 5 + 0 ≤ _), (by decide : 41 + 0 ≤ _)⟩)
    dsimp only [Pt.U, Pt.locs, Pt.cells, Pt.slots] at X240 l240 y240 z240 st240 hQ240
    subst l240 y240 z240
    obtain ⟨rfl, N240q, hs240⟩ := hQ240
    have N240 := Fr.app N239 N240q
    refine own_on st240 ?_
    show own_G p e below Φ T240 (mkF m 215 #[.val (.int p0), .val (.int p1), .val (.int (3 : Int32)), .val (.int (1 : Int32)), .val (.ref ob1), .val (.ref ob3), .val (.ref ob10), .val (.ref ob4), .val (.ref ob19), .val .null, .val .null, .unset] [.null])
    refine own_go (fun _ => XS.ifnonnullNo X240.here hx rfl (hb hby at_215) rfl) ?_
    show own_G p e below Φ T240 (mkF m 218 #[.val (.int p0), .val (.int p1), .val (.int (3 : Int32)), .val (.int (1 : Int32)), .val (.ref ob1), .val (.ref ob3), .val (.ref ob10), .val (.ref ob4), .val (.ref ob19), .val .null, .val .null, .unset] [])
    refine own_go (fun _ => XS.aload X240.here hx rfl (hb hby at_218) rfl rfl) ?_
    show own_G p e below Φ T240 (mkF m 220 #[.val (.int p0), .val (.int p1), .val (.int (3 : Int32)), .val (.int (1 : Int32)), .val (.ref ob1), .val (.ref ob3), .val (.ref ob10), .val (.ref ob4), .val (.ref ob19), .val .null, .val .null, .unset] [(.ref ob10)])
    obtain ⟨cq241, kq241, q241a, q241b, q241c⟩ := isOf hZ hs240 p239_0
    obtain ⟨_, _, ⟨T241, zL241, zk241, zn241⟩, -, X241, ⟨Lc241, hQ241, l241, y241, z241⟩, st241⟩ := X240.virtualBack hx (y := (⟨"corro/core/Order", "previous", "()Lcorro/core/Order;"⟩ : MethodName)) (z := (⟨"corro/core/Order", "previous", "()Lcorro/core/Order;"⟩ : MethodName)) hown (mvT hZ (wd_52 hw)) (mvT hZ (wd_53 hw)) (notFace_of_selects (args := #[]) (mvT hZ (wd_55 hw))) (mvT hZ (wd_55 hw)) (mvT hZ (wd_54 hw)) (by decide) (backOf (W := 0) (rmGprevious l Z a0 hw [] ob10 .null T239.heap n0 Zp239 p239_2 rfl) hZ (wd_56 hw) (wd_13 hw) (by decide) (by decide)) q241a q241c (g := (mkF m 220 #[.val (.int p0), .val (.int p1), .val (.int (3 : Int32)), .val (.int (1 : Int32)), .val (.ref ob1), .val (.ref ob3), .val (.ref ob10), .val (.ref ob4), .val (.ref ob19), .val .null, .val .null, .unset] [(.ref ob10)])) rfl (by rw [hml]; rfl) (Steps.refl _) (argsL := []) (rest := []) (lenOf pd_4 rfl) rfl (by show 2 * 0 + _ ≤ _; exact Nat.le_of_eq rfl) (hb hby at_220) (fun _ _ => ⟨rfl, hs240, (by decide : 5 + 0 ≤ _), (by decide : 41 + 0 ≤ _)⟩)
    dsimp only [Pt.U, Pt.locs, Pt.cells, Pt.slots] at X241 l241 y241 z241 st241 hQ241
    subst l241 y241 z241
    obtain ⟨rfl, N241q, hs241⟩ := hQ241
    have N241 := Fr.app N240 N241q
    refine own_on st241 ?_
    show own_G p e below Φ T241 (mkF m 223 #[.val (.int p0), .val (.int p1), .val (.int (3 : Int32)), .val (.int (1 : Int32)), .val (.ref ob1), .val (.ref ob3), .val (.ref ob10), .val (.ref ob4), .val (.ref ob19), .val .null, .val .null, .unset] [.null])
    refine own_go (fun _ => XS.ifnonnullNo X241.here hx rfl (hb hby at_223) rfl) ?_
    show own_G p e below Φ T241 (mkF m 226 #[.val (.int p0), .val (.int p1), .val (.int (3 : Int32)), .val (.int (1 : Int32)), .val (.ref ob1), .val (.ref ob3), .val (.ref ob10), .val (.ref ob4), .val (.ref ob19), .val .null, .val .null, .unset] [])
    refine own_go (fun _ => XS.aload X241.here hx rfl (hb hby at_226) rfl rfl) ?_
    show own_G p e below Φ T241 (mkF m 228 #[.val (.int p0), .val (.int p1), .val (.int (3 : Int32)), .val (.int (1 : Int32)), .val (.ref ob1), .val (.ref ob3), .val (.ref ob10), .val (.ref ob4), .val (.ref ob19), .val .null, .val .null, .unset] [(.ref ob10)])
    obtain ⟨cq242, kq242, q242a, q242b, q242c⟩ := isOf hZ hs241 p239_0
    obtain ⟨_, _, ⟨T242, zL242, zk242, zn242⟩, -, X242, ⟨Lc242, hQ242, l242, y242, z242⟩, st242⟩ := X241.virtualBack hx (y := (⟨"corro/core/Order", "next", "()Lcorro/core/Order;"⟩ : MethodName)) (z := (⟨"corro/core/Order", "next", "()Lcorro/core/Order;"⟩ : MethodName)) hown (mvT hZ (wd_57 hw)) (mvT hZ (wd_58 hw)) (notFace_of_selects (args := #[]) (mvT hZ (wd_60 hw))) (mvT hZ (wd_60 hw)) (mvT hZ (wd_59 hw)) (by decide) (backOf (W := 0) (rmGnext l Z a0 hw [] ob10 .null T239.heap n0 Zp239 p239_3 rfl) hZ (wd_61 hw) (wd_13 hw) (by decide) (by decide)) q242a q242c (g := (mkF m 228 #[.val (.int p0), .val (.int p1), .val (.int (3 : Int32)), .val (.int (1 : Int32)), .val (.ref ob1), .val (.ref ob3), .val (.ref ob10), .val (.ref ob4), .val (.ref ob19), .val .null, .val .null, .unset] [(.ref ob10)])) rfl (by rw [hml]; rfl) (Steps.refl _) (argsL := []) (rest := []) (lenOf pd_4 rfl) rfl (by show 2 * 0 + _ ≤ _; exact Nat.le_of_eq rfl) (hb hby at_228) (fun _ _ => ⟨rfl, hs241, (by decide : 5 + 0 ≤ _), (by decide : 41 + 0 ≤ _)⟩)
    dsimp only [Pt.U, Pt.locs, Pt.cells, Pt.slots] at X242 l242 y242 z242 st242 hQ242
    subst l242 y242 z242
    obtain ⟨rfl, N242q, hs242⟩ := hQ242
    have N242 := Fr.app N241 N242q
    refine own_on st242 ?_
    show own_G p e below Φ T242 (mkF m 231 #[.val (.int p0), .val (.int p1), .val (.int (3 : Int32)), .val (.int (1 : Int32)), .val (.ref ob1), .val (.ref ob3), .val (.ref ob10), .val (.ref ob4), .val (.ref ob19), .val .null, .val .null, .unset] [.null])
    refine own_go (fun _ => XS.ifnonnullNo X242.here hx rfl (hb hby at_231) rfl) ?_
    show own_G p e below Φ T242 (mkF m 234 #[.val (.int p0), .val (.int p1), .val (.int (3 : Int32)), .val (.int (1 : Int32)), .val (.ref ob1), .val (.ref ob3), .val (.ref ob10), .val (.ref ob4), .val (.ref ob19), .val .null, .val .null, .unset] [])
    refine own_go (fun _ => XS.iconst X242.here hx rfl (hb hby at_234)) ?_
    show own_G p e below Φ T242 (mkF m 235 #[.val (.int p0), .val (.int p1), .val (.int (3 : Int32)), .val (.int (1 : Int32)), .val (.ref ob1), .val (.ref ob3), .val (.ref ob10), .val (.ref ob4), .val (.ref ob19), .val .null, .val .null, .unset] [(.int (1 : Int32))])
    refine own_go (fun _ => XS.goto X242.here hx rfl (pc0 := 235) (pc' := 239) rfl (hb hby at_235) (by decide) (by decide)) ?_
    show own_G p e below Φ T242 (mkF m 239 #[.val (.int p0), .val (.int p1), .val (.int (3 : Int32)), .val (.int (1 : Int32)), .val (.ref ob1), .val (.ref ob3), .val (.ref ob10), .val (.ref ob4), .val (.ref ob19), .val .null, .val .null, .unset] [(.int (1 : Int32))])
    refine own_go (fun _ => XS.istore X242.here hx rfl (hb hby at_239) rfl (l' := #[.val (.int p0), .val (.int p1), .val (.int (3 : Int32)), .val (.int (1 : Int32)), .val (.ref ob1), .val (.ref ob3), .val (.ref ob10), .val (.ref ob4), .val (.ref ob19), .val .null, .val .null, .val (.int (1 : Int32))]) rfl) ?_
    show own_G p e below Φ T242 (mkF m 241 #[.val (.int p0), .val (.int p1), .val (.int (3 : Int32)), .val (.int (1 : Int32)), .val (.ref ob1), .val (.ref ob3), .val (.ref ob10), .val (.ref ob4), .val (.ref ob19), .val .null, .val .null, .val (.int (1 : Int32))] [])
    refine own_go (fun _ => XS.aload X242.here hx rfl (hb hby at_241) rfl rfl) ?_
    show own_G p e below Φ T242 (mkF m 243 #[.val (.int p0), .val (.int p1), .val (.int (3 : Int32)), .val (.int (1 : Int32)), .val (.ref ob1), .val (.ref ob3), .val (.ref ob10), .val (.ref ob4), .val (.ref ob19), .val .null, .val .null, .val (.int (1 : Int32))] [(.ref ob4)])
    refine own_go (fun _ => XS.ifnullNo X242.here hx rfl (hb hby at_243) rfl) ?_
    show own_G p e below Φ T242 (mkF m 246 #[.val (.int p0), .val (.int p1), .val (.int (3 : Int32)), .val (.int (1 : Int32)), .val (.ref ob1), .val (.ref ob3), .val (.ref ob10), .val (.ref ob4), .val (.ref ob19), .val .null, .val .null, .val (.int (1 : Int32))] [])
    refine own_go (fun _ => XS.iload X242.here hx rfl (hb hby at_246) rfl) ?_
    show own_G p e below Φ T242 (mkF m 248 #[.val (.int p0), .val (.int p1), .val (.int (3 : Int32)), .val (.int (1 : Int32)), .val (.ref ob1), .val (.ref ob3), .val (.ref ob10), .val (.ref ob4), .val (.ref ob19), .val .null, .val .null, .val (.int (1 : Int32))] [(.int (1 : Int32))])
    refine own_go (fun _ => XS.ifNo X242.here hx rfl (hb hby at_248) rfl (Jvm.Free.XT.i0_eq_f (by decide : ¬ ((1 : Int32) = (0 : Int32))))) ?_
    show own_G p e below Φ T242 (mkF m 251 #[.val (.int p0), .val (.int p1), .val (.int (3 : Int32)), .val (.int (1 : Int32)), .val (.ref ob1), .val (.ref ob3), .val (.ref ob10), .val (.ref ob4), .val (.ref ob19), .val .null, .val .null, .val (.int (1 : Int32))] [])
    refine own_go (fun _ => XS.aload X242.here hx rfl (hb hby at_251) rfl rfl) ?_
    show own_G p e below Φ T242 (mkF m 253 #[.val (.int p0), .val (.int p1), .val (.int (3 : Int32)), .val (.int (1 : Int32)), .val (.ref ob1), .val (.ref ob3), .val (.ref ob10), .val (.ref ob4), .val (.ref ob19), .val .null, .val .null, .val (.int (1 : Int32))] [(.ref ob4)])
    have f244 : Exa Z T239.heap ob4 "corro/core/Order" := f235.keep Kq239
    obtain ⟨cq243, kq243, q243a, q243b, q243c⟩ := isOf hZ hs242 f244
    obtain ⟨_, _, ⟨T243, zL243, zk243, zn243⟩, -, X243, ⟨Lc243, hQ243, l243, y243, z243⟩, st243⟩ := X242.virtualBack hx (y := (⟨"corro/core/Order", "next", "()Lcorro/core/Order;"⟩ : MethodName)) (z := (⟨"corro/core/Order", "next", "()Lcorro/core/Order;"⟩ : MethodName)) hown (mvT hZ (wd_57 hw)) (mvT hZ (wd_58 hw)) (notFace_of_selects (args := #[]) (mvT hZ (wd_60 hw))) (mvT hZ (wd_60 hw)) (mvT hZ (wd_59 hw)) (by decide) (backOf (W := 0) (rmGnext l Z a0 hw [] ob4 (.ref ob19) T239.heap n0 Zp239 p239_6 rfl) hZ (wd_61 hw) (wd_13 hw) (by decide) (by decide)) q243a q243c (g := (mkF m 253 #[.val (.int p0), .val (.int p1), .val (.int (3 : Int32)), .val (.int (1 : Int32)), .val (.ref ob1), .val (.ref ob3), .val (.ref ob10), .val (.ref ob4), .val (.ref ob19), .val .null, .val .null, .val (.int (1 : Int32))] [(.ref ob4)])) rfl (by rw [hml]; rfl) (Steps.refl _) (argsL := []) (rest := []) (lenOf pd_4 rfl) rfl (by show 2 * 0 + _ ≤ _; exact Nat.le_of_eq rfl) (hb hby at_253) (fun _ _ => ⟨rfl, hs242, (by decide : 5 + 0 ≤ _), (by decide : 41 + 0 ≤ _)⟩)
    dsimp only [Pt.U, Pt.locs, Pt.cells, Pt.slots] at X243 l243 y243 z243 st243 hQ243
    subst l243 y243 z243
    obtain ⟨rfl, N243q, hs243⟩ := hQ243
    have N243 := Fr.app N242 N243q
    refine own_on st243 ?_
    show own_G p e below Φ T243 (mkF m 256 #[.val (.int p0), .val (.int p1), .val (.int (3 : Int32)), .val (.int (1 : Int32)), .val (.ref ob1), .val (.ref ob3), .val (.ref ob10), .val (.ref ob4), .val (.ref ob19), .val .null, .val .null, .val (.int (1 : Int32))] [(.ref ob19)])
    refine own_go (fun _ => XS.aload X243.here hx rfl (hb hby at_256) rfl rfl) ?_
    show own_G p e below Φ T243 (mkF m 258 #[.val (.int p0), .val (.int p1), .val (.int (3 : Int32)), .val (.int (1 : Int32)), .val (.ref ob1), .val (.ref ob3), .val (.ref ob10), .val (.ref ob4), .val (.ref ob19), .val .null, .val .null, .val (.int (1 : Int32))] [(.ref ob19), (.ref ob19)])
    refine own_go (fun _ => Jvm.RoadKit.acmp (g := (mkF m 258 #[.val (.int p0), .val (.int p1), .val (.int (3 : Int32)), .val (.int (1 : Int32)), .val (.ref ob1), .val (.ref ob3), .val (.ref ob10), .val (.ref ob4), .val (.ref ob19), .val .null, .val .null, .val (.int (1 : Int32))] [(.ref ob19), (.ref ob19)])) X243 hx rfl rfl rfl (pc0 := 258) (pc' := 261) (same := true) rfl (hb hby at_258) rfl (decide_eq_true rfl) (by decide) (by decide)) ?_
    show own_G p e below Φ T243 (mkF m 261 #[.val (.int p0), .val (.int p1), .val (.int (3 : Int32)), .val (.int (1 : Int32)), .val (.ref ob1), .val (.ref ob3), .val (.ref ob10), .val (.ref ob4), .val (.ref ob19), .val .null, .val .null, .val (.int (1 : Int32))] [])
    refine own_go (fun _ => XS.aload X243.here hx rfl (hb hby at_261) rfl rfl) ?_
    show own_G p e below Φ T243 (mkF m 263 #[.val (.int p0), .val (.int p1), .val (.int (3 : Int32)), .val (.int (1 : Int32)), .val (.ref ob1), .val (.ref ob3), .val (.ref ob10), .val (.ref ob4), .val (.ref ob19), .val .null, .val .null, .val (.int (1 : Int32))] [(.ref ob4)])
    obtain ⟨cq245, kq245, q245a, q245b, q245c⟩ := isOf hZ hs243 f244
    obtain ⟨_, _, ⟨T245, zL245, zk245, zn245⟩, -, X245, ⟨Lc245, hQ245, l245, y245, z245⟩, st245⟩ := X243.virtualBack hx (y := (⟨"corro/core/Order", "previous", "()Lcorro/core/Order;"⟩ : MethodName)) (z := (⟨"corro/core/Order", "previous", "()Lcorro/core/Order;"⟩ : MethodName)) hown (mvT hZ (wd_52 hw)) (mvT hZ (wd_53 hw)) (notFace_of_selects (args := #[]) (mvT hZ (wd_55 hw))) (mvT hZ (wd_55 hw)) (mvT hZ (wd_54 hw)) (by decide) (backOf (W := 0) (rmGprevious l Z a0 hw [] ob4 .null T239.heap n0 Zp239 p239_5 rfl) hZ (wd_56 hw) (wd_13 hw) (by decide) (by decide)) q245a q245c (g := (mkF m 263 #[.val (.int p0), .val (.int p1), .val (.int (3 : Int32)), .val (.int (1 : Int32)), .val (.ref ob1), .val (.ref ob3), .val (.ref ob10), .val (.ref ob4), .val (.ref ob19), .val .null, .val .null, .val (.int (1 : Int32))] [(.ref ob4)])) rfl (by rw [hml]; rfl) (Steps.refl _) (argsL := []) (rest := []) (lenOf pd_4 rfl) rfl (by show 2 * 0 + _ ≤ _; exact Nat.le_of_eq rfl) (hb hby at_263) (fun _ _ => ⟨rfl, hs243, (by decide : 5 + 0 ≤ _), (by decide : 41 + 0 ≤ _)⟩)
    dsimp only [Pt.U, Pt.locs, Pt.cells, Pt.slots] at X245 l245 y245 z245 st245 hQ245
    subst l245 y245 z245
    obtain ⟨rfl, N245q, hs245⟩ := hQ245
    have N245 := Fr.app N243 N245q
    refine own_on st245 ?_
    show own_G p e below Φ T245 (mkF m 266 #[.val (.int p0), .val (.int p1), .val (.int (3 : Int32)), .val (.int (1 : Int32)), .val (.ref ob1), .val (.ref ob3), .val (.ref ob10), .val (.ref ob4), .val (.ref ob19), .val .null, .val .null, .val (.int (1 : Int32))] [.null])
    refine own_go (fun _ => XS.aload X245.here hx rfl (hb hby at_266) rfl rfl) ?_
    show own_G p e below Φ T245 (mkF m 268 #[.val (.int p0), .val (.int p1), .val (.int (3 : Int32)), .val (.int (1 : Int32)), .val (.ref ob1), .val (.ref ob3), .val (.ref ob10), .val (.ref ob4), .val (.ref ob19), .val .null, .val .null, .val (.int (1 : Int32))] [.null, .null])
    refine own_go (fun _ => Jvm.RoadKit.acmp (g := (mkF m 268 #[.val (.int p0), .val (.int p1), .val (.int (3 : Int32)), .val (.int (1 : Int32)), .val (.ref ob1), .val (.ref ob3), .val (.ref ob10), .val (.ref ob4), .val (.ref ob19), .val .null, .val .null, .val (.int (1 : Int32))] [.null, .null])) X245 hx rfl rfl rfl (pc0 := 268) (pc' := 271) (same := true) rfl (hb hby at_268) rfl (decide_eq_true rfl) (by decide) (by decide)) ?_
    show own_G p e below Φ T245 (mkF m 271 #[.val (.int p0), .val (.int p1), .val (.int (3 : Int32)), .val (.int (1 : Int32)), .val (.ref ob1), .val (.ref ob3), .val (.ref ob10), .val (.ref ob4), .val (.ref ob19), .val .null, .val .null, .val (.int (1 : Int32))] [])
    refine own_go (fun _ => XS.aload X245.here hx rfl (hb hby at_271) rfl rfl) ?_
    show own_G p e below Φ T245 (mkF m 273 #[.val (.int p0), .val (.int p1), .val (.int (3 : Int32)), .val (.int (1 : Int32)), .val (.ref ob1), .val (.ref ob3), .val (.ref ob10), .val (.ref ob4), .val (.ref ob19), .val .null, .val .null, .val (.int (1 : Int32))] [(.ref ob4)])
    obtain ⟨cq246, kq246, q246a, q246b, q246c⟩ := isOf hZ hs245 f244
    obtain ⟨_, _, ⟨T246, zL246, zk246, zn246⟩, -, X246, ⟨Lc246, hQ246, l246, y246, z246⟩, st246⟩ := X245.virtualBack hx (y := (⟨"corro/core/Order", "level", "()Lcorro/core/Level;"⟩ : MethodName)) (z := (⟨"corro/core/Order", "level", "()Lcorro/core/Level;"⟩ : MethodName)) hown (mvT hZ (wd_47 hw)) (mvT hZ (wd_48 hw)) (notFace_of_selects (args := #[]) (mvT hZ (wd_50 hw))) (mvT hZ (wd_50 hw)) (mvT hZ (wd_49 hw)) (by decide) (backOf (W := 0) (rmGlevel l Z a0 hw [] ob4 (.ref ob1) T239.heap n0 Zp239 p239_4 rfl) hZ (wd_51 hw) (wd_13 hw) (by decide) (by decide)) q246a q246c (g := (mkF m 273 #[.val (.int p0), .val (.int p1), .val (.int (3 : Int32)), .val (.int (1 : Int32)), .val (.ref ob1), .val (.ref ob3), .val (.ref ob10), .val (.ref ob4), .val (.ref ob19), .val .null, .val .null, .val (.int (1 : Int32))] [(.ref ob4)])) rfl (by rw [hml]; rfl) (Steps.refl _) (argsL := []) (rest := []) (lenOf pd_3 rfl) rfl (by show 2 * 0 + _ ≤ _; exact Nat.le_of_eq rfl) (hb hby at_273) (fun _ _ => ⟨rfl, hs245, (by decide : 5 + 0 ≤ _), (by decide : 41 + 0 ≤ _)⟩)
    dsimp only [Pt.U, Pt.locs, Pt.cells, Pt.slots] at X246 l246 y246 z246 st246 hQ246
    subst l246 y246 z246
    obtain ⟨rfl, N246q, hs246⟩ := hQ246
    have N246 := Fr.app N245 N246q
    refine own_on st246 ?_
    show own_G p e below Φ T246 (mkF m 276 #[.val (.int p0), .val (.int p1), .val (.int (3 : Int32)), .val (.int (1 : Int32)), .val (.ref ob1), .val (.ref ob3), .val (.ref ob10), .val (.ref ob4), .val (.ref ob19), .val .null, .val .null, .val (.int (1 : Int32))] [(.ref ob1)])
    refine own_go (fun _ => XS.aload X246.here hx rfl (hb hby at_276) rfl rfl) ?_
    show own_G p e below Φ T246 (mkF m 278 #[.val (.int p0), .val (.int p1), .val (.int (3 : Int32)), .val (.int (1 : Int32)), .val (.ref ob1), .val (.ref ob3), .val (.ref ob10), .val (.ref ob4), .val (.ref ob19), .val .null, .val .null, .val (.int (1 : Int32))] [(.ref ob1), (.ref ob1)])
    refine own_go (fun _ => Jvm.RoadKit.acmp (g := (mkF m 278 #[.val (.int p0), .val (.int p1), .val (.int (3 : Int32)), .val (.int (1 : Int32)), .val (.ref ob1), .val (.ref ob3), .val (.ref ob10), .val (.ref ob4), .val (.ref ob19), .val .null, .val .null, .val (.int (1 : Int32))] [(.ref ob1), (.ref ob1)])) X246 hx rfl rfl rfl (pc0 := 278) (pc' := 281) (same := true) rfl (hb hby at_278) rfl (decide_eq_true rfl) (by decide) (by decide)) ?_
    show own_G p e below Φ T246 (mkF m 281 #[.val (.int p0), .val (.int p1), .val (.int (3 : Int32)), .val (.int (1 : Int32)), .val (.ref ob1), .val (.ref ob3), .val (.ref ob10), .val (.ref ob4), .val (.ref ob19), .val .null, .val .null, .val (.int (1 : Int32))] [])
    refine own_go (fun _ => XS.iconst X246.here hx rfl (hb hby at_281)) ?_
    show own_G p e below Φ T246 (mkF m 282 #[.val (.int p0), .val (.int p1), .val (.int (3 : Int32)), .val (.int (1 : Int32)), .val (.ref ob1), .val (.ref ob3), .val (.ref ob10), .val (.ref ob4), .val (.ref ob19), .val .null, .val .null, .val (.int (1 : Int32))] [(.int (1 : Int32))])
    refine own_go (fun _ => XS.goto X246.here hx rfl (pc0 := 282) (pc' := 286) rfl (hb hby at_282) (by decide) (by decide)) ?_
    show own_G p e below Φ T246 (mkF m 286 #[.val (.int p0), .val (.int p1), .val (.int (3 : Int32)), .val (.int (1 : Int32)), .val (.ref ob1), .val (.ref ob3), .val (.ref ob10), .val (.ref ob4), .val (.ref ob19), .val .null, .val .null, .val (.int (1 : Int32))] [(.int (1 : Int32))])
    refine own_go (fun _ => XS.istore X246.here hx rfl (hb hby at_286) rfl (l' := #[.val (.int p0), .val (.int p1), .val (.int (3 : Int32)), .val (.int (1 : Int32)), .val (.ref ob1), .val (.ref ob3), .val (.ref ob10), .val (.ref ob4), .val (.ref ob19), .val .null, .val .null, .val (.int (1 : Int32))]) rfl) ?_
    show own_G p e below Φ T246 (mkF m 288 #[.val (.int p0), .val (.int p1), .val (.int (3 : Int32)), .val (.int (1 : Int32)), .val (.ref ob1), .val (.ref ob3), .val (.ref ob10), .val (.ref ob4), .val (.ref ob19), .val .null, .val .null, .val (.int (1 : Int32))] [])
    refine own_go (fun _ => XS.aload X246.here hx rfl (hb hby at_288) rfl rfl) ?_
    show own_G p e below Φ T246 (mkF m 290 #[.val (.int p0), .val (.int p1), .val (.int (3 : Int32)), .val (.int (1 : Int32)), .val (.ref ob1), .val (.ref ob3), .val (.ref ob10), .val (.ref ob4), .val (.ref ob19), .val .null, .val .null, .val (.int (1 : Int32))] [(.ref ob19)])
    refine own_go (fun _ => XS.ifnullNo X246.here hx rfl (hb hby at_290) rfl) ?_
    show own_G p e below Φ T246 (mkF m 293 #[.val (.int p0), .val (.int p1), .val (.int (3 : Int32)), .val (.int (1 : Int32)), .val (.ref ob1), .val (.ref ob3), .val (.ref ob10), .val (.ref ob4), .val (.ref ob19), .val .null, .val .null, .val (.int (1 : Int32))] [])
    refine own_go (fun _ => XS.iload X246.here hx rfl (hb hby at_293) rfl) ?_
    show own_G p e below Φ T246 (mkF m 295 #[.val (.int p0), .val (.int p1), .val (.int (3 : Int32)), .val (.int (1 : Int32)), .val (.ref ob1), .val (.ref ob3), .val (.ref ob10), .val (.ref ob4), .val (.ref ob19), .val .null, .val .null, .val (.int (1 : Int32))] [(.int (1 : Int32))])
    refine own_go (fun _ => XS.ifNo X246.here hx rfl (hb hby at_295) rfl (Jvm.Free.XT.i0_eq_f (by decide : ¬ ((1 : Int32) = (0 : Int32))))) ?_
    show own_G p e below Φ T246 (mkF m 298 #[.val (.int p0), .val (.int p1), .val (.int (3 : Int32)), .val (.int (1 : Int32)), .val (.ref ob1), .val (.ref ob3), .val (.ref ob10), .val (.ref ob4), .val (.ref ob19), .val .null, .val .null, .val (.int (1 : Int32))] [])
    refine own_go (fun _ => XS.aload X246.here hx rfl (hb hby at_298) rfl rfl) ?_
    show own_G p e below Φ T246 (mkF m 300 #[.val (.int p0), .val (.int p1), .val (.int (3 : Int32)), .val (.int (1 : Int32)), .val (.ref ob1), .val (.ref ob3), .val (.ref ob10), .val (.ref ob4), .val (.ref ob19), .val .null, .val .null, .val (.int (1 : Int32))] [(.ref ob19)])
    have f248 : Exa Z T239.heap ob19 "corro/core/Order" := p228_0.keep Kq239
    obtain ⟨cq247, kq247, q247a, q247b, q247c⟩ := isOf hZ hs246 f248
    obtain ⟨_, _, ⟨T247, zL247, zk247, zn247⟩, -, X247, ⟨Lc247, hQ247, l247, y247, z247⟩, st247⟩ := X246.virtualBack hx (y := (⟨"corro/core/Order", "previous", "()Lcorro/core/Order;"⟩ : MethodName)) (z := (⟨"corro/core/Order", "previous", "()Lcorro/core/Order;"⟩ : MethodName)) hown (mvT hZ (wd_52 hw)) (mvT hZ (wd_53 hw)) (notFace_of_selects (args := #[]) (mvT hZ (wd_55 hw))) (mvT hZ (wd_55 hw)) (mvT hZ (wd_54 hw)) (by decide) (backOf (W := 0) (rmGprevious l Z a0 hw [] ob19 (.ref ob4) T239.heap n0 Zp239 p239_8 rfl) hZ (wd_56 hw) (wd_13 hw) (by decide) (by decide)) q247a q247c (g := (mkF m 300 #[.val (.int p0), .val (.int p1), .val (.int (3 : Int32)), .val (.int (1 : Int32)), .val (.ref ob1), .val (.ref ob3), .val (.ref ob10), .val (.ref ob4), .val (.ref ob19), .val .null, .val .null, .val (.int (1 : Int32))] [(.ref ob19)])) rfl (by rw [hml]; rfl) (Steps.refl _) (argsL := []) (rest := []) (lenOf pd_4 rfl) rfl (by show 2 * 0 + _ ≤ _; exact Nat.le_of_eq rfl) (hb hby at_300) (fun _ _ => ⟨rfl, hs246, (by decide : 5 + 0 ≤ _), (by decide : 41 + 0 ≤ _)⟩)
    dsimp only [Pt.U, Pt.locs, Pt.cells, Pt.slots] at X247 l247 y247 z247 st247 hQ247
    subst l247 y247 z247
    obtain ⟨rfl, N247q, hs247⟩ := hQ247
    have N247 := Fr.app N246 N247q
    refine own_on st247 ?_
    show own_G p e below Φ T247 (mkF m 303 #[.val (.int p0), .val (.int p1), .val (.int (3 : Int32)), .val (.int (1 : Int32)), .val (.ref ob1), .val (.ref ob3), .val (.ref ob10), .val (.ref ob4), .val (.ref ob19), .val .null, .val .null, .val (.int (1 : Int32))] [(.ref ob4)])
    refine own_go (fun _ => XS.aload X247.here hx rfl (hb hby at_303) rfl rfl) ?_
    show own_G p e below Φ T247 (mkF m 305 #[.val (.int p0), .val (.int p1), .val (.int (3 : Int32)), .val (.int (1 : Int32)), .val (.ref ob1), .val (.ref ob3), .val (.ref ob10), .val (.ref ob4), .val (.ref ob19), .val .null, .val .null, .val (.int (1 : Int32))] [(.ref ob4), (.ref ob4)])
    refine own_go (fun _ => Jvm.RoadKit.acmp (g := (mkF m 305 #[.val (.int p0), .val (.int p1), .val (.int (3 : Int32)), .val (.int (1 : Int32)), .val (.ref ob1), .val (.ref ob3), .val (.ref ob10), .val (.ref ob4), .val (.ref ob19), .val .null, .val .null, .val (.int (1 : Int32))] [(.ref ob4), (.ref ob4)])) X247 hx rfl rfl rfl (pc0 := 305) (pc' := 308) (same := true) rfl (hb hby at_305) rfl (decide_eq_true rfl) (by decide) (by decide)) ?_
    show own_G p e below Φ T247 (mkF m 308 #[.val (.int p0), .val (.int p1), .val (.int (3 : Int32)), .val (.int (1 : Int32)), .val (.ref ob1), .val (.ref ob3), .val (.ref ob10), .val (.ref ob4), .val (.ref ob19), .val .null, .val .null, .val (.int (1 : Int32))] [])
    refine own_go (fun _ => XS.aload X247.here hx rfl (hb hby at_308) rfl rfl) ?_
    show own_G p e below Φ T247 (mkF m 310 #[.val (.int p0), .val (.int p1), .val (.int (3 : Int32)), .val (.int (1 : Int32)), .val (.ref ob1), .val (.ref ob3), .val (.ref ob10), .val (.ref ob4), .val (.ref ob19), .val .null, .val .null, .val (.int (1 : Int32))] [(.ref ob19)])
    obtain ⟨cq249, kq249, q249a, q249b, q249c⟩ := isOf hZ hs247 f248
    obtain ⟨_, _, ⟨T249, zL249, zk249, zn249⟩, -, X249, ⟨Lc249, hQ249, l249, y249, z249⟩, st249⟩ := X247.virtualBack hx (y := (⟨"corro/core/Order", "next", "()Lcorro/core/Order;"⟩ : MethodName)) (z := (⟨"corro/core/Order", "next", "()Lcorro/core/Order;"⟩ : MethodName)) hown (mvT hZ (wd_57 hw)) (mvT hZ (wd_58 hw)) (notFace_of_selects (args := #[]) (mvT hZ (wd_60 hw))) (mvT hZ (wd_60 hw)) (mvT hZ (wd_59 hw)) (by decide) (backOf (W := 0) (rmGnext l Z a0 hw [] ob19 .null T239.heap n0 Zp239 p239_9 rfl) hZ (wd_61 hw) (wd_13 hw) (by decide) (by decide)) q249a q249c (g := (mkF m 310 #[.val (.int p0), .val (.int p1), .val (.int (3 : Int32)), .val (.int (1 : Int32)), .val (.ref ob1), .val (.ref ob3), .val (.ref ob10), .val (.ref ob4), .val (.ref ob19), .val .null, .val .null, .val (.int (1 : Int32))] [(.ref ob19)])) rfl (by rw [hml]; rfl) (Steps.refl _) (argsL := []) (rest := []) (lenOf pd_4 rfl) rfl (by show 2 * 0 + _ ≤ _; exact Nat.le_of_eq rfl) (hb hby at_310) (fun _ _ => ⟨rfl, hs247, (by decide : 5 + 0 ≤ _), (by decide : 41 + 0 ≤ _)⟩)
    dsimp only [Pt.U, Pt.locs, Pt.cells, Pt.slots] at X249 l249 y249 z249 st249 hQ249
    subst l249 y249 z249
    obtain ⟨rfl, N249q, hs249⟩ := hQ249
    have N249 := Fr.app N247 N249q
    refine own_on st249 ?_
    show own_G p e below Φ T249 (mkF m 313 #[.val (.int p0), .val (.int p1), .val (.int (3 : Int32)), .val (.int (1 : Int32)), .val (.ref ob1), .val (.ref ob3), .val (.ref ob10), .val (.ref ob4), .val (.ref ob19), .val .null, .val .null, .val (.int (1 : Int32))] [.null])
    refine own_go (fun _ => XS.aload X249.here hx rfl (hb hby at_313) rfl rfl) ?_
    show own_G p e below Φ T249 (mkF m 315 #[.val (.int p0), .val (.int p1), .val (.int (3 : Int32)), .val (.int (1 : Int32)), .val (.ref ob1), .val (.ref ob3), .val (.ref ob10), .val (.ref ob4), .val (.ref ob19), .val .null, .val .null, .val (.int (1 : Int32))] [.null, .null])
    refine own_go (fun _ => Jvm.RoadKit.acmp (g := (mkF m 315 #[.val (.int p0), .val (.int p1), .val (.int (3 : Int32)), .val (.int (1 : Int32)), .val (.ref ob1), .val (.ref ob3), .val (.ref ob10), .val (.ref ob4), .val (.ref ob19), .val .null, .val .null, .val (.int (1 : Int32))] [.null, .null])) X249 hx rfl rfl rfl (pc0 := 315) (pc' := 318) (same := true) rfl (hb hby at_315) rfl (decide_eq_true rfl) (by decide) (by decide)) ?_
    show own_G p e below Φ T249 (mkF m 318 #[.val (.int p0), .val (.int p1), .val (.int (3 : Int32)), .val (.int (1 : Int32)), .val (.ref ob1), .val (.ref ob3), .val (.ref ob10), .val (.ref ob4), .val (.ref ob19), .val .null, .val .null, .val (.int (1 : Int32))] [])
    refine own_go (fun _ => XS.aload X249.here hx rfl (hb hby at_318) rfl rfl) ?_
    show own_G p e below Φ T249 (mkF m 320 #[.val (.int p0), .val (.int p1), .val (.int (3 : Int32)), .val (.int (1 : Int32)), .val (.ref ob1), .val (.ref ob3), .val (.ref ob10), .val (.ref ob4), .val (.ref ob19), .val .null, .val .null, .val (.int (1 : Int32))] [(.ref ob19)])
    obtain ⟨cq250, kq250, q250a, q250b, q250c⟩ := isOf hZ hs249 f248
    obtain ⟨_, _, ⟨T250, zL250, zk250, zn250⟩, -, X250, ⟨Lc250, hQ250, l250, y250, z250⟩, st250⟩ := X249.virtualBack hx (y := (⟨"corro/core/Order", "level", "()Lcorro/core/Level;"⟩ : MethodName)) (z := (⟨"corro/core/Order", "level", "()Lcorro/core/Level;"⟩ : MethodName)) hown (mvT hZ (wd_47 hw)) (mvT hZ (wd_48 hw)) (notFace_of_selects (args := #[]) (mvT hZ (wd_50 hw))) (mvT hZ (wd_50 hw)) (mvT hZ (wd_49 hw)) (by decide) (backOf (W := 0) (rmGlevel l Z a0 hw [] ob19 (.ref ob1) T239.heap n0 Zp239 p239_7 rfl) hZ (wd_51 hw) (wd_13 hw) (by decide) (by decide)) q250a q250c (g := (mkF m 320 #[.val (.int p0), .val (.int p1), .val (.int (3 : Int32)), .val (.int (1 : Int32)), .val (.ref ob1), .val (.ref ob3), .val (.ref ob10), .val (.ref ob4), .val (.ref ob19), .val .null, .val .null, .val (.int (1 : Int32))] [(.ref ob19)])) rfl (by rw [hml]; rfl) (Steps.refl _) (argsL := []) (rest := []) (lenOf pd_3 rfl) rfl (by show 2 * 0 + _ ≤ _; exact Nat.le_of_eq rfl) (hb hby at_320) (fun _ _ => ⟨rfl, hs249, (by decide : 5 + 0 ≤ _), (by decide : 41 + 0 ≤ _)⟩)
    dsimp only [Pt.U, Pt.locs, Pt.cells, Pt.slots] at X250 l250 y250 z250 st250 hQ250
    subst l250 y250 z250
    obtain ⟨rfl, N250q, hs250⟩ := hQ250
    have N250 := Fr.app N249 N250q
    refine own_on st250 ?_
    show own_G p e below Φ T250 (mkF m 323 #[.val (.int p0), .val (.int p1), .val (.int (3 : Int32)), .val (.int (1 : Int32)), .val (.ref ob1), .val (.ref ob3), .val (.ref ob10), .val (.ref ob4), .val (.ref ob19), .val .null, .val .null, .val (.int (1 : Int32))] [(.ref ob1)])
    refine own_go (fun _ => XS.aload X250.here hx rfl (hb hby at_323) rfl rfl) ?_
    show own_G p e below Φ T250 (mkF m 325 #[.val (.int p0), .val (.int p1), .val (.int (3 : Int32)), .val (.int (1 : Int32)), .val (.ref ob1), .val (.ref ob3), .val (.ref ob10), .val (.ref ob4), .val (.ref ob19), .val .null, .val .null, .val (.int (1 : Int32))] [(.ref ob1), (.ref ob1)])
    refine own_go (fun _ => Jvm.RoadKit.acmp (g := (mkF m 325 #[.val (.int p0), .val (.int p1), .val (.int (3 : Int32)), .val (.int (1 : Int32)), .val (.ref ob1), .val (.ref ob3), .val (.ref ob10), .val (.ref ob4), .val (.ref ob19), .val .null, .val .null, .val (.int (1 : Int32))] [(.ref ob1), (.ref ob1)])) X250 hx rfl rfl rfl (pc0 := 325) (pc' := 328) (same := true) rfl (hb hby at_325) rfl (decide_eq_true rfl) (by decide) (by decide)) ?_
    show own_G p e below Φ T250 (mkF m 328 #[.val (.int p0), .val (.int p1), .val (.int (3 : Int32)), .val (.int (1 : Int32)), .val (.ref ob1), .val (.ref ob3), .val (.ref ob10), .val (.ref ob4), .val (.ref ob19), .val .null, .val .null, .val (.int (1 : Int32))] [])
    refine own_go (fun _ => XS.iconst X250.here hx rfl (hb hby at_328)) ?_
    show own_G p e below Φ T250 (mkF m 329 #[.val (.int p0), .val (.int p1), .val (.int (3 : Int32)), .val (.int (1 : Int32)), .val (.ref ob1), .val (.ref ob3), .val (.ref ob10), .val (.ref ob4), .val (.ref ob19), .val .null, .val .null, .val (.int (1 : Int32))] [(.int (1 : Int32))])
    refine own_go (fun _ => XS.goto X250.here hx rfl (pc0 := 329) (pc' := 333) rfl (hb hby at_329) (by decide) (by decide)) ?_
    show own_G p e below Φ T250 (mkF m 333 #[.val (.int p0), .val (.int p1), .val (.int (3 : Int32)), .val (.int (1 : Int32)), .val (.ref ob1), .val (.ref ob3), .val (.ref ob10), .val (.ref ob4), .val (.ref ob19), .val .null, .val .null, .val (.int (1 : Int32))] [(.int (1 : Int32))])
    refine own_go (fun _ => XS.istore X250.here hx rfl (hb hby at_333) rfl (l' := #[.val (.int p0), .val (.int p1), .val (.int (3 : Int32)), .val (.int (1 : Int32)), .val (.ref ob1), .val (.ref ob3), .val (.ref ob10), .val (.ref ob4), .val (.ref ob19), .val .null, .val .null, .val (.int (1 : Int32))]) rfl) ?_
    show own_G p e below Φ T250 (mkF m 335 #[.val (.int p0), .val (.int p1), .val (.int (3 : Int32)), .val (.int (1 : Int32)), .val (.ref ob1), .val (.ref ob3), .val (.ref ob10), .val (.ref ob4), .val (.ref ob19), .val .null, .val .null, .val (.int (1 : Int32))] [])
    refine own_go (fun _ => XS.iload X250.here hx rfl (hb hby at_335) rfl) ?_
    show own_G p e below Φ T250 (mkF m 337 #[.val (.int p0), .val (.int p1), .val (.int (3 : Int32)), .val (.int (1 : Int32)), .val (.ref ob1), .val (.ref ob3), .val (.ref ob10), .val (.ref ob4), .val (.ref ob19), .val .null, .val .null, .val (.int (1 : Int32))] [(.int (1 : Int32))])
    rw [hΦ]
    refine own_ret X250 (v := some (.int (1 : Int32))) (fun h => by rw [Bd.returns] at h; cases h) (BodyLoose.notSynchronized Bd) (fun fs hr => retN X250 hx (t := .boolean) Bd.returns (by simp) (hb hby at_337) hr) ?_ (by decide) (by decide)
    rw [hs250]
    exact ⟨rfl, N250⟩
  · show own_G p e below Φ T56 (mkF m 92 #[.val (.int p0), .val (.int p1), .val (.int (3 : Int32)), .val (.int (2 : Int32)), .val (.ref ob1), .val (.ref ob3), .unset, .unset, .unset, .unset, .unset, .unset] [])
    refine own_go (fun _ => XS.iloadN X56.here hx rfl (hb hby at_92) rfl) ?_
    show own_G p e below Φ T56 (mkF m 93 #[.val (.int p0), .val (.int p1), .val (.int (3 : Int32)), .val (.int (2 : Int32)), .val (.ref ob1), .val (.ref ob3), .unset, .unset, .unset, .unset, .unset, .unset] [(.int (3 : Int32))])
    refine own_go (fun _ => XS.iconst X56.here hx rfl (hb hby at_93)) ?_
    show own_G p e below Φ T56 (mkF m 94 #[.val (.int p0), .val (.int p1), .val (.int (3 : Int32)), .val (.int (2 : Int32)), .val (.ref ob1), .val (.ref ob3), .unset, .unset, .unset, .unset, .unset, .unset] [(.int (1 : Int32)), (.int (3 : Int32))])
    refine own_go (fun _ => XS.icmpNo X56.here hx rfl (hb hby at_94) rfl (Jvm.Free.XT.ii_le_f (by decide : ((1 : Int32) < (3 : Int32))))) ?_
    show own_G p e below Φ T56 (mkF m 97 #[.val (.int p0), .val (.int p1), .val (.int (3 : Int32)), .val (.int (2 : Int32)), .val (.ref ob1), .val (.ref ob3), .unset, .unset, .unset, .unset, .unset, .unset] [])
    refine own_go (fun _ => XS.aload X56.here hx rfl (hb hby at_97) rfl rfl) ?_
    show own_G p e below Φ T56 (mkF m 99 #[.val (.int p0), .val (.int p1), .val (.int (3 : Int32)), .val (.int (2 : Int32)), .val (.ref ob1), .val (.ref ob3), .unset, .unset, .unset, .unset, .unset, .unset] [(.ref ob3)])
    refine own_go (fun _ => XS.iconst X56.here hx rfl (hb hby at_99)) ?_
    show own_G p e below Φ T56 (mkF m 100 #[.val (.int p0), .val (.int p1), .val (.int (3 : Int32)), .val (.int (2 : Int32)), .val (.ref ob1), .val (.ref ob3), .unset, .unset, .unset, .unset, .unset, .unset] [(.int (1 : Int32)), (.ref ob3)])
    have f251 : Arv Z T56.heap ob3 ka3 (.object "corro/core/Order") (3 : Int32) [(.ref ob4), (.ref ob10), (.ref ob19)] .null := V30.keep Kq56 (ninS ne_ob3_ob4 nin0)
    obtain ⟨cl252, Ar252, q252, S252, M252, H252, G252⟩ := id f251
    have hin252 : ¬ ((1 : Int32) < 0 ∨ cl252.slots.size ≤ ((1 : Int32)).toNatClampNeg) := inb_of S252 ⟨by decide, by decide⟩
    refine own_go (fun _ => X56.aaload hx (j := (1 : Int32)) (v := (.ref ob10)) Ar252.1 (State.isArrayOf_alike hZ.alike Ar252.2.1) rfl Ar252.2.2 hin252 (H252.at hin252 rfl) (g := (mkF m 100 #[.val (.int p0), .val (.int p1), .val (.int (3 : Int32)), .val (.int (2 : Int32)), .val (.ref ob1), .val (.ref ob3), .unset, .unset, .unset, .unset, .unset, .unset] [(.int (1 : Int32)), (.ref ob3)])) rfl rfl (hb hby at_100) _) ?_
    show own_G p e below Φ T56 (mkF m 101 #[.val (.int p0), .val (.int p1), .val (.int (3 : Int32)), .val (.int (2 : Int32)), .val (.ref ob1), .val (.ref ob3), .unset, .unset, .unset, .unset, .unset, .unset] [(.ref ob10)])
    refine own_go (fun _ => XS.aload X56.here hx rfl (hb hby at_101) rfl rfl) ?_
    show own_G p e below Φ T56 (mkF m 103 #[.val (.int p0), .val (.int p1), .val (.int (3 : Int32)), .val (.int (2 : Int32)), .val (.ref ob1), .val (.ref ob3), .unset, .unset, .unset, .unset, .unset, .unset] [(.ref ob1), (.ref ob10)])
    refine own_go (fun _ => XS.aload X56.here hx rfl (hb hby at_103) rfl rfl) ?_
    show own_G p e below Φ T56 (mkF m 105 #[.val (.int p0), .val (.int p1), .val (.int (3 : Int32)), .val (.int (2 : Int32)), .val (.ref ob1), .val (.ref ob3), .unset, .unset, .unset, .unset, .unset, .unset] [(.ref ob3), (.ref ob1), (.ref ob10)])
    refine own_go (fun _ => XS.iconst X56.here hx rfl (hb hby at_105)) ?_
    show own_G p e below Φ T56 (mkF m 106 #[.val (.int p0), .val (.int p1), .val (.int (3 : Int32)), .val (.int (2 : Int32)), .val (.ref ob1), .val (.ref ob3), .unset, .unset, .unset, .unset, .unset, .unset] [(.int (0 : Int32)), (.ref ob3), (.ref ob1), (.ref ob10)])
    obtain ⟨cl253, Ar253, q253, S253, M253, H253, G253⟩ := id f251
    have hin253 : ¬ ((0 : Int32) < 0 ∨ cl253.slots.size ≤ ((0 : Int32)).toNatClampNeg) := inb_of S253 ⟨by decide, by decide⟩
    refine own_go (fun _ => X56.aaload hx (j := (0 : Int32)) (v := (.ref ob4)) Ar253.1 (State.isArrayOf_alike hZ.alike Ar253.2.1) rfl Ar253.2.2 hin253 (H253.at hin253 rfl) (g := (mkF m 106 #[.val (.int p0), .val (.int p1), .val (.int (3 : Int32)), .val (.int (2 : Int32)), .val (.ref ob1), .val (.ref ob3), .unset, .unset, .unset, .unset, .unset, .unset] [(.int (0 : Int32)), (.ref ob3), (.ref ob1), (.ref ob10)])) rfl rfl (hb hby at_106) _) ?_
    show own_G p e below Φ T56 (mkF m 107 #[.val (.int p0), .val (.int p1), .val (.int (3 : Int32)), .val (.int (2 : Int32)), .val (.ref ob1), .val (.ref ob3), .unset, .unset, .unset, .unset, .unset, .unset] [(.ref ob4), (.ref ob1), (.ref ob10)])
    have f254 : Exa Z h19 ob10 "corro/core/Order" := f26.ext E19
    have f255 : Exa Z T27.heap ob10 "corro/core/Order" := f254.keep Kq27
    have f256 : Exa Z h30 ob10 "corro/core/Order" := f255.wr W30
    have f257 : Exa Z T56.heap ob10 "corro/core/Order" := f256.keep Kq56
    have f258 : Fld Z h18 ob10 "corro/core/Order" "level" "Lcorro/core/Level;" .null := p15_1.other W18 (Or.inl (Ne.symm ne_ob3_ob10))
    have f259 : Fld Z h19 ob10 "corro/core/Order" "level" "Lcorro/core/Level;" .null := f258.ext E19
    have f260 : Fld Z T27.heap ob10 "corro/core/Order" "level" "Lcorro/core/Level;" .null := f259.keep Kq27 (ninS ne_ob10_ob19 nin0)
    have f261 : Fld Z h30 ob10 "corro/core/Order" "level" "Lcorro/core/Level;" .null := f260.other W30 (Or.inl (Ne.symm ne_ob3_ob10))
    have f262 : Fld Z T56.heap ob10 "corro/core/Order" "level" "Lcorro/core/Level;" .null := f261.keep Kq56 (ninS (Ne.symm ne_ob4_ob10) nin0)
    have f263 : Fld Z h18 ob10 "corro/core/Order" "previous" "Lcorro/core/Order;" .null := p15_2.other W18 (Or.inl (Ne.symm ne_ob3_ob10))
    have f264 : Fld Z h19 ob10 "corro/core/Order" "previous" "Lcorro/core/Order;" .null := f263.ext E19
    have f265 : Fld Z T27.heap ob10 "corro/core/Order" "previous" "Lcorro/core/Order;" .null := f264.keep Kq27 (ninS ne_ob10_ob19 nin0)
    have f266 : Fld Z h30 ob10 "corro/core/Order" "previous" "Lcorro/core/Order;" .null := f265.other W30 (Or.inl (Ne.symm ne_ob3_ob10))
    have f267 : Fld Z T56.heap ob10 "corro/core/Order" "previous" "Lcorro/core/Order;" .null := f266.keep Kq56 (ninS (Ne.symm ne_ob4_ob10) nin0)
    have f268 : Fld Z h18 ob10 "corro/core/Order" "next" "Lcorro/core/Order;" .null := p15_3.other W18 (Or.inl (Ne.symm ne_ob3_ob10))
    have f269 : Fld Z h19 ob10 "corro/core/Order" "next" "Lcorro/core/Order;" .null := f268.ext E19
    have f270 : Fld Z T27.heap ob10 "corro/core/Order" "next" "Lcorro/core/Order;" .null := f269.keep Kq27 (ninS ne_ob10_ob19 nin0)
    have f271 : Fld Z h30 ob10 "corro/core/Order" "next" "Lcorro/core/Order;" .null := f270.other W30 (Or.inl (Ne.symm ne_ob3_ob10))
    have f272 : Fld Z T56.heap ob10 "corro/core/Order" "next" "Lcorro/core/Order;" .null := f271.keep Kq56 (ninS (Ne.symm ne_ob4_ob10) nin0)
    obtain ⟨cq273, kq273, q273a, q273b, q273c⟩ := isOf hZ rfl f257
    obtain ⟨_, _, ⟨T273, zL273, zk273, zn273⟩, -, X273, ⟨Lc273, hQ273, l273, y273, z273⟩, st273⟩ := X56.virtualBack hx (y := (⟨"corro/core/Order", "join", "(Lcorro/core/Level;Lcorro/core/Order;)V"⟩ : MethodName)) (z := (⟨"corro/core/Order", "join", "(Lcorro/core/Level;Lcorro/core/Order;)V"⟩ : MethodName)) hown (mvT hZ (wd_31 hw)) (mvT hZ (wd_32 hw)) (notFace_of_selects (args := #[]) (mvT hZ (wd_34 hw))) (mvT hZ (wd_34 hw)) (mvT hZ (wd_33 hw)) (by decide) (backOf (W := 0) (rmJO l Z a0 hw [] ob10 ob1 ob4 .null .null .null (.ref ob1) .null .null T56.heap n0 Zp56 f257 p56_0 f262 f267 f272 p56_1 p56_2 p56_3 g_ob10 g_ob4 (Ne.symm ne_ob4_ob10)) hZ (wd_35 hw) (wd_13 hw) (by decide) (by decide)) q273a q273c (g := (mkF m 107 #[.val (.int p0), .val (.int p1), .val (.int (3 : Int32)), .val (.int (2 : Int32)), .val (.ref ob1), .val (.ref ob3), .unset, .unset, .unset, .unset, .unset, .unset] [(.ref ob4), (.ref ob1), (.ref ob10)])) rfl (by rw [hml]; rfl) (Steps.refl _) (argsL := [(.ref ob1), (.ref ob4)]) (rest := []) (lenOf pd_2 rfl) rfl (by show 2 * 0 + _ ≤ _; exact Nat.le_of_eq rfl) (hb hby at_107) (fun _ _ => ⟨rfl, rfl, (by decide : 5 + 0 ≤ _), (by decide : 41 + 0 ≤ _)⟩)
    dsimp only [Pt.U, Pt.locs, Pt.cells, Pt.slots] at X273 l273 y273 z273 st273 hQ273
    subst l273 y273 z273
    obtain ⟨rfl, N273q, Kq273, p273_0, p273_1, p273_2, p273_3, p273_4, p273_5, p273_6⟩ := hQ273
    have N273 := Fr.app N56 N273q
    refine own_on st273 ?_
    have Zp273 : n0 ≤ T273.heap.size := Nat.le_trans Zp56 Kq273.1
    show own_G p e below Φ T273 (mkF m 110 #[.val (.int p0), .val (.int p1), .val (.int (3 : Int32)), .val (.int (2 : Int32)), .val (.ref ob1), .val (.ref ob3), .unset, .unset, .unset, .unset, .unset, .unset] [])
    refine own_go (fun _ => XS.iloadN X273.here hx rfl (hb hby at_110) rfl) ?_
    show own_G p e below Φ T273 (mkF m 111 #[.val (.int p0), .val (.int p1), .val (.int (3 : Int32)), .val (.int (2 : Int32)), .val (.ref ob1), .val (.ref ob3), .unset, .unset, .unset, .unset, .unset, .unset] [(.int (3 : Int32))])
    refine own_go (fun _ => XS.iconst X273.here hx rfl (hb hby at_111)) ?_
    show own_G p e below Φ T273 (mkF m 112 #[.val (.int p0), .val (.int p1), .val (.int (3 : Int32)), .val (.int (2 : Int32)), .val (.ref ob1), .val (.ref ob3), .unset, .unset, .unset, .unset, .unset, .unset] [(.int (2 : Int32)), (.int (3 : Int32))])
    refine own_go (fun _ => XS.icmpNo X273.here hx rfl (hb hby at_112) rfl (Jvm.Free.XT.ii_le_f (by decide : ((2 : Int32) < (3 : Int32))))) ?_
    show own_G p e below Φ T273 (mkF m 115 #[.val (.int p0), .val (.int p1), .val (.int (3 : Int32)), .val (.int (2 : Int32)), .val (.ref ob1), .val (.ref ob3), .unset, .unset, .unset, .unset, .unset, .unset] [])
    refine own_go (fun _ => XS.aload X273.here hx rfl (hb hby at_115) rfl rfl) ?_
    show own_G p e below Φ T273 (mkF m 117 #[.val (.int p0), .val (.int p1), .val (.int (3 : Int32)), .val (.int (2 : Int32)), .val (.ref ob1), .val (.ref ob3), .unset, .unset, .unset, .unset, .unset, .unset] [(.ref ob3)])
    refine own_go (fun _ => XS.iconst X273.here hx rfl (hb hby at_117)) ?_
    show own_G p e below Φ T273 (mkF m 118 #[.val (.int p0), .val (.int p1), .val (.int (3 : Int32)), .val (.int (2 : Int32)), .val (.ref ob1), .val (.ref ob3), .unset, .unset, .unset, .unset, .unset, .unset] [(.int (2 : Int32)), (.ref ob3)])
    have f274 : Arv Z T273.heap ob3 ka3 (.object "corro/core/Order") (3 : Int32) [(.ref ob4), (.ref ob10), (.ref ob19)] .null := f251.keep Kq273 (ninS ne_ob3_ob10 (ninS ne_ob3_ob4 nin0))
    obtain ⟨cl275, Ar275, q275, S275, M275, H275, G275⟩ := id f274
    have hin275 : ¬ ((2 : Int32) < 0 ∨ cl275.slots.size ≤ ((2 : Int32)).toNatClampNeg) := inb_of S275 ⟨by decide, by decide⟩
    refine own_go (fun _ => X273.aaload hx (j := (2 : Int32)) (v := (.ref ob19)) Ar275.1 (State.isArrayOf_alike hZ.alike Ar275.2.1) rfl Ar275.2.2 hin275 (H275.at hin275 rfl) (g := (mkF m 118 #[.val (.int p0), .val (.int p1), .val (.int (3 : Int32)), .val (.int (2 : Int32)), .val (.ref ob1), .val (.ref ob3), .unset, .unset, .unset, .unset, .unset, .unset] [(.int (2 : Int32)), (.ref ob3)])) rfl rfl (hb hby at_118) _) ?_
    show own_G p e below Φ T273 (mkF m 119 #[.val (.int p0), .val (.int p1), .val (.int (3 : Int32)), .val (.int (2 : Int32)), .val (.ref ob1), .val (.ref ob3), .unset, .unset, .unset, .unset, .unset, .unset] [(.ref ob19)])
    refine own_go (fun _ => XS.aload X273.here hx rfl (hb hby at_119) rfl rfl) ?_
    show own_G p e below Φ T273 (mkF m 121 #[.val (.int p0), .val (.int p1), .val (.int (3 : Int32)), .val (.int (2 : Int32)), .val (.ref ob1), .val (.ref ob3), .unset, .unset, .unset, .unset, .unset, .unset] [(.ref ob1), (.ref ob19)])
    refine own_go (fun _ => XS.aload X273.here hx rfl (hb hby at_121) rfl rfl) ?_
    show own_G p e below Φ T273 (mkF m 123 #[.val (.int p0), .val (.int p1), .val (.int (3 : Int32)), .val (.int (2 : Int32)), .val (.ref ob1), .val (.ref ob3), .unset, .unset, .unset, .unset, .unset, .unset] [(.ref ob3), (.ref ob1), (.ref ob19)])
    refine own_go (fun _ => XS.iconst X273.here hx rfl (hb hby at_123)) ?_
    show own_G p e below Φ T273 (mkF m 124 #[.val (.int p0), .val (.int p1), .val (.int (3 : Int32)), .val (.int (2 : Int32)), .val (.ref ob1), .val (.ref ob3), .unset, .unset, .unset, .unset, .unset, .unset] [(.int (1 : Int32)), (.ref ob3), (.ref ob1), (.ref ob19)])
    obtain ⟨cl276, Ar276, q276, S276, M276, H276, G276⟩ := id f274
    have hin276 : ¬ ((1 : Int32) < 0 ∨ cl276.slots.size ≤ ((1 : Int32)).toNatClampNeg) := inb_of S276 ⟨by decide, by decide⟩
    refine own_go (fun _ => X273.aaload hx (j := (1 : Int32)) (v := (.ref ob10)) Ar276.1 (State.isArrayOf_alike hZ.alike Ar276.2.1) rfl Ar276.2.2 hin276 (H276.at hin276 rfl) (g := (mkF m 124 #[.val (.int p0), .val (.int p1), .val (.int (3 : Int32)), .val (.int (2 : Int32)), .val (.ref ob1), .val (.ref ob3), .unset, .unset, .unset, .unset, .unset, .unset] [(.int (1 : Int32)), (.ref ob3), (.ref ob1), (.ref ob19)])) rfl rfl (hb hby at_124) _) ?_
    show own_G p e below Φ T273 (mkF m 125 #[.val (.int p0), .val (.int p1), .val (.int (3 : Int32)), .val (.int (2 : Int32)), .val (.ref ob1), .val (.ref ob3), .unset, .unset, .unset, .unset, .unset, .unset] [(.ref ob10), (.ref ob1), (.ref ob19)])
    have f277 : Exa Z h30 ob19 "corro/core/Order" := p27_0.wr W30
    have f278 : Exa Z T56.heap ob19 "corro/core/Order" := f277.keep Kq56
    have f279 : Exa Z T273.heap ob19 "corro/core/Order" := f278.keep Kq273
    have f280 : Fld Z h30 ob19 "corro/core/Order" "level" "Lcorro/core/Level;" .null := p27_1.other W30 (Or.inl (Ne.symm ne_ob3_ob19))
    have f281 : Fld Z T56.heap ob19 "corro/core/Order" "level" "Lcorro/core/Level;" .null := f280.keep Kq56 (ninS (Ne.symm ne_ob4_ob19) nin0)
    have f282 : Fld Z T273.heap ob19 "corro/core/Order" "level" "Lcorro/core/Level;" .null := f281.keep Kq273 (ninS (Ne.symm ne_ob10_ob19) (ninS (Ne.symm ne_ob4_ob19) nin0))
    have f283 : Fld Z h30 ob19 "corro/core/Order" "previous" "Lcorro/core/Order;" .null := p27_2.other W30 (Or.inl (Ne.symm ne_ob3_ob19))
    have f284 : Fld Z T56.heap ob19 "corro/core/Order" "previous" "Lcorro/core/Order;" .null := f283.keep Kq56 (ninS (Ne.symm ne_ob4_ob19) nin0)
    have f285 : Fld Z T273.heap ob19 "corro/core/Order" "previous" "Lcorro/core/Order;" .null := f284.keep Kq273 (ninS (Ne.symm ne_ob10_ob19) (ninS (Ne.symm ne_ob4_ob19) nin0))
    have f286 : Fld Z h30 ob19 "corro/core/Order" "next" "Lcorro/core/Order;" .null := p27_3.other W30 (Or.inl (Ne.symm ne_ob3_ob19))
    have f287 : Fld Z T56.heap ob19 "corro/core/Order" "next" "Lcorro/core/Order;" .null := f286.keep Kq56 (ninS (Ne.symm ne_ob4_ob19) nin0)
    have f288 : Fld Z T273.heap ob19 "corro/core/Order" "next" "Lcorro/core/Order;" .null := f287.keep Kq273 (ninS (Ne.symm ne_ob10_ob19) (ninS (Ne.symm ne_ob4_ob19) nin0))
    obtain ⟨cq289, kq289, q289a, q289b, q289c⟩ := isOf hZ rfl f279
    obtain ⟨_, _, ⟨T289, zL289, zk289, zn289⟩, -, X289, ⟨Lc289, hQ289, l289, y289, z289⟩, st289⟩ := X273.virtualBack hx (y := (⟨"corro/core/Order", "join", "(Lcorro/core/Level;Lcorro/core/Order;)V"⟩ : MethodName)) (z := (⟨"corro/core/Order", "join", "(Lcorro/core/Level;Lcorro/core/Order;)V"⟩ : MethodName)) hown (mvT hZ (wd_31 hw)) (mvT hZ (wd_32 hw)) (notFace_of_selects (args := #[]) (mvT hZ (wd_34 hw))) (mvT hZ (wd_34 hw)) (mvT hZ (wd_33 hw)) (by decide) (backOf (W := 0) (rmJO l Z a0 hw [] ob19 ob1 ob10 .null .null .null (.ref ob1) (.ref ob4) .null T273.heap n0 Zp273 f279 p273_0 f282 f285 f288 p273_1 p273_2 p273_3 g_ob19 g_ob10 (Ne.symm ne_ob10_ob19)) hZ (wd_35 hw) (wd_13 hw) (by decide) (by decide)) q289a q289c (g := (mkF m 125 #[.val (.int p0), .val (.int p1), .val (.int (3 : Int32)), .val (.int (2 : Int32)), .val (.ref ob1), .val (.ref ob3), .unset, .unset, .unset, .unset, .unset, .unset] [(.ref ob10), (.ref ob1), (.ref ob19)])) rfl (by rw [hml]; rfl) (Steps.refl _) (argsL := [(.ref ob1), (.ref ob10)]) (rest := []) (lenOf pd_2 rfl) rfl (by show 2 * 0 + _ ≤ _; exact Nat.le_of_eq rfl) (hb hby at_125) (fun _ _ => ⟨rfl, rfl, (by decide : 5 + 0 ≤ _), (by decide : 41 + 0 ≤ _)⟩)
    dsimp only [Pt.U, Pt.locs, Pt.cells, Pt.slots] at X289 l289 y289 z289 st289 hQ289
    subst l289 y289 z289
    obtain ⟨rfl, N289q, Kq289, p289_0, p289_1, p289_2, p289_3, p289_4, p289_5, p289_6⟩ := hQ289
    have N289 := Fr.app N273 N289q
    refine own_on st289 ?_
    have Zp289 : n0 ≤ T289.heap.size := Nat.le_trans Zp273 Kq289.1
    show own_G p e below Φ T289 (mkF m 128 #[.val (.int p0), .val (.int p1), .val (.int (3 : Int32)), .val (.int (2 : Int32)), .val (.ref ob1), .val (.ref ob3), .unset, .unset, .unset, .unset, .unset, .unset] [])
    refine own_go (fun _ => XS.aload X289.here hx rfl (hb hby at_128) rfl rfl) ?_
    show own_G p e below Φ T289 (mkF m 130 #[.val (.int p0), .val (.int p1), .val (.int (3 : Int32)), .val (.int (2 : Int32)), .val (.ref ob1), .val (.ref ob3), .unset, .unset, .unset, .unset, .unset, .unset] [(.ref ob3)])
    refine own_go (fun _ => XS.iloadN X289.here hx rfl (hb hby at_130) rfl) ?_
    show own_G p e below Φ T289 (mkF m 131 #[.val (.int p0), .val (.int p1), .val (.int (3 : Int32)), .val (.int (2 : Int32)), .val (.ref ob1), .val (.ref ob3), .unset, .unset, .unset, .unset, .unset, .unset] [(.int (2 : Int32)), (.ref ob3)])
    have f290 : Arv Z T289.heap ob3 ka3 (.object "corro/core/Order") (3 : Int32) [(.ref ob4), (.ref ob10), (.ref ob19)] .null := f274.keep Kq289 (ninS ne_ob3_ob19 (ninS ne_ob3_ob10 nin0))
    obtain ⟨cl291, Ar291, q291, S291, M291, H291, G291⟩ := id f290
    have hin291 : ¬ ((2 : Int32) < 0 ∨ cl291.slots.size ≤ ((2 : Int32)).toNatClampNeg) := inb_of S291 ⟨by decide, by decide⟩
    refine own_go (fun _ => X289.aaload hx (j := (2 : Int32)) (v := (.ref ob19)) Ar291.1 (State.isArrayOf_alike hZ.alike Ar291.2.1) rfl Ar291.2.2 hin291 (H291.at hin291 rfl) (g := (mkF m 131 #[.val (.int p0), .val (.int p1), .val (.int (3 : Int32)), .val (.int (2 : Int32)), .val (.ref ob1), .val (.ref ob3), .unset, .unset, .unset, .unset, .unset, .unset] [(.int (2 : Int32)), (.ref ob3)])) rfl rfl (hb hby at_131) _) ?_
    show own_G p e below Φ T289 (mkF m 132 #[.val (.int p0), .val (.int p1), .val (.int (3 : Int32)), .val (.int (2 : Int32)), .val (.ref ob1), .val (.ref ob3), .unset, .unset, .unset, .unset, .unset, .unset] [(.ref ob19)])
    refine own_go (fun _ => XS.astore X289.here hx rfl (hb hby at_132) rfl rfl (l' := #[.val (.int p0), .val (.int p1), .val (.int (3 : Int32)), .val (.int (2 : Int32)), .val (.ref ob1), .val (.ref ob3), .val (.ref ob19), .unset, .unset, .unset, .unset, .unset]) rfl) ?_
    show own_G p e below Φ T289 (mkF m 134 #[.val (.int p0), .val (.int p1), .val (.int (3 : Int32)), .val (.int (2 : Int32)), .val (.ref ob1), .val (.ref ob3), .val (.ref ob19), .unset, .unset, .unset, .unset, .unset] [])
    refine own_go (fun _ => XS.iloadN X289.here hx rfl (hb hby at_134) rfl) ?_
    show own_G p e below Φ T289 (mkF m 135 #[.val (.int p0), .val (.int p1), .val (.int (3 : Int32)), .val (.int (2 : Int32)), .val (.ref ob1), .val (.ref ob3), .val (.ref ob19), .unset, .unset, .unset, .unset, .unset] [(.int (2 : Int32))])
    refine own_go (fun _ => XS.ifNo X289.here hx rfl (hb hby at_135) rfl (Jvm.Free.XT.i0_le_f (by decide : ((0 : Int32) < (2 : Int32))))) ?_
    show own_G p e below Φ T289 (mkF m 138 #[.val (.int p0), .val (.int p1), .val (.int (3 : Int32)), .val (.int (2 : Int32)), .val (.ref ob1), .val (.ref ob3), .val (.ref ob19), .unset, .unset, .unset, .unset, .unset] [])
    refine own_go (fun _ => XS.aload X289.here hx rfl (hb hby at_138) rfl rfl) ?_
    show own_G p e below Φ T289 (mkF m 140 #[.val (.int p0), .val (.int p1), .val (.int (3 : Int32)), .val (.int (2 : Int32)), .val (.ref ob1), .val (.ref ob3), .val (.ref ob19), .unset, .unset, .unset, .unset, .unset] [(.ref ob3)])
    refine own_go (fun _ => XS.iloadN X289.here hx rfl (hb hby at_140) rfl) ?_
    show own_G p e below Φ T289 (mkF m 141 #[.val (.int p0), .val (.int p1), .val (.int (3 : Int32)), .val (.int (2 : Int32)), .val (.ref ob1), .val (.ref ob3), .val (.ref ob19), .unset, .unset, .unset, .unset, .unset] [(.int (2 : Int32)), (.ref ob3)])
    refine own_go (fun _ => XS.iconst X289.here hx rfl (hb hby at_141)) ?_
    show own_G p e below Φ T289 (mkF m 142 #[.val (.int p0), .val (.int p1), .val (.int (3 : Int32)), .val (.int (2 : Int32)), .val (.ref ob1), .val (.ref ob3), .val (.ref ob19), .unset, .unset, .unset, .unset, .unset] [(.int (1 : Int32)), (.int (2 : Int32)), (.ref ob3)])
    refine own_go (fun _ => XS.isub X289.here hx rfl (hb hby at_142) rfl) ?_
    show own_G p e below Φ T289 (mkF m 143 #[.val (.int p0), .val (.int p1), .val (.int (3 : Int32)), .val (.int (2 : Int32)), .val (.ref ob1), .val (.ref ob3), .val (.ref ob19), .unset, .unset, .unset, .unset, .unset] [(.int (1 : Int32)), (.ref ob3)])
    obtain ⟨cl292, Ar292, q292, S292, M292, H292, G292⟩ := id f290
    have hin292 : ¬ ((1 : Int32) < 0 ∨ cl292.slots.size ≤ ((1 : Int32)).toNatClampNeg) := inb_of S292 ⟨by decide, by decide⟩
    refine own_go (fun _ => X289.aaload hx (j := (1 : Int32)) (v := (.ref ob10)) Ar292.1 (State.isArrayOf_alike hZ.alike Ar292.2.1) rfl Ar292.2.2 hin292 (H292.at hin292 rfl) (g := (mkF m 143 #[.val (.int p0), .val (.int p1), .val (.int (3 : Int32)), .val (.int (2 : Int32)), .val (.ref ob1), .val (.ref ob3), .val (.ref ob19), .unset, .unset, .unset, .unset, .unset] [(.int (1 : Int32)), (.ref ob3)])) rfl rfl (hb hby at_143) _) ?_
    show own_G p e below Φ T289 (mkF m 144 #[.val (.int p0), .val (.int p1), .val (.int (3 : Int32)), .val (.int (2 : Int32)), .val (.ref ob1), .val (.ref ob3), .val (.ref ob19), .unset, .unset, .unset, .unset, .unset] [(.ref ob10)])
    refine own_go (fun _ => XS.goto X289.here hx rfl (pc0 := 144) (pc' := 148) rfl (hb hby at_144) (by decide) (by decide)) ?_
    show own_G p e below Φ T289 (mkF m 148 #[.val (.int p0), .val (.int p1), .val (.int (3 : Int32)), .val (.int (2 : Int32)), .val (.ref ob1), .val (.ref ob3), .val (.ref ob19), .unset, .unset, .unset, .unset, .unset] [(.ref ob10)])
    refine own_go (fun _ => XS.astore X289.here hx rfl (hb hby at_148) rfl rfl (l' := #[.val (.int p0), .val (.int p1), .val (.int (3 : Int32)), .val (.int (2 : Int32)), .val (.ref ob1), .val (.ref ob3), .val (.ref ob19), .val (.ref ob10), .unset, .unset, .unset, .unset]) rfl) ?_
    show own_G p e below Φ T289 (mkF m 150 #[.val (.int p0), .val (.int p1), .val (.int (3 : Int32)), .val (.int (2 : Int32)), .val (.ref ob1), .val (.ref ob3), .val (.ref ob19), .val (.ref ob10), .unset, .unset, .unset, .unset] [])
    refine own_go (fun _ => XS.iloadN X289.here hx rfl (hb hby at_150) rfl) ?_
    show own_G p e below Φ T289 (mkF m 151 #[.val (.int p0), .val (.int p1), .val (.int (3 : Int32)), .val (.int (2 : Int32)), .val (.ref ob1), .val (.ref ob3), .val (.ref ob19), .val (.ref ob10), .unset, .unset, .unset, .unset] [(.int (2 : Int32))])
    refine own_go (fun _ => XS.iconst X289.here hx rfl (hb hby at_151)) ?_
    show own_G p e below Φ T289 (mkF m 152 #[.val (.int p0), .val (.int p1), .val (.int (3 : Int32)), .val (.int (2 : Int32)), .val (.ref ob1), .val (.ref ob3), .val (.ref ob19), .val (.ref ob10), .unset, .unset, .unset, .unset] [(.int (1 : Int32)), (.int (2 : Int32))])
    refine own_go (fun _ => XS.iadd X289.here hx rfl (hb hby at_152) rfl) ?_
    show own_G p e below Φ T289 (mkF m 153 #[.val (.int p0), .val (.int p1), .val (.int (3 : Int32)), .val (.int (2 : Int32)), .val (.ref ob1), .val (.ref ob3), .val (.ref ob19), .val (.ref ob10), .unset, .unset, .unset, .unset] [(.int (3 : Int32))])
    refine own_go (fun _ => XS.iloadN X289.here hx rfl (hb hby at_153) rfl) ?_
    show own_G p e below Φ T289 (mkF m 154 #[.val (.int p0), .val (.int p1), .val (.int (3 : Int32)), .val (.int (2 : Int32)), .val (.ref ob1), .val (.ref ob3), .val (.ref ob19), .val (.ref ob10), .unset, .unset, .unset, .unset] [(.int (3 : Int32)), (.int (3 : Int32))])
    refine own_go (fun _ => XS.icmpYes X289.here hx rfl (pc0 := 154) (pc' := 166) rfl (hb hby at_154) rfl (Jvm.Free.XT.ii_ge_t (by decide : ¬ ((3 : Int32) < (3 : Int32)))) (by decide) (by decide)) ?_
    show own_G p e below Φ T289 (mkF m 166 #[.val (.int p0), .val (.int p1), .val (.int (3 : Int32)), .val (.int (2 : Int32)), .val (.ref ob1), .val (.ref ob3), .val (.ref ob19), .val (.ref ob10), .unset, .unset, .unset, .unset] [])
    refine own_go (fun _ => XS.aconstNull X289.here hx rfl (hb hby at_166)) ?_
    show own_G p e below Φ T289 (mkF m 167 #[.val (.int p0), .val (.int p1), .val (.int (3 : Int32)), .val (.int (2 : Int32)), .val (.ref ob1), .val (.ref ob3), .val (.ref ob19), .val (.ref ob10), .unset, .unset, .unset, .unset] [.null])
    refine own_go (fun _ => XS.astore X289.here hx rfl (hb hby at_167) rfl rfl (l' := #[.val (.int p0), .val (.int p1), .val (.int (3 : Int32)), .val (.int (2 : Int32)), .val (.ref ob1), .val (.ref ob3), .val (.ref ob19), .val (.ref ob10), .val .null, .unset, .unset, .unset]) rfl) ?_
    show own_G p e below Φ T289 (mkF m 169 #[.val (.int p0), .val (.int p1), .val (.int (3 : Int32)), .val (.int (2 : Int32)), .val (.ref ob1), .val (.ref ob3), .val (.ref ob19), .val (.ref ob10), .val .null, .unset, .unset, .unset] [])
    refine own_go (fun _ => XS.iloadN X289.here hx rfl (hb hby at_169) rfl) ?_
    show own_G p e below Φ T289 (mkF m 170 #[.val (.int p0), .val (.int p1), .val (.int (3 : Int32)), .val (.int (2 : Int32)), .val (.ref ob1), .val (.ref ob3), .val (.ref ob19), .val (.ref ob10), .val .null, .unset, .unset, .unset] [(.int (2 : Int32))])
    refine own_go (fun _ => XS.iconst X289.here hx rfl (hb hby at_170)) ?_
    show own_G p e below Φ T289 (mkF m 171 #[.val (.int p0), .val (.int p1), .val (.int (3 : Int32)), .val (.int (2 : Int32)), .val (.ref ob1), .val (.ref ob3), .val (.ref ob19), .val (.ref ob10), .val .null, .unset, .unset, .unset] [(.int (1 : Int32)), (.int (2 : Int32))])
    refine own_go (fun _ => XS.icmpNo X289.here hx rfl (hb hby at_171) rfl (Jvm.Free.XT.ii_le_f (by decide : ((1 : Int32) < (2 : Int32))))) ?_
    show own_G p e below Φ T289 (mkF m 174 #[.val (.int p0), .val (.int p1), .val (.int (3 : Int32)), .val (.int (2 : Int32)), .val (.ref ob1), .val (.ref ob3), .val (.ref ob19), .val (.ref ob10), .val .null, .unset, .unset, .unset] [])
    refine own_go (fun _ => XS.aload X289.here hx rfl (hb hby at_174) rfl rfl) ?_
    show own_G p e below Φ T289 (mkF m 176 #[.val (.int p0), .val (.int p1), .val (.int (3 : Int32)), .val (.int (2 : Int32)), .val (.ref ob1), .val (.ref ob3), .val (.ref ob19), .val (.ref ob10), .val .null, .unset, .unset, .unset] [(.ref ob3)])
    refine own_go (fun _ => XS.iloadN X289.here hx rfl (hb hby at_176) rfl) ?_
    show own_G p e below Φ T289 (mkF m 177 #[.val (.int p0), .val (.int p1), .val (.int (3 : Int32)), .val (.int (2 : Int32)), .val (.ref ob1), .val (.ref ob3), .val (.ref ob19), .val (.ref ob10), .val .null, .unset, .unset, .unset] [(.int (2 : Int32)), (.ref ob3)])
    refine own_go (fun _ => XS.iconst X289.here hx rfl (hb hby at_177)) ?_
    show own_G p e below Φ T289 (mkF m 178 #[.val (.int p0), .val (.int p1), .val (.int (3 : Int32)), .val (.int (2 : Int32)), .val (.ref ob1), .val (.ref ob3), .val (.ref ob19), .val (.ref ob10), .val .null, .unset, .unset, .unset] [(.int (2 : Int32)), (.int (2 : Int32)), (.ref ob3)])
    refine own_go (fun _ => XS.isub X289.here hx rfl (hb hby at_178) rfl) ?_
    show own_G p e below Φ T289 (mkF m 179 #[.val (.int p0), .val (.int p1), .val (.int (3 : Int32)), .val (.int (2 : Int32)), .val (.ref ob1), .val (.ref ob3), .val (.ref ob19), .val (.ref ob10), .val .null, .unset, .unset, .unset] [(.int (0 : Int32)), (.ref ob3)])
    obtain ⟨cl293, Ar293, q293, S293, M293, H293, G293⟩ := id f290
    have hin293 : ¬ ((0 : Int32) < 0 ∨ cl293.slots.size ≤ ((0 : Int32)).toNatClampNeg) := inb_of S293 ⟨by decide, by decide⟩
    refine own_go (fun _ => X289.aaload hx (j := (0 : Int32)) (v := (.ref ob4)) Ar293.1 (State.isArrayOf_alike hZ.alike Ar293.2.1) rfl Ar293.2.2 hin293 (H293.at hin293 rfl) (g := (mkF m 179 #[.val (.int p0), .val (.int p1), .val (.int (3 : Int32)), .val (.int (2 : Int32)), .val (.ref ob1), .val (.ref ob3), .val (.ref ob19), .val (.ref ob10), .val .null, .unset, .unset, .unset] [(.int (0 : Int32)), (.ref ob3)])) rfl rfl (hb hby at_179) _) ?_
    show own_G p e below Φ T289 (mkF m 180 #[.val (.int p0), .val (.int p1), .val (.int (3 : Int32)), .val (.int (2 : Int32)), .val (.ref ob1), .val (.ref ob3), .val (.ref ob19), .val (.ref ob10), .val .null, .unset, .unset, .unset] [(.ref ob4)])
    refine own_go (fun _ => XS.goto X289.here hx rfl (pc0 := 180) (pc' := 184) rfl (hb hby at_180) (by decide) (by decide)) ?_
    show own_G p e below Φ T289 (mkF m 184 #[.val (.int p0), .val (.int p1), .val (.int (3 : Int32)), .val (.int (2 : Int32)), .val (.ref ob1), .val (.ref ob3), .val (.ref ob19), .val (.ref ob10), .val .null, .unset, .unset, .unset] [(.ref ob4)])
    refine own_go (fun _ => XS.astore X289.here hx rfl (hb hby at_184) rfl rfl (l' := #[.val (.int p0), .val (.int p1), .val (.int (3 : Int32)), .val (.int (2 : Int32)), .val (.ref ob1), .val (.ref ob3), .val (.ref ob19), .val (.ref ob10), .val .null, .val (.ref ob4), .unset, .unset]) rfl) ?_
    show own_G p e below Φ T289 (mkF m 186 #[.val (.int p0), .val (.int p1), .val (.int (3 : Int32)), .val (.int (2 : Int32)), .val (.ref ob1), .val (.ref ob3), .val (.ref ob19), .val (.ref ob10), .val .null, .val (.ref ob4), .unset, .unset] [])
    refine own_go (fun _ => XS.iloadN X289.here hx rfl (hb hby at_186) rfl) ?_
    show own_G p e below Φ T289 (mkF m 187 #[.val (.int p0), .val (.int p1), .val (.int (3 : Int32)), .val (.int (2 : Int32)), .val (.ref ob1), .val (.ref ob3), .val (.ref ob19), .val (.ref ob10), .val .null, .val (.ref ob4), .unset, .unset] [(.int (2 : Int32))])
    refine own_go (fun _ => XS.iconst X289.here hx rfl (hb hby at_187)) ?_
    show own_G p e below Φ T289 (mkF m 188 #[.val (.int p0), .val (.int p1), .val (.int (3 : Int32)), .val (.int (2 : Int32)), .val (.ref ob1), .val (.ref ob3), .val (.ref ob19), .val (.ref ob10), .val .null, .val (.ref ob4), .unset, .unset] [(.int (2 : Int32)), (.int (2 : Int32))])
    refine own_go (fun _ => XS.iadd X289.here hx rfl (hb hby at_188) rfl) ?_
    show own_G p e below Φ T289 (mkF m 189 #[.val (.int p0), .val (.int p1), .val (.int (3 : Int32)), .val (.int (2 : Int32)), .val (.ref ob1), .val (.ref ob3), .val (.ref ob19), .val (.ref ob10), .val .null, .val (.ref ob4), .unset, .unset] [(.int (4 : Int32))])
    refine own_go (fun _ => XS.iloadN X289.here hx rfl (hb hby at_189) rfl) ?_
    show own_G p e below Φ T289 (mkF m 190 #[.val (.int p0), .val (.int p1), .val (.int (3 : Int32)), .val (.int (2 : Int32)), .val (.ref ob1), .val (.ref ob3), .val (.ref ob19), .val (.ref ob10), .val .null, .val (.ref ob4), .unset, .unset] [(.int (3 : Int32)), (.int (4 : Int32))])
    refine own_go (fun _ => XS.icmpYes X289.here hx rfl (pc0 := 190) (pc' := 202) rfl (hb hby at_190) rfl (Jvm.Free.XT.ii_ge_t (by decide : ¬ ((4 : Int32) < (3 : Int32)))) (by decide) (by decide)) ?_
    show own_G p e below Φ T289 (mkF m 202 #[.val (.int p0), .val (.int p1), .val (.int (3 : Int32)), .val (.int (2 : Int32)), .val (.ref ob1), .val (.ref ob3), .val (.ref ob19), .val (.ref ob10), .val .null, .val (.ref ob4), .unset, .unset] [])
    refine own_go (fun _ => XS.aconstNull X289.here hx rfl (hb hby at_202)) ?_
    show own_G p e below Φ T289 (mkF m 203 #[.val (.int p0), .val (.int p1), .val (.int (3 : Int32)), .val (.int (2 : Int32)), .val (.ref ob1), .val (.ref ob3), .val (.ref ob19), .val (.ref ob10), .val .null, .val (.ref ob4), .unset, .unset] [.null])
    refine own_go (fun _ => XS.astore X289.here hx rfl (hb hby at_203) rfl rfl (l' := #[.val (.int p0), .val (.int p1), .val (.int (3 : Int32)), .val (.int (2 : Int32)), .val (.ref ob1), .val (.ref ob3), .val (.ref ob19), .val (.ref ob10), .val .null, .val (.ref ob4), .val .null, .unset]) rfl) ?_
    show own_G p e below Φ T289 (mkF m 205 #[.val (.int p0), .val (.int p1), .val (.int (3 : Int32)), .val (.int (2 : Int32)), .val (.ref ob1), .val (.ref ob3), .val (.ref ob19), .val (.ref ob10), .val .null, .val (.ref ob4), .val .null, .unset] [])
    refine own_go (fun _ => XS.aload X289.here hx rfl (hb hby at_205) rfl rfl) ?_
    show own_G p e below Φ T289 (mkF m 207 #[.val (.int p0), .val (.int p1), .val (.int (3 : Int32)), .val (.int (2 : Int32)), .val (.ref ob1), .val (.ref ob3), .val (.ref ob19), .val (.ref ob10), .val .null, .val (.ref ob4), .val .null, .unset] [(.ref ob19)])
    have f294 : Exa Z T289.heap ob10 "corro/core/Order" := p273_0.keep Kq289
    obtain ⟨cq295, kq295, q295a, q295b, q295c⟩ := isOf hZ rfl p289_0
    obtain ⟨_, _, ⟨T295, zL295, zk295, zn295⟩, -, X295, ⟨Lc295, hQ295, l295, y295, z295⟩, st295⟩ := X289.virtualBack hx (y := (⟨"corro/core/Order", "leave", "()V"⟩ : MethodName)) (z := (⟨"corro/core/Order", "leave", "()V"⟩ : MethodName)) hown (mvT hZ (wd_42 hw)) (mvT hZ (wd_43 hw)) (notFace_of_selects (args := #[]) (mvT hZ (wd_45 hw))) (mvT hZ (wd_45 hw)) (mvT hZ (wd_44 hw)) (by decide) (backOf (W := 0) (rmV10 l Z a0 hw [] ob19 (.ref ob1) ob10 (.ref ob1) (.ref ob4) (.ref ob19) T289.heap n0 Zp289 p289_0 p289_1 p289_2 p289_3 g_ob19 f294 p289_4 p289_5 p289_6 g_ob10 (Ne.symm ne_ob10_ob19)) hZ (wd_46 hw) (wd_13 hw) (by decide) (by decide)) q295a q295c (g := (mkF m 207 #[.val (.int p0), .val (.int p1), .val (.int (3 : Int32)), .val (.int (2 : Int32)), .val (.ref ob1), .val (.ref ob3), .val (.ref ob19), .val (.ref ob10), .val .null, .val (.ref ob4), .val .null, .unset] [(.ref ob19)])) rfl (by rw [hml]; rfl) (Steps.refl _) (argsL := []) (rest := []) (lenOf pd_0 rfl) rfl (by show 2 * 0 + _ ≤ _; exact Nat.le_of_eq rfl) (hb hby at_207) (fun _ _ => ⟨rfl, rfl, (by decide : 5 + 0 ≤ _), (by decide : 41 + 0 ≤ _)⟩)
    dsimp only [Pt.U, Pt.locs, Pt.cells, Pt.slots] at X295 l295 y295 z295 st295 hQ295
    subst l295 y295 z295
    obtain ⟨rfl, N295q, Kq295, p295_0, p295_1, p295_2, p295_3, p295_4, p295_5, p295_6⟩ := hQ295
    have N295 := Fr.app N289 N295q
    refine own_on st295 ?_
    have Zp295 : n0 ≤ T295.heap.size := Nat.le_trans Zp289 Kq295.1
    show own_G p e below Φ T295 (mkF m 210 #[.val (.int p0), .val (.int p1), .val (.int (3 : Int32)), .val (.int (2 : Int32)), .val (.ref ob1), .val (.ref ob3), .val (.ref ob19), .val (.ref ob10), .val .null, .val (.ref ob4), .val .null, .unset] [])
    refine own_go (fun _ => XS.aload X295.here hx rfl (hb hby at_210) rfl rfl) ?_
    show own_G p e below Φ T295 (mkF m 212 #[.val (.int p0), .val (.int p1), .val (.int (3 : Int32)), .val (.int (2 : Int32)), .val (.ref ob1), .val (.ref ob3), .val (.ref ob19), .val (.ref ob10), .val .null, .val (.ref ob4), .val .null, .unset] [(.ref ob19)])
    obtain ⟨cq296, kq296, q296a, q296b, q296c⟩ := isOf hZ rfl p295_0
    obtain ⟨_, _, ⟨T296, zL296, zk296, zn296⟩, -, X296, ⟨Lc296, hQ296, l296, y296, z296⟩, st296⟩ := X295.virtualBack hx (y := (⟨"corro/core/Order", "level", "()Lcorro/core/Level;"⟩ : MethodName)) (z := (⟨"corro/core/Order", "level", "()Lcorro/core/Level;"⟩ : MethodName)) hown (mvT hZ (wd_47 hw)) (mvT hZ (wd_48 hw)) (notFace_of_selects (args := #[]) (mvT hZ (wd_50 hw))) (mvT hZ (wd_50 hw)) (mvT hZ (wd_49 hw)) (by decide) (backOf (W := 0) (rmGlevel l Z a0 hw [] ob19 .null T295.heap n0 Zp295 p295_1 rfl) hZ (wd_51 hw) (wd_13 hw) (by decide) (by decide)) q296a q296c (g := (mkF m 212 #[.val (.int p0), .val (.int p1), .val (.int (3 : Int32)), .val (.int (2 : Int32)), .val (.ref ob1), .val (.ref ob3), .val (.ref ob19), .val (.ref ob10), .val .null, .val (.ref ob4), .val .null, .unset] [(.ref ob19)])) rfl (by rw [hml]; rfl) (Steps.refl _) (argsL := []) (rest := []) (lenOf pd_3 rfl) rfl (by show 2 * 0 + _ ≤ _; exact Nat.le_of_eq rfl) (hb hby at_212) (fun _ _ => ⟨rfl, rfl, (by decide : 5 + 0 ≤ _), (by decide : 41 + 0 ≤ _)⟩)
    dsimp only [Pt.U, Pt.locs, Pt.cells, Pt.slots] at X296 l296 y296 z296 st296 hQ296
    subst l296 y296 z296
    obtain ⟨rfl, N296q, hs296⟩ := hQ296
    have N296 := Fr.app N295 N296q
    refine own_on st296 ?_
    show own_G p e below Φ T296 (mkF m 215 #[.val (.int p0), .val (.int p1), .val (.int (3 : Int32)), .val (.int (2 : Int32)), .val (.ref ob1), .val (.ref ob3), .val (.ref ob19), .val (.ref ob10), .val .null, .val (.ref ob4), .val .null, .unset] [.null])
    refine own_go (fun _ => XS.ifnonnullNo X296.here hx rfl (hb hby at_215) rfl) ?_
    show own_G p e below Φ T296 (mkF m 218 #[.val (.int p0), .val (.int p1), .val (.int (3 : Int32)), .val (.int (2 : Int32)), .val (.ref ob1), .val (.ref ob3), .val (.ref ob19), .val (.ref ob10), .val .null, .val (.ref ob4), .val .null, .unset] [])
    refine own_go (fun _ => XS.aload X296.here hx rfl (hb hby at_218) rfl rfl) ?_
    show own_G p e below Φ T296 (mkF m 220 #[.val (.int p0), .val (.int p1), .val (.int (3 : Int32)), .val (.int (2 : Int32)), .val (.ref ob1), .val (.ref ob3), .val (.ref ob19), .val (.ref ob10), .val .null, .val (.ref ob4), .val .null, .unset] [(.ref ob19)])
    obtain ⟨cq297, kq297, q297a, q297b, q297c⟩ := isOf hZ hs296 p295_0
    obtain ⟨_, _, ⟨T297, zL297, zk297, zn297⟩, -, X297, ⟨Lc297, hQ297, l297, y297, z297⟩, st297⟩ := X296.virtualBack hx (y := (⟨"corro/core/Order", "previous", "()Lcorro/core/Order;"⟩ : MethodName)) (z := (⟨"corro/core/Order", "previous", "()Lcorro/core/Order;"⟩ : MethodName)) hown (mvT hZ (wd_52 hw)) (mvT hZ (wd_53 hw)) (notFace_of_selects (args := #[]) (mvT hZ (wd_55 hw))) (mvT hZ (wd_55 hw)) (mvT hZ (wd_54 hw)) (by decide) (backOf (W := 0) (rmGprevious l Z a0 hw [] ob19 .null T295.heap n0 Zp295 p295_2 rfl) hZ (wd_56 hw) (wd_13 hw) (by decide) (by decide)) q297a q297c (g := (mkF m 220 #[.val (.int p0), .val (.int p1), .val (.int (3 : Int32)), .val (.int (2 : Int32)), .val (.ref ob1), .val (.ref ob3), .val (.ref ob19), .val (.ref ob10), .val .null, .val (.ref ob4), .val .null, .unset] [(.ref ob19)])) rfl (by rw [hml]; rfl) (Steps.refl _) (argsL := []) (rest := []) (lenOf pd_4 rfl) rfl (by show 2 * 0 + _ ≤ _; exact Nat.le_of_eq rfl) (hb hby at_220) (fun _ _ => ⟨rfl, hs296, (by decide : 5 + 0 ≤ _), (by decide : 41 + 0 ≤ _)⟩)
    dsimp only [Pt.U, Pt.locs, Pt.cells, Pt.slots] at X297 l297 y297 z297 st297 hQ297
    subst l297 y297 z297
    obtain ⟨rfl, N297q, hs297⟩ := hQ297
    have N297 := Fr.app N296 N297q
    refine own_on st297 ?_
    show own_G p e below Φ T297 (mkF m 223 #[.val (.int p0), .val (.int p1), .val (.int (3 : Int32)), .val (.int (2 : Int32)), .val (.ref ob1), .val (.ref ob3), .val (.ref ob19), .val (.ref ob10), .val .null, .val (.ref ob4), .val .null, .unset] [.null])
    refine own_go (fun _ => XS.ifnonnullNo X297.here hx rfl (hb hby at_223) rfl) ?_
    show own_G p e below Φ T297 (mkF m 226 #[.val (.int p0), .val (.int p1), .val (.int (3 : Int32)), .val (.int (2 : Int32)), .val (.ref ob1), .val (.ref ob3), .val (.ref ob19), .val (.ref ob10), .val .null, .val (.ref ob4), .val .null, .unset] [])
    refine own_go (fun _ => XS.aload X297.here hx rfl (hb hby at_226) rfl rfl) ?_
    show own_G p e below Φ T297 (mkF m 228 #[.val (.int p0), .val (.int p1), .val (.int (3 : Int32)), .val (.int (2 : Int32)), .val (.ref ob1), .val (.ref ob3), .val (.ref ob19), .val (.ref ob10), .val .null, .val (.ref ob4), .val .null, .unset] [(.ref ob19)])
    obtain ⟨cq298, kq298, q298a, q298b, q298c⟩ := isOf hZ hs297 p295_0
    obtain ⟨_, _, ⟨T298, zL298, zk298, zn298⟩, -, X298, ⟨Lc298, hQ298, l298, y298, z298⟩, st298⟩ := X297.virtualBack hx (y := (⟨"corro/core/Order", "next", "()Lcorro/core/Order;"⟩ : MethodName)) (z := (⟨"corro/core/Order", "next", "()Lcorro/core/Order;"⟩ : MethodName)) hown (mvT hZ (wd_57 hw)) (mvT hZ (wd_58 hw)) (notFace_of_selects (args := #[]) (mvT hZ (wd_60 hw))) (mvT hZ (wd_60 hw)) (mvT hZ (wd_59 hw)) (by decide) (backOf (W := 0) (rmGnext l Z a0 hw [] ob19 .null T295.heap n0 Zp295 p295_3 rfl) hZ (wd_61 hw) (wd_13 hw) (by decide) (by decide)) q298a q298c (g := (mkF m 228 #[.val (.int p0), .val (.int p1), .val (.int (3 : Int32)), .val (.int (2 : Int32)), .val (.ref ob1), .val (.ref ob3), .val (.ref ob19), .val (.ref ob10), .val .null, .val (.ref ob4), .val .null, .unset] [(.ref ob19)])) rfl (by rw [hml]; rfl) (Steps.refl _) (argsL := []) (rest := []) (lenOf pd_4 rfl) rfl (by show 2 * 0 + _ ≤ _; exact Nat.le_of_eq rfl) (hb hby at_228) (fun _ _ => ⟨rfl, hs297, (by decide : 5 + 0 ≤ _), (by decide : 41 + 0 ≤ _)⟩)
    dsimp only [Pt.U, Pt.locs, Pt.cells, Pt.slots] at X298 l298 y298 z298 st298 hQ298
    subst l298 y298 z298
    obtain ⟨rfl, N298q, hs298⟩ := hQ298
    have N298 := Fr.app N297 N298q
    refine own_on st298 ?_
    show own_G p e below Φ T298 (mkF m 231 #[.val (.int p0), .val (.int p1), .val (.int (3 : Int32)), .val (.int (2 : Int32)), .val (.ref ob1), .val (.ref ob3), .val (.ref ob19), .val (.ref ob10), .val .null, .val (.ref ob4), .val .null, .unset] [.null])
    refine own_go (fun _ => XS.ifnonnullNo X298.here hx rfl (hb hby at_231) rfl) ?_
    show own_G p e below Φ T298 (mkF m 234 #[.val (.int p0), .val (.int p1), .val (.int (3 : Int32)), .val (.int (2 : Int32)), .val (.ref ob1), .val (.ref ob3), .val (.ref ob19), .val (.ref ob10), .val .null, .val (.ref ob4), .val .null, .unset] [])
    refine own_go (fun _ => XS.iconst X298.here hx rfl (hb hby at_234)) ?_
    show own_G p e below Φ T298 (mkF m 235 #[.val (.int p0), .val (.int p1), .val (.int (3 : Int32)), .val (.int (2 : Int32)), .val (.ref ob1), .val (.ref ob3), .val (.ref ob19), .val (.ref ob10), .val .null, .val (.ref ob4), .val .null, .unset] [(.int (1 : Int32))])
    refine own_go (fun _ => XS.goto X298.here hx rfl (pc0 := 235) (pc' := 239) rfl (hb hby at_235) (by decide) (by decide)) ?_
    show own_G p e below Φ T298 (mkF m 239 #[.val (.int p0), .val (.int p1), .val (.int (3 : Int32)), .val (.int (2 : Int32)), .val (.ref ob1), .val (.ref ob3), .val (.ref ob19), .val (.ref ob10), .val .null, .val (.ref ob4), .val .null, .unset] [(.int (1 : Int32))])
    refine own_go (fun _ => XS.istore X298.here hx rfl (hb hby at_239) rfl (l' := #[.val (.int p0), .val (.int p1), .val (.int (3 : Int32)), .val (.int (2 : Int32)), .val (.ref ob1), .val (.ref ob3), .val (.ref ob19), .val (.ref ob10), .val .null, .val (.ref ob4), .val .null, .val (.int (1 : Int32))]) rfl) ?_
    show own_G p e below Φ T298 (mkF m 241 #[.val (.int p0), .val (.int p1), .val (.int (3 : Int32)), .val (.int (2 : Int32)), .val (.ref ob1), .val (.ref ob3), .val (.ref ob19), .val (.ref ob10), .val .null, .val (.ref ob4), .val .null, .val (.int (1 : Int32))] [])
    refine own_go (fun _ => XS.aload X298.here hx rfl (hb hby at_241) rfl rfl) ?_
    show own_G p e below Φ T298 (mkF m 243 #[.val (.int p0), .val (.int p1), .val (.int (3 : Int32)), .val (.int (2 : Int32)), .val (.ref ob1), .val (.ref ob3), .val (.ref ob19), .val (.ref ob10), .val .null, .val (.ref ob4), .val .null, .val (.int (1 : Int32))] [(.ref ob10)])
    refine own_go (fun _ => XS.ifnullNo X298.here hx rfl (hb hby at_243) rfl) ?_
    show own_G p e below Φ T298 (mkF m 246 #[.val (.int p0), .val (.int p1), .val (.int (3 : Int32)), .val (.int (2 : Int32)), .val (.ref ob1), .val (.ref ob3), .val (.ref ob19), .val (.ref ob10), .val .null, .val (.ref ob4), .val .null, .val (.int (1 : Int32))] [])
    refine own_go (fun _ => XS.iload X298.here hx rfl (hb hby at_246) rfl) ?_
    show own_G p e below Φ T298 (mkF m 248 #[.val (.int p0), .val (.int p1), .val (.int (3 : Int32)), .val (.int (2 : Int32)), .val (.ref ob1), .val (.ref ob3), .val (.ref ob19), .val (.ref ob10), .val .null, .val (.ref ob4), .val .null, .val (.int (1 : Int32))] [(.int (1 : Int32))])
    refine own_go (fun _ => XS.ifNo X298.here hx rfl (hb hby at_248) rfl (Jvm.Free.XT.i0_eq_f (by decide : ¬ ((1 : Int32) = (0 : Int32))))) ?_
    show own_G p e below Φ T298 (mkF m 251 #[.val (.int p0), .val (.int p1), .val (.int (3 : Int32)), .val (.int (2 : Int32)), .val (.ref ob1), .val (.ref ob3), .val (.ref ob19), .val (.ref ob10), .val .null, .val (.ref ob4), .val .null, .val (.int (1 : Int32))] [])
    refine own_go (fun _ => XS.aload X298.here hx rfl (hb hby at_251) rfl rfl) ?_
    show own_G p e below Φ T298 (mkF m 253 #[.val (.int p0), .val (.int p1), .val (.int (3 : Int32)), .val (.int (2 : Int32)), .val (.ref ob1), .val (.ref ob3), .val (.ref ob19), .val (.ref ob10), .val .null, .val (.ref ob4), .val .null, .val (.int (1 : Int32))] [(.ref ob10)])
    have f300 : Exa Z T295.heap ob10 "corro/core/Order" := f294.keep Kq295
    obtain ⟨cq299, kq299, q299a, q299b, q299c⟩ := isOf hZ hs298 f300
    obtain ⟨_, _, ⟨T299, zL299, zk299, zn299⟩, -, X299, ⟨Lc299, hQ299, l299, y299, z299⟩, st299⟩ := X298.virtualBack hx (y := (⟨"corro/core/Order", "next", "()Lcorro/core/Order;"⟩ : MethodName)) (z := (⟨"corro/core/Order", "next", "()Lcorro/core/Order;"⟩ : MethodName)) hown (mvT hZ (wd_57 hw)) (mvT hZ (wd_58 hw)) (notFace_of_selects (args := #[]) (mvT hZ (wd_60 hw))) (mvT hZ (wd_60 hw)) (mvT hZ (wd_59 hw)) (by decide) (backOf (W := 0) (rmGnext l Z a0 hw [] ob10 .null T295.heap n0 Zp295 p295_6 rfl) hZ (wd_61 hw) (wd_13 hw) (by decide) (by decide)) q299a q299c (g := (mkF m 253 #[.val (.int p0), .val (.int p1), .val (.int (3 : Int32)), .val (.int (2 : Int32)), .val (.ref ob1), .val (.ref ob3), .val (.ref ob19), .val (.ref ob10), .val .null, .val (.ref ob4), .val .null, .val (.int (1 : Int32))] [(.ref ob10)])) rfl (by rw [hml]; rfl) (Steps.refl _) (argsL := []) (rest := []) (lenOf pd_4 rfl) rfl (by show 2 * 0 + _ ≤ _; exact Nat.le_of_eq rfl) (hb hby at_253) (fun _ _ => ⟨rfl, hs298, (by decide : 5 + 0 ≤ _), (by decide : 41 + 0 ≤ _)⟩)
    dsimp only [Pt.U, Pt.locs, Pt.cells, Pt.slots] at X299 l299 y299 z299 st299 hQ299
    subst l299 y299 z299
    obtain ⟨rfl, N299q, hs299⟩ := hQ299
    have N299 := Fr.app N298 N299q
    refine own_on st299 ?_
    show own_G p e below Φ T299 (mkF m 256 #[.val (.int p0), .val (.int p1), .val (.int (3 : Int32)), .val (.int (2 : Int32)), .val (.ref ob1), .val (.ref ob3), .val (.ref ob19), .val (.ref ob10), .val .null, .val (.ref ob4), .val .null, .val (.int (1 : Int32))] [.null])
    refine own_go (fun _ => XS.aload X299.here hx rfl (hb hby at_256) rfl rfl) ?_
    show own_G p e below Φ T299 (mkF m 258 #[.val (.int p0), .val (.int p1), .val (.int (3 : Int32)), .val (.int (2 : Int32)), .val (.ref ob1), .val (.ref ob3), .val (.ref ob19), .val (.ref ob10), .val .null, .val (.ref ob4), .val .null, .val (.int (1 : Int32))] [.null, .null])
    refine own_go (fun _ => Jvm.RoadKit.acmp (g := (mkF m 258 #[.val (.int p0), .val (.int p1), .val (.int (3 : Int32)), .val (.int (2 : Int32)), .val (.ref ob1), .val (.ref ob3), .val (.ref ob19), .val (.ref ob10), .val .null, .val (.ref ob4), .val .null, .val (.int (1 : Int32))] [.null, .null])) X299 hx rfl rfl rfl (pc0 := 258) (pc' := 261) (same := true) rfl (hb hby at_258) rfl (decide_eq_true rfl) (by decide) (by decide)) ?_
    show own_G p e below Φ T299 (mkF m 261 #[.val (.int p0), .val (.int p1), .val (.int (3 : Int32)), .val (.int (2 : Int32)), .val (.ref ob1), .val (.ref ob3), .val (.ref ob19), .val (.ref ob10), .val .null, .val (.ref ob4), .val .null, .val (.int (1 : Int32))] [])
    refine own_go (fun _ => XS.aload X299.here hx rfl (hb hby at_261) rfl rfl) ?_
    show own_G p e below Φ T299 (mkF m 263 #[.val (.int p0), .val (.int p1), .val (.int (3 : Int32)), .val (.int (2 : Int32)), .val (.ref ob1), .val (.ref ob3), .val (.ref ob19), .val (.ref ob10), .val .null, .val (.ref ob4), .val .null, .val (.int (1 : Int32))] [(.ref ob10)])
    obtain ⟨cq301, kq301, q301a, q301b, q301c⟩ := isOf hZ hs299 f300
    obtain ⟨_, _, ⟨T301, zL301, zk301, zn301⟩, -, X301, ⟨Lc301, hQ301, l301, y301, z301⟩, st301⟩ := X299.virtualBack hx (y := (⟨"corro/core/Order", "previous", "()Lcorro/core/Order;"⟩ : MethodName)) (z := (⟨"corro/core/Order", "previous", "()Lcorro/core/Order;"⟩ : MethodName)) hown (mvT hZ (wd_52 hw)) (mvT hZ (wd_53 hw)) (notFace_of_selects (args := #[]) (mvT hZ (wd_55 hw))) (mvT hZ (wd_55 hw)) (mvT hZ (wd_54 hw)) (by decide) (backOf (W := 0) (rmGprevious l Z a0 hw [] ob10 (.ref ob4) T295.heap n0 Zp295 p295_5 rfl) hZ (wd_56 hw) (wd_13 hw) (by decide) (by decide)) q301a q301c (g := (mkF m 263 #[.val (.int p0), .val (.int p1), .val (.int (3 : Int32)), .val (.int (2 : Int32)), .val (.ref ob1), .val (.ref ob3), .val (.ref ob19), .val (.ref ob10), .val .null, .val (.ref ob4), .val .null, .val (.int (1 : Int32))] [(.ref ob10)])) rfl (by rw [hml]; rfl) (Steps.refl _) (argsL := []) (rest := []) (lenOf pd_4 rfl) rfl (by show 2 * 0 + _ ≤ _; exact Nat.le_of_eq rfl) (hb hby at_263) (fun _ _ => ⟨rfl, hs299, (by decide : 5 + 0 ≤ _), (by decide : 41 + 0 ≤ _)⟩)
    dsimp only [Pt.U, Pt.locs, Pt.cells, Pt.slots] at X301 l301 y301 z301 st301 hQ301
    subst l301 y301 z301
    obtain ⟨rfl, N301q, hs301⟩ := hQ301
    have N301 := Fr.app N299 N301q
    refine own_on st301 ?_
    show own_G p e below Φ T301 (mkF m 266 #[.val (.int p0), .val (.int p1), .val (.int (3 : Int32)), .val (.int (2 : Int32)), .val (.ref ob1), .val (.ref ob3), .val (.ref ob19), .val (.ref ob10), .val .null, .val (.ref ob4), .val .null, .val (.int (1 : Int32))] [(.ref ob4)])
    refine own_go (fun _ => XS.aload X301.here hx rfl (hb hby at_266) rfl rfl) ?_
    show own_G p e below Φ T301 (mkF m 268 #[.val (.int p0), .val (.int p1), .val (.int (3 : Int32)), .val (.int (2 : Int32)), .val (.ref ob1), .val (.ref ob3), .val (.ref ob19), .val (.ref ob10), .val .null, .val (.ref ob4), .val .null, .val (.int (1 : Int32))] [(.ref ob4), (.ref ob4)])
    refine own_go (fun _ => Jvm.RoadKit.acmp (g := (mkF m 268 #[.val (.int p0), .val (.int p1), .val (.int (3 : Int32)), .val (.int (2 : Int32)), .val (.ref ob1), .val (.ref ob3), .val (.ref ob19), .val (.ref ob10), .val .null, .val (.ref ob4), .val .null, .val (.int (1 : Int32))] [(.ref ob4), (.ref ob4)])) X301 hx rfl rfl rfl (pc0 := 268) (pc' := 271) (same := true) rfl (hb hby at_268) rfl (decide_eq_true rfl) (by decide) (by decide)) ?_
    show own_G p e below Φ T301 (mkF m 271 #[.val (.int p0), .val (.int p1), .val (.int (3 : Int32)), .val (.int (2 : Int32)), .val (.ref ob1), .val (.ref ob3), .val (.ref ob19), .val (.ref ob10), .val .null, .val (.ref ob4), .val .null, .val (.int (1 : Int32))] [])
    refine own_go (fun _ => XS.aload X301.here hx rfl (hb hby at_271) rfl rfl) ?_
    show own_G p e below Φ T301 (mkF m 273 #[.val (.int p0), .val (.int p1), .val (.int (3 : Int32)), .val (.int (2 : Int32)), .val (.ref ob1), .val (.ref ob3), .val (.ref ob19), .val (.ref ob10), .val .null, .val (.ref ob4), .val .null, .val (.int (1 : Int32))] [(.ref ob10)])
    obtain ⟨cq302, kq302, q302a, q302b, q302c⟩ := isOf hZ hs301 f300
    obtain ⟨_, _, ⟨T302, zL302, zk302, zn302⟩, -, X302, ⟨Lc302, hQ302, l302, y302, z302⟩, st302⟩ := X301.virtualBack hx (y := (⟨"corro/core/Order", "level", "()Lcorro/core/Level;"⟩ : MethodName)) (z := (⟨"corro/core/Order", "level", "()Lcorro/core/Level;"⟩ : MethodName)) hown (mvT hZ (wd_47 hw)) (mvT hZ (wd_48 hw)) (notFace_of_selects (args := #[]) (mvT hZ (wd_50 hw))) (mvT hZ (wd_50 hw)) (mvT hZ (wd_49 hw)) (by decide) (backOf (W := 0) (rmGlevel l Z a0 hw [] ob10 (.ref ob1) T295.heap n0 Zp295 p295_4 rfl) hZ (wd_51 hw) (wd_13 hw) (by decide) (by decide)) q302a q302c (g := (mkF m 273 #[.val (.int p0), .val (.int p1), .val (.int (3 : Int32)), .val (.int (2 : Int32)), .val (.ref ob1), .val (.ref ob3), .val (.ref ob19), .val (.ref ob10), .val .null, .val (.ref ob4), .val .null, .val (.int (1 : Int32))] [(.ref ob10)])) rfl (by rw [hml]; rfl) (Steps.refl _) (argsL := []) (rest := []) (lenOf pd_3 rfl) rfl (by show 2 * 0 + _ ≤ _; exact Nat.le_of_eq rfl) (hb hby at_273) (fun _ _ => ⟨rfl, hs301, (by decide : 5 + 0 ≤ _), (by decide : 41 + 0 ≤ _)⟩)
    dsimp only [Pt.U, Pt.locs, Pt.cells, Pt.slots] at X302 l302 y302 z302 st302 hQ302
    subst l302 y302 z302
    obtain ⟨rfl, N302q, hs302⟩ := hQ302
    have N302 := Fr.app N301 N302q
    refine own_on st302 ?_
    show own_G p e below Φ T302 (mkF m 276 #[.val (.int p0), .val (.int p1), .val (.int (3 : Int32)), .val (.int (2 : Int32)), .val (.ref ob1), .val (.ref ob3), .val (.ref ob19), .val (.ref ob10), .val .null, .val (.ref ob4), .val .null, .val (.int (1 : Int32))] [(.ref ob1)])
    refine own_go (fun _ => XS.aload X302.here hx rfl (hb hby at_276) rfl rfl) ?_
    show own_G p e below Φ T302 (mkF m 278 #[.val (.int p0), .val (.int p1), .val (.int (3 : Int32)), .val (.int (2 : Int32)), .val (.ref ob1), .val (.ref ob3), .val (.ref ob19), .val (.ref ob10), .val .null, .val (.ref ob4), .val .null, .val (.int (1 : Int32))] [(.ref ob1), (.ref ob1)])
    refine own_go (fun _ => Jvm.RoadKit.acmp (g := (mkF m 278 #[.val (.int p0), .val (.int p1), .val (.int (3 : Int32)), .val (.int (2 : Int32)), .val (.ref ob1), .val (.ref ob3), .val (.ref ob19), .val (.ref ob10), .val .null, .val (.ref ob4), .val .null, .val (.int (1 : Int32))] [(.ref ob1), (.ref ob1)])) X302 hx rfl rfl rfl (pc0 := 278) (pc' := 281) (same := true) rfl (hb hby at_278) rfl (decide_eq_true rfl) (by decide) (by decide)) ?_
    show own_G p e below Φ T302 (mkF m 281 #[.val (.int p0), .val (.int p1), .val (.int (3 : Int32)), .val (.int (2 : Int32)), .val (.ref ob1), .val (.ref ob3), .val (.ref ob19), .val (.ref ob10), .val .null, .val (.ref ob4), .val .null, .val (.int (1 : Int32))] [])
    refine own_go (fun _ => XS.iconst X302.here hx rfl (hb hby at_281)) ?_
    show own_G p e below Φ T302 (mkF m 282 #[.val (.int p0), .val (.int p1), .val (.int (3 : Int32)), .val (.int (2 : Int32)), .val (.ref ob1), .val (.ref ob3), .val (.ref ob19), .val (.ref ob10), .val .null, .val (.ref ob4), .val .null, .val (.int (1 : Int32))] [(.int (1 : Int32))])
    refine own_go (fun _ => XS.goto X302.here hx rfl (pc0 := 282) (pc' := 286) rfl (hb hby at_282) (by decide) (by decide)) ?_
    show own_G p e below Φ T302 (mkF m 286 #[.val (.int p0), .val (.int p1), .val (.int (3 : Int32)), .val (.int (2 : Int32)), .val (.ref ob1), .val (.ref ob3), .val (.ref ob19), .val (.ref ob10), .val .null, .val (.ref ob4), .val .null, .val (.int (1 : Int32))] [(.int (1 : Int32))])
    refine own_go (fun _ => XS.istore X302.here hx rfl (hb hby at_286) rfl (l' := #[.val (.int p0), .val (.int p1), .val (.int (3 : Int32)), .val (.int (2 : Int32)), .val (.ref ob1), .val (.ref ob3), .val (.ref ob19), .val (.ref ob10), .val .null, .val (.ref ob4), .val .null, .val (.int (1 : Int32))]) rfl) ?_
    show own_G p e below Φ T302 (mkF m 288 #[.val (.int p0), .val (.int p1), .val (.int (3 : Int32)), .val (.int (2 : Int32)), .val (.ref ob1), .val (.ref ob3), .val (.ref ob19), .val (.ref ob10), .val .null, .val (.ref ob4), .val .null, .val (.int (1 : Int32))] [])
    refine own_go (fun _ => XS.aload X302.here hx rfl (hb hby at_288) rfl rfl) ?_
    show own_G p e below Φ T302 (mkF m 290 #[.val (.int p0), .val (.int p1), .val (.int (3 : Int32)), .val (.int (2 : Int32)), .val (.ref ob1), .val (.ref ob3), .val (.ref ob19), .val (.ref ob10), .val .null, .val (.ref ob4), .val .null, .val (.int (1 : Int32))] [.null])
    refine own_go (fun _ => XS.ifnullYes X302.here hx rfl (pc0 := 290) (pc' := 335) rfl (hb hby at_290) rfl (by decide) (by decide)) ?_
    show own_G p e below Φ T302 (mkF m 335 #[.val (.int p0), .val (.int p1), .val (.int (3 : Int32)), .val (.int (2 : Int32)), .val (.ref ob1), .val (.ref ob3), .val (.ref ob19), .val (.ref ob10), .val .null, .val (.ref ob4), .val .null, .val (.int (1 : Int32))] [])
    refine own_go (fun _ => XS.iload X302.here hx rfl (hb hby at_335) rfl) ?_
    show own_G p e below Φ T302 (mkF m 337 #[.val (.int p0), .val (.int p1), .val (.int (3 : Int32)), .val (.int (2 : Int32)), .val (.ref ob1), .val (.ref ob3), .val (.ref ob19), .val (.ref ob10), .val .null, .val (.ref ob4), .val .null, .val (.int (1 : Int32))] [(.int (1 : Int32))])
    rw [hΦ]
    refine own_ret X302 (v := some (.int (1 : Int32))) (fun h => by rw [Bd.returns] at h; cases h) (BodyLoose.notSynchronized Bd) (fun fs hr => retN X302 hx (t := .boolean) Bd.returns (by simp) (hb hby at_337) hr) ?_ (by decide) (by decide)
    rw [hs302]
    exact ⟨rfl, N302⟩
set_option maxRecDepth 65536 in
set_option maxHeartbeats 40000000 in
theorem comes_1 {Post : Tables → Env → Array Value → State → Outcome → State → Prop} (hpost : ∀ tb e args s v u, (limb_1_1.after args s (.returned v) u = true ∧ limb_1_2.after args s (.returned v) u = true ∧ True) → FrameEnd s (.returned v) u (Jvm.fieldLocs frame_1_writes args s ++ Jvm.arrayLocs frame_1_arrays args s ++ Jvm.staticLocs frame_1_statics s) 24 192 → Post tb e args s (.returned v) u) :
    ArmFor flags0 classFile x code maxLocals ret World_1 tables_1 room_1 Calls_1 rest_1 Pre_1 Post := by
  intro l hfl _ _ p e ha hc hk s m args below hf hA hF happ hP
  obtain ⟨hcalls, hrest, hpre⟩ := hP
  obtain ⟨-, -, -, hnamed, -, -, -, hat⟩ := (Spec.applies_iff hf).mp happ
  obtain ⟨hg, hn⟩ := and_e (Cond.before_iff.mp (show (Jvm.Cond.and given_1 narrow_1).before args s = true from hpre))
  obtain ⟨g1, g2⟩ := and_e hg
  obtain ⟨g3, g4⟩ := and_e g2
  obtain ⟨w0, w1, rfl⟩ : ∃ w0 w1 : Value, args = #[w0, w1] := by
    have hs : args.size = 2 := by simpa [Cond.value, given_1] using g1
    obtain ⟨L⟩ := args
    match L, hs with
    | [w0, w1], _ => exact ⟨w0, w1, rfl⟩
  have hw := fun d (hd : d ∈ tables_1) => atoms_spec (ws := Jvm.Cond.code x code maxLocals ret :: tables_1) hat d (List.mem_cons_of_mem _ hd)
  obtain ⟨i0, ei0⟩ := is_v g3
  obtain rfl : w0 = (.int i0) := Option.some.inj ei0
  obtain ⟨i1, ei1⟩ := is_v g4
  obtain rfl : w1 = (.int i1) := Option.some.inj ei1
  obtain ⟨n, o, h1, h2, h3, _, L, rfl, ⟨rfl, N⟩, hq⟩ := rm0 l s _ hw tables_1 i0 i1 s.heap s.heap.size (Nat.le_refl _)  p e ha hc hk s m _ below hf ((Spec.applies_iff_loose hf).mp happ).1 ⟨rfl, State.Warmed39.refl s, rfl⟩ trivial
  refine ⟨n, _, h1, h2, h3, hpost _ _ _ _ _ _ ⟨Cond.after_iff.mpr rfl, Cond.after_iff.mpr (eq_i res_at (Term.int_eval (1)) rfl), trivial⟩ ⟨hq.1, hq.2.1, (hq.2.2.sift fun y hy => Or.inr (N y hy)).mono (by decide) (by decide)⟩⟩
theorem main_1_1 : Claimed_1_1 := comes_1 fun _ _ _ _ _ _ h hF => ⟨h.1, hF⟩
theorem main_1_2 : Claimed_1_2 := comes_1 fun _ _ _ _ _ _ h hF => ⟨h.2.1, hF⟩
end Jvm.Pilot.@@N@@
namespace Jvm.Pilot.@@N@@
open Jvm Jvm.ClassFile Sem Op Lib Jvm.Free Jvm.Stand Jvm.Pilot.@@N@@.Jvm.D
/-! MADE BY PROGRAM (witnessworld.py) out of the Statement's table words and the real class files: 11 classes; the members and pool entries that the words name. The judged class is class 1, her method 1. -/
namespace start1
open Jvm.ClassFile
def u (s : String) : CpInfo := .utf8 (stringToUtf16 s)
/-- a pool by its gaps: so many unusable entries, then the entry; so many at the end -/
def gap : Nat → List CpInfo → List CpInfo
  | 0, r => r
  | n + 1, r => .unusable :: gap n r
def poolList (es : List (Nat × CpInfo)) (last : Nat) : List CpInfo := es.foldr (fun e r => gap e.1 (e.2 :: r)) (gap last [])
def pool (es : List (Nat × CpInfo)) (last : Nat) : Array CpInfo := ⟨poolList es last⟩
def fileOf (pool : Array CpInfo) (this : Nat) (attrs : Array Attribute := #[]) (ms : Array MethodInfo := #[]) (fl : Nat := 33) (sup : Nat := 0) (ifs : Array Nat := #[]) (fds : Array FieldInfo := #[]) : ClassFile where
  minorVersion := 0
  majorVersion := 65
  constantPool := pool
  accessFlags := fl
  thisClass := this
  superClass := sup
  interfaces := ifs
  fields := fds
  methods := ms
  attributes := attrs
def plain (name : String) (sup : Option ClassId) : Class where
  name := name
  kind := .ordinary
  loader := none
  accessFlags := 33
  super := sup
  interfaces := #[]
  cf := none
  fields := #[]
  methods := #[]
  instanceTypes := #[]
  staticTypes := #[]
  resolved := #[]
  callSites := []
  init := .initialized
  statics := none
  mirror := none

def pool0 : Array CpInfo := pool [(5, u "<init>"), (0, u "()V"), (1, .class_ 10), (1, u "java/lang/Object")] 113

def k0c0 : Code := { maxStack := 0, maxLocals := 1, code := object_method_1_code, exceptionTable := #[], attributes := #[] }
def k0m0 : Method := { name := "<init>", desc := "()V", sig := { parameters := [], returnType := none }, accessFlags := 1, code := some k0c0 }
/-- java/lang/Object -/
def k0 : Class := { plain "java/lang/Object" none with
  accessFlags := 33
  interfaces := #[]
  cf := some (fileOf pool0 8 #[] #[{ accessFlags := 1, nameIndex := 5, descriptorIndex := 6, attributes := #[] }] 33 0 #[] #[])
  fields := #[]
  methods := #[k0m0]
  instanceTypes := #[]
  staticTypes := #[]
  resolved := Array.replicate 124 none
  statics := none }

def pool1 : Array CpInfo := pool [(2, .class_ 4), (0, .nameAndType 5 6), (0, u "java/lang/Object"), (0, u "<init>"), (0, u "()V"), (0, .integer 2147483647), (0, .class_ 9), (0, u "corro/core/Level"), (0, .methodref 8 3), (0, .class_ 12), (0, u "corro/core/Order"), (0, .methodref 11 14), (0, .nameAndType 5 15), (0, u "(Ljava/lang/String;Lcorro/core/Side;JLcorro/core/OrderType;JLcorro/core/TimeInForce;)V"), (0, .methodref 11 17), (0, .nameAndType 18 19), (0, u "join"), (0, u "(Lcorro/core/Level;Lcorro/core/Order;)V"), (0, .methodref 11 21), (0, .nameAndType 22 6), (0, u "leave"), (0, .methodref 11 24), (0, .nameAndType 25 26), (0, u "level"), (0, u "()Lcorro/core/Level;"), (0, .methodref 11 28), (0, .nameAndType 29 30), (0, u "previous"), (0, u "()Lcorro/core/Order;"), (0, .methodref 11 32), (0, .nameAndType 33 30), (0, u "next"), (0, .class_ 35), (0, u "corro/core/OrderLeavePinLaw"), (2, u "law"), (0, u "(II)Z")] 5

def k1m0 : Method := { name := "<init>", desc := "()V", sig := { parameters := [], returnType := none }, accessFlags := 1, code := none }
def k1c1 : Code := { maxStack := 12, maxLocals := 12, code := code, exceptionTable := #[], attributes := #[] }
def k1m1 : Method := { name := "law", desc := "(II)Z", sig := { parameters := [.int, .int], returnType := some .boolean }, accessFlags := 9, code := some k1c1 }
/-- corro/core/OrderLeavePinLaw -/
def k1 : Class := { plain "corro/core/OrderLeavePinLaw" (some 0) with
  accessFlags := 49
  interfaces := #[]
  cf := some (fileOf pool1 34 #[] #[{ accessFlags := 1, nameIndex := 5, descriptorIndex := 6, attributes := #[] }, { accessFlags := 9, nameIndex := 38, descriptorIndex := 39, attributes := #[] }] 49 2 #[] #[])
  fields := #[]
  methods := #[k1m0, k1m1]
  instanceTypes := #[]
  staticTypes := #[]
  resolved := Array.replicate 45 none
  statics := none }

def pool2 : Array CpInfo := pool [(1, .methodref 2 3), (0, .class_ 4), (0, .nameAndType 5 6), (0, u "java/lang/Object"), (0, u "<init>"), (0, u "()V"), (1, .class_ 10), (1, u "corro/core/Level"), (0, u "first"), (0, u "Lcorro/core/Order;"), (18, u "last")] 20

def k2c0 : Code := { maxStack := 1, maxLocals := 1, code := prog_13_method_1_code, exceptionTable := #[], attributes := #[] }
def k2m0 : Method := { name := "<init>", desc := "()V", sig := { parameters := [], returnType := none }, accessFlags := 0, code := some k2c0 }
/-- corro/core/Level -/
def k2 : Class := { plain "corro/core/Level" (some 0) with
  accessFlags := 48
  interfaces := #[]
  cf := some (fileOf pool2 8 #[] #[{ accessFlags := 0, nameIndex := 5, descriptorIndex := 6, attributes := #[] }] 48 2 #[] #[{ accessFlags := 2, nameIndex := 11, descriptorIndex := 12, attributes := #[] }, { accessFlags := 2, nameIndex := 31, descriptorIndex := 12, attributes := #[] }])
  fields := #[{ name := "first", type := (.object "corro/core/Order"), accessFlags := 2, slot := 0, constantValue := 0 }, { name := "last", type := (.object "corro/core/Order"), accessFlags := 2, slot := 1, constantValue := 0 }]
  methods := #[k2m0]
  instanceTypes := #[(.object "corro/core/Order"), (.object "corro/core/Order")]
  staticTypes := #[]
  resolved := Array.replicate 52 none
  statics := none }

def pool3 : Array CpInfo := pool [(1, .methodref 2 3), (0, .class_ 4), (0, .nameAndType 5 6), (0, u "java/lang/Object"), (0, u "<init>"), (0, u "()V"), (0, .fieldref 8 9), (0, .class_ 10), (0, .nameAndType 11 12), (0, u "corro/core/Order"), (0, u "id"), (0, u "Ljava/lang/String;"), (0, .fieldref 8 14), (0, .nameAndType 15 16), (0, u "side"), (0, u "Lcorro/core/Side;"), (0, .fieldref 8 18), (0, .nameAndType 19 20), (0, u "type"), (0, u "Lcorro/core/OrderType;"), (0, .fieldref 8 22), (0, .nameAndType 23 24), (0, u "timeInForce"), (0, u "Lcorro/core/TimeInForce;"), (0, .fieldref 8 26), (0, .nameAndType 27 28), (0, u "quantity"), (0, u "J"), (0, .fieldref 8 30), (0, .nameAndType 31 28), (0, u "price"), (2, u "filled"), (2, u "book"), (0, u "Lcorro/core/OrderBook;"), (8, u "arrival"), (0, .fieldref 8 49), (0, .nameAndType 50 51), (0, u "level"), (0, u "Lcorro/core/Level;"), (0, .fieldref 8 53), (0, .nameAndType 54 55), (0, u "next"), (0, u "Lcorro/core/Order;"), (0, .fieldref 8 57), (0, .nameAndType 58 55), (0, u "previous"), (0, u "(Ljava/lang/String;Lcorro/core/Side;JLcorro/core/OrderType;JLcorro/core/TimeInForce;)V"), (19, u "()Lcorro/core/Level;"), (0, u "()Lcorro/core/Order;"), (0, u "join"), (0, u "(Lcorro/core/Level;Lcorro/core/Order;)V"), (0, u "leave")] 5

def k3c0 : Code := { maxStack := 3, maxLocals := 9, code := prog_18_method_1_code, exceptionTable := #[], attributes := #[] }
def k3m0 : Method := { name := "<init>", desc := "(Ljava/lang/String;Lcorro/core/Side;JLcorro/core/OrderType;JLcorro/core/TimeInForce;)V", sig := { parameters := [(.object "java/lang/String"), (.object "corro/core/Side"), .long, (.object "corro/core/OrderType"), .long, (.object "corro/core/TimeInForce")], returnType := none }, accessFlags := 0, code := some k3c0 }
def k3c1 : Code := { maxStack := 1, maxLocals := 1, code := prog_18_method_16_code, exceptionTable := #[], attributes := #[] }
def k3m1 : Method := { name := "level", desc := "()Lcorro/core/Level;", sig := { parameters := [], returnType := some (.object "corro/core/Level") }, accessFlags := 0, code := some k3c1 }
def k3c2 : Code := { maxStack := 1, maxLocals := 1, code := prog_18_method_17_code, exceptionTable := #[], attributes := #[] }
def k3m2 : Method := { name := "next", desc := "()Lcorro/core/Order;", sig := { parameters := [], returnType := some (.object "corro/core/Order") }, accessFlags := 0, code := some k3c2 }
def k3c3 : Code := { maxStack := 1, maxLocals := 1, code := prog_18_method_18_code, exceptionTable := #[], attributes := #[] }
def k3m3 : Method := { name := "previous", desc := "()Lcorro/core/Order;", sig := { parameters := [], returnType := some (.object "corro/core/Order") }, accessFlags := 0, code := some k3c3 }
def k3c4 : Code := { maxStack := 2, maxLocals := 3, code := prog_18_method_19_code, exceptionTable := #[], attributes := #[] }
def k3m4 : Method := { name := "join", desc := "(Lcorro/core/Level;Lcorro/core/Order;)V", sig := { parameters := [(.object "corro/core/Level"), (.object "corro/core/Order")], returnType := none }, accessFlags := 0, code := some k3c4 }
def k3c5 : Code := { maxStack := 2, maxLocals := 1, code := prog_18_method_20_code, exceptionTable := #[], attributes := #[] }
def k3m5 : Method := { name := "leave", desc := "()V", sig := { parameters := [], returnType := none }, accessFlags := 0, code := some k3c5 }
/-- corro/core/Order -/
def k3 : Class := { plain "corro/core/Order" (some 0) with
  accessFlags := 49
  interfaces := #[]
  cf := some (fileOf pool3 8 #[] #[{ accessFlags := 0, nameIndex := 5, descriptorIndex := 59, attributes := #[] }, { accessFlags := 0, nameIndex := 50, descriptorIndex := 79, attributes := #[] }, { accessFlags := 0, nameIndex := 54, descriptorIndex := 80, attributes := #[] }, { accessFlags := 0, nameIndex := 58, descriptorIndex := 80, attributes := #[] }, { accessFlags := 0, nameIndex := 81, descriptorIndex := 82, attributes := #[] }, { accessFlags := 0, nameIndex := 83, descriptorIndex := 6, attributes := #[] }] 49 2 #[] #[{ accessFlags := 18, nameIndex := 11, descriptorIndex := 12, attributes := #[] }, { accessFlags := 18, nameIndex := 15, descriptorIndex := 16, attributes := #[] }, { accessFlags := 18, nameIndex := 19, descriptorIndex := 20, attributes := #[] }, { accessFlags := 18, nameIndex := 23, descriptorIndex := 24, attributes := #[] }, { accessFlags := 2, nameIndex := 31, descriptorIndex := 28, attributes := #[] }, { accessFlags := 2, nameIndex := 27, descriptorIndex := 28, attributes := #[] }, { accessFlags := 2, nameIndex := 34, descriptorIndex := 28, attributes := #[] }, { accessFlags := 2, nameIndex := 37, descriptorIndex := 38, attributes := #[] }, { accessFlags := 2, nameIndex := 47, descriptorIndex := 28, attributes := #[] }, { accessFlags := 2, nameIndex := 50, descriptorIndex := 51, attributes := #[] }, { accessFlags := 2, nameIndex := 58, descriptorIndex := 55, attributes := #[] }, { accessFlags := 2, nameIndex := 54, descriptorIndex := 55, attributes := #[] }])
  fields := #[{ name := "id", type := (.object "java/lang/String"), accessFlags := 18, slot := 0, constantValue := 0 }, { name := "side", type := (.object "corro/core/Side"), accessFlags := 18, slot := 1, constantValue := 0 }, { name := "type", type := (.object "corro/core/OrderType"), accessFlags := 18, slot := 2, constantValue := 0 }, { name := "timeInForce", type := (.object "corro/core/TimeInForce"), accessFlags := 18, slot := 3, constantValue := 0 }, { name := "price", type := .long, accessFlags := 2, slot := 4, constantValue := 0 }, { name := "quantity", type := .long, accessFlags := 2, slot := 5, constantValue := 0 }, { name := "filled", type := .long, accessFlags := 2, slot := 6, constantValue := 0 }, { name := "book", type := (.object "corro/core/OrderBook"), accessFlags := 2, slot := 7, constantValue := 0 }, { name := "arrival", type := .long, accessFlags := 2, slot := 8, constantValue := 0 }, { name := "level", type := (.object "corro/core/Level"), accessFlags := 2, slot := 9, constantValue := 0 }, { name := "previous", type := (.object "corro/core/Order"), accessFlags := 2, slot := 10, constantValue := 0 }, { name := "next", type := (.object "corro/core/Order"), accessFlags := 2, slot := 11, constantValue := 0 }]
  methods := #[k3m0, k3m1, k3m2, k3m3, k3m4, k3m5]
  instanceTypes := #[(.object "java/lang/String"), (.object "corro/core/Side"), (.object "corro/core/OrderType"), (.object "corro/core/TimeInForce"), .long, .long, .long, (.object "corro/core/OrderBook"), .long, (.object "corro/core/Level"), (.object "corro/core/Order"), (.object "corro/core/Order")]
  staticTypes := #[]
  resolved := Array.replicate 89 none
  statics := none }

def pool4 : Array CpInfo := pool [(1, u "java/lang/Cloneable"), (0, .class_ 1), (0, u "java/lang/Object"), (0, .class_ 3)] 3

/-- java/lang/Cloneable -/
def k4 : Class := { plain "java/lang/Cloneable" (some 0) with
  accessFlags := 1537
  interfaces := #[]
  cf := some (fileOf pool4 2 #[] #[] 1537 4 #[] #[])
  fields := #[]
  methods := #[]
  instanceTypes := #[]
  staticTypes := #[]
  resolved := Array.replicate 8 none
  statics := none }

def pool5 : Array CpInfo := pool [(1, u "java/io/Serializable"), (0, .class_ 1), (0, u "java/lang/Object"), (0, .class_ 3)] 3

/-- java/io/Serializable -/
def k5 : Class := { plain "java/io/Serializable" (some 0) with
  accessFlags := 1537
  interfaces := #[]
  cf := some (fileOf pool5 2 #[] #[] 1537 4 #[] #[])
  fields := #[]
  methods := #[]
  instanceTypes := #[]
  staticTypes := #[]
  resolved := Array.replicate 8 none
  statics := none }

/-- the primitive byte -/
def k6 : Class := { plain "byte" none with kind := .primitive 'B', accessFlags := 0x411 }
/-- [B -/
def k7 : Class := { plain "[B" (some 0) with kind := .array 6 .byte, interfaces := #[4, 5], accessFlags := 1041 }

/-- the primitive int -/
def k8 : Class := { plain "int" none with kind := .primitive 'I', accessFlags := 0x411 }
/-- [I -/
def k9 : Class := { plain "[I" (some 0) with kind := .array 8 .int, interfaces := #[4, 5], accessFlags := 1041 }

/-- [Lcorro/core/Order; -/
def k10 : Class := { plain "[Lcorro/core/Order;" (some 0) with kind := .array 3 (.object "corro/core/Order"), interfaces := #[4, 5], accessFlags := 1041 }

def heap : Heap := #[]
def classes : Array Class := #[k0, k1, k2, k3, k4, k5, k6, k7, k8, k9, k10]
def interned : List (Array UInt16 × Addr) := []
def slotsUsed : Nat := 0
def theMethod : MethodId := ⟨1, 1⟩
def args0 : Array Value := #[.int 5, .int 5]
def aboutOver (below : List Frame) : State where
  vm := { classes := classes, interned := interned.toArray }
  heap := heap
  slotsUsed := slotsUsed
  threads := #[{ frames := .invoking theMethod args0 :: below }]
def below0 : List Frame := [.native { method := ⟨0, 0⟩, args := #[] }]
def about1 : State := aboutOver below0
def p0 : Program := .bare "" "" ""
def e0 : Env := launch0.env 0 0 0
theorem w_frames : about1.frames = Frame.invoking theMethod args0 :: below0 := rfl
set_option maxRecDepth 65536 in
theorem w_args : argsFit about1.vm theMethod args0 = true := by decide +kernel
set_option maxRecDepth 65536 in
theorem w_heap : heapFits about1 = true := by decide +kernel
set_option maxRecDepth 65536 in
theorem w_runnable : about1.curStatus? = some .runnable := by decide +kernel
set_option maxRecDepth 65536 in
theorem w_alone : about1.alone = true := by decide +kernel
set_option maxRecDepth 65536 in
theorem w_named : about1.methodNamed? x = some theMethod := by decide +kernel
set_option maxRecDepth 65536 in
theorem w_hears : about1.hears theMethod below0 = true := by decide +kernel
set_option maxRecDepth 65536 in
theorem w_ripe : about1.ripe theMethod args0 below0 = true := by decide +kernel
theorem w_running : about1.status = .running := rfl
set_option maxRecDepth 65536 in
theorem w_room : about1.hasRoom e0.platform room_1 = true :=
  launch0.hasRoom_least _ room_1 (by decide +kernel) (by decide +kernel) (by decide +kernel) (by decide +kernel) (by decide +kernel) (by decide +kernel)
theorem allAtoms_all (ts : List Jvm.Cond) (a : Array Jvm.Value) (st : Jvm.State) : (allAtoms ts).before a st = ts.all (fun c => c.before a st) := by
  induction ts with
  | nil => rfl
  | cons c t ih =>
    show (Jvm.Cond.and c (allAtoms t)).before a st = _
    rw [Jvm.Cond.before_and, ih, List.all_cons]
def words1 : List Jvm.Cond := Jvm.Cond.code x code maxLocals ret :: tables_1
/-- a 'code' word, met by the world's own term for the bytes: nothing is compared byte by byte -/
theorem code_word {y : MethodName} {bytes : ByteArray} {mx : Nat} {rt : Option FieldType} {a : Array Value} {s : State} {m : MethodId} {meth : Method} {c : Code} (h1 : s.methodNamed? y = some m) (h2 : s.vm.method? m = some meth) (h3 : meth.code = some c) (h4 : c.code = bytes)
    (h5 : (c.maxLocals == mx && c.exceptionTable.isEmpty && decide (c.maxStack ≤ mostOperands) && decide (meth.sig.returnType = rt) && !meth.locks && decide (parseMethodDescriptor y.desc = some meth.sig)) = true) : (Jvm.Cond.code y bytes mx rt).before a s = true := by
  simp only [Bool.and_eq_true, beq_iff_eq, Bool.not_eq_true', decide_eq_true_eq] at h5
  obtain ⟨⟨⟨⟨⟨g1, g2⟩, g3⟩, g4⟩, g5⟩, g6⟩ := h5
  simp [Cond.before, Cond.holds, Cond.value, h1, h2, h3, h4, g1, g2, g3, g4, g5, g6]
def isCode : Jvm.Cond → Bool
  | .code _ _ _ _ => true
  | _ => false
theorem all_split {L : List Jvm.Cond} {P : Jvm.Cond → Bool} (h1 : L.all (fun c => isCode c || P c) = true) (h2 : ∀ c ∈ L.filter isCode, P c = true) : L.all P = true := by
  refine List.all_eq_true.mpr fun c hc => ?_
  have h := List.all_eq_true.mp h1 c hc
  rcases Bool.eq_false_or_eq_true (isCode c) with hi | hi
  · exact h2 c (List.mem_filter.mpr ⟨hc, hi⟩)
  · simpa [hi] using h
set_option maxRecDepth 65536 in
theorem w_c0 : (Jvm.Cond.code x code maxLocals ret).before args0 about1 = true := code_word (m := ⟨1, 1⟩) (meth := k1m1) (c := k1c1) (by decide +kernel) rfl rfl rfl (by decide +kernel)
set_option maxRecDepth 65536 in
theorem w_c1 : (Jvm.Cond.code ({ cls := "corro/core/Level", name := "<init>", desc := "()V" } : Jvm.MethodName) prog_13_method_1_code (1 : Nat) (Option.none : Option Jvm.ClassFile.FieldType)).before args0 about1 = true := code_word (m := ⟨2, 0⟩) (meth := k2m0) (c := k2c0) (by decide +kernel) rfl rfl rfl (by decide +kernel)
set_option maxRecDepth 65536 in
theorem w_c2 : (Jvm.Cond.code ({ cls := "java/lang/Object", name := "<init>", desc := "()V" } : Jvm.MethodName) object_method_1_code (1 : Nat) (Option.none : Option Jvm.ClassFile.FieldType)).before args0 about1 = true := code_word (m := ⟨0, 0⟩) (meth := k0m0) (c := k0c0) (by decide +kernel) rfl rfl rfl (by decide +kernel)
set_option maxRecDepth 65536 in
theorem w_c3 : (Jvm.Cond.code ({ cls := "corro/core/Order", name := "<init>", desc := "(Ljava/lang/String;Lcorro/core/Side;JLcorro/core/OrderType;JLcorro/core/TimeInForce;)V" } : Jvm.MethodName) prog_18_method_1_code (9 : Nat) (Option.none : Option Jvm.ClassFile.FieldType)).before args0 about1 = true := code_word (m := ⟨3, 0⟩) (meth := k3m0) (c := k3c0) (by decide +kernel) rfl rfl rfl (by decide +kernel)
set_option maxRecDepth 65536 in
theorem w_c4 : (Jvm.Cond.code ({ cls := "corro/core/Order", name := "join", desc := "(Lcorro/core/Level;Lcorro/core/Order;)V" } : Jvm.MethodName) prog_18_method_19_code (3 : Nat) (Option.none : Option Jvm.ClassFile.FieldType)).before args0 about1 = true := code_word (m := ⟨3, 4⟩) (meth := k3m4) (c := k3c4) (by decide +kernel) rfl rfl rfl (by decide +kernel)
set_option maxRecDepth 65536 in
theorem w_c5 : (Jvm.Cond.code ({ cls := "corro/core/Order", name := "leave", desc := "()V" } : Jvm.MethodName) prog_18_method_20_code (1 : Nat) (Option.none : Option Jvm.ClassFile.FieldType)).before args0 about1 = true := code_word (m := ⟨3, 5⟩) (meth := k3m5) (c := k3c5) (by decide +kernel) rfl rfl rfl (by decide +kernel)
set_option maxRecDepth 65536 in
theorem w_c6 : (Jvm.Cond.code ({ cls := "corro/core/Order", name := "level", desc := "()Lcorro/core/Level;" } : Jvm.MethodName) prog_18_method_16_code (1 : Nat) (Option.some (Jvm.ClassFile.FieldType.object "corro/core/Level"))).before args0 about1 = true := code_word (m := ⟨3, 1⟩) (meth := k3m1) (c := k3c1) (by decide +kernel) rfl rfl rfl (by decide +kernel)
set_option maxRecDepth 65536 in
theorem w_c7 : (Jvm.Cond.code ({ cls := "corro/core/Order", name := "previous", desc := "()Lcorro/core/Order;" } : Jvm.MethodName) prog_18_method_18_code (1 : Nat) (Option.some (Jvm.ClassFile.FieldType.object "corro/core/Order"))).before args0 about1 = true := code_word (m := ⟨3, 3⟩) (meth := k3m3) (c := k3c3) (by decide +kernel) rfl rfl rfl (by decide +kernel)
set_option maxRecDepth 65536 in
theorem w_c8 : (Jvm.Cond.code ({ cls := "corro/core/Order", name := "next", desc := "()Lcorro/core/Order;" } : Jvm.MethodName) prog_18_method_17_code (1 : Nat) (Option.some (Jvm.ClassFile.FieldType.object "corro/core/Order"))).before args0 about1 = true := code_word (m := ⟨3, 2⟩) (meth := k3m2) (c := k3c2) (by decide +kernel) rfl rfl rfl (by decide +kernel)
def codes1 : List Jvm.Cond := [Jvm.Cond.code x code maxLocals ret, Jvm.Cond.code ({ cls := "corro/core/Level", name := "<init>", desc := "()V" } : Jvm.MethodName) prog_13_method_1_code (1 : Nat) (Option.none : Option Jvm.ClassFile.FieldType), Jvm.Cond.code ({ cls := "java/lang/Object", name := "<init>", desc := "()V" } : Jvm.MethodName) object_method_1_code (1 : Nat) (Option.none : Option Jvm.ClassFile.FieldType), Jvm.Cond.code ({ cls := "corro/core/Order", name := "<init>", desc := "(Ljava/lang/String;Lcorro/core/Side;JLcorro/core/OrderType;JLcorro/core/TimeInForce;)V" } : Jvm.MethodName) prog_18_method_1_code (9 : Nat) (Option.none : Option Jvm.ClassFile.FieldType), Jvm.Cond.code ({ cls := "corro/core/Order", name := "join", desc := "(Lcorro/core/Level;Lcorro/core/Order;)V" } : Jvm.MethodName) prog_18_method_19_code (3 : Nat) (Option.none : Option Jvm.ClassFile.FieldType), Jvm.Cond.code ({ cls := "corro/core/Order", name := "leave", desc := "()V" } : Jvm.MethodName) prog_18_method_20_code (1 : Nat) (Option.none : Option Jvm.ClassFile.FieldType), Jvm.Cond.code ({ cls := "corro/core/Order", name := "level", desc := "()Lcorro/core/Level;" } : Jvm.MethodName) prog_18_method_16_code (1 : Nat) (Option.some (Jvm.ClassFile.FieldType.object "corro/core/Level")), Jvm.Cond.code ({ cls := "corro/core/Order", name := "previous", desc := "()Lcorro/core/Order;" } : Jvm.MethodName) prog_18_method_18_code (1 : Nat) (Option.some (Jvm.ClassFile.FieldType.object "corro/core/Order")), Jvm.Cond.code ({ cls := "corro/core/Order", name := "next", desc := "()Lcorro/core/Order;" } : Jvm.MethodName) prog_18_method_17_code (1 : Nat) (Option.some (Jvm.ClassFile.FieldType.object "corro/core/Order"))]
set_option maxRecDepth 65536 in
theorem codes_eq : words1.filter isCode = codes1 := rfl
theorem w_codes : ∀ c ∈ words1.filter isCode, c.before args0 about1 = true := by
  rw [codes_eq]
  intro c hc
  simp only [codes1, List.mem_cons, List.not_mem_nil, or_false] at hc
  rcases hc with rfl | rfl | rfl | rfl | rfl | rfl | rfl | rfl | rfl
  · exact w_c0
  · exact w_c1
  · exact w_c2
  · exact w_c3
  · exact w_c4
  · exact w_c5
  · exact w_c6
  · exact w_c7
  · exact w_c8
set_option maxRecDepth 65536 in
theorem w_t1 : (words1.take 24).all (fun c => isCode c || c.before args0 about1) = true := by decide +kernel
set_option maxRecDepth 65536 in
theorem w_t2 : ((words1.drop 24).take 24).all (fun c => isCode c || c.before args0 about1) = true := by decide +kernel
set_option maxRecDepth 65536 in
theorem w_t3 : ((words1.drop 24).drop 24).all (fun c => isCode c || c.before args0 about1) = true := by decide +kernel
theorem w_tables : (allAtoms (Jvm.Cond.code x code maxLocals ret :: tables_1)).before args0 about1 = true := by
  rw [allAtoms_all]
  show words1.all (fun c => c.before args0 about1) = true
  refine all_split ?_ w_codes
  rw [← List.take_append_drop 24 words1, List.all_append, w_t1, ← List.take_append_drop 24 (words1.drop 24), List.all_append, w_t2, w_t3]
  rfl
set_option maxRecDepth 65536 in
theorem w_case : (Jvm.Cond.and given_1 narrow_1).before args0 about1 = true := by decide +kernel
theorem w_applies : (headSpec (Jvm.Cond.code x code maxLocals ret :: tables_1) room_1).applies x e0.platform about1 = true :=
  (Spec.applies_iff w_frames).mpr ⟨w_running, w_runnable, w_alone, w_named, w_hears, w_ripe, w_room, w_tables⟩
theorem atStart : AtStart classFile x code maxLocals ret World_1 tables_1 room_1 Calls_1 rest_1 Pre_1 launch0 p0 e0 about1 theMethod args0 below0 :=
  ⟨lists_1, trivial, launch0.admits_env _ _ _, launch0.least_env, fairChoices_fair.cas, fairChoices_fair.clock, w_frames, w_args, w_heap, w_applies, trivial, trivial, w_case⟩
end start1
theorem witness_1 : WitnessClaimed_1 := ⟨start1.p0, start1.e0, start1.about1, start1.theMethod, start1.args0, start1.below0, start1.atStart⟩
end Jvm.Pilot.@@N@@
