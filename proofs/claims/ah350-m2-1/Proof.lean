import JvmDerived
import JvmDerived.Pilot.@@N@@Statement
import JvmDerived.Pilot.@@N@@Code
set_option linter.unusedVariables false
set_option linter.unusedSimpArgs false
namespace Jvm.RoadKit
open Sem ClassFile Op Lib Jvm.Stand Jvm.Free Jvm.LawKit
section Own
variable {p : Program} {l : Launch} {e : Env} {R : Room} {s : State} {m : MethodId} {args : Array Value} {below : List Frame} {meth : Method} {c : Code} {T T' : State} {locs : List Loc} {cells slots : Nat} {g g' : JFrame} {Φ : State → Prop}
/-- from this frame the run comes to a state with Φ -/
def own_G (p : Program) (e : Env) (below : List Frame) (Φ : State → Prop) (T : State) (g : JFrame) : Prop := ∃ t, Steps p.tables e below (T.setTop g) t ∧ Φ t
/-- what the end of a method with the answer Q is -/
def own_E (s : State) (below : List Frame) (Q : Option Value → Heap → List Loc → Prop) (k n : Nat) (t : State) : Prop := ∃ o, t.status = .running ∧ Ended t below o ∧ ∃ v L, o = .returned v ∧ Q v t.heap L ∧ FrameEnd s o t L k n
def own_Al (_ : Stand p l e R s m args below meth c T locs cells slots) (T' : State) : Prop := Stand p l e R s m args below meth c T' locs cells slots
theorem own_go (h : ∀ t, Steps p.tables e below (T'.setTop g') t → Steps p.tables e below (T.setTop g) t) (k : own_G p e below Φ T' g') : own_G p e below Φ T g := by
  obtain ⟨t, a, b⟩ := k
  exact ⟨t, h t a, b⟩
theorem own_on (h : Steps p.tables e below (T.setTop g) (T'.setTop g')) (k : own_G p e below Φ T' g') : own_G p e below Φ T g := by
  obtain ⟨t, a, b⟩ := k
  exact ⟨t, h.trans a, b⟩
theorem own_ret (X : Stand p l e R s m args below meth c T locs cells slots) {Q : Option Value → Heap → List Loc → Prop} {k n : Nat} {v : Option Value} (hv : meth.sig.returnType = none → v = none) (hlocks : meth.locks = false)
    (hst : ∀ fs, (∀ (f : JFrame) (acts : List Action), f.method = m → f.locked = none → f.entered = [] → (doReturn e (T.setTop f) acts v).1 = T.setFrames fs) → Steps p.tables e below (T.setTop g) (T.setFrames fs))
    (hq : Q v T.heap locs) (hc : cells ≤ k) (hn : slots ≤ n) : own_G p e below (own_E s below Q k n) T g := by
  obtain ⟨fs, hr, hrun, hended, hW, hsame⟩ := X.leave hv hlocks
  exact ⟨_, hst fs hr, _, hrun, hended, _, _, rfl, hq, ⟨_, rfl⟩, hW, hsame.mono hc hn⟩
def own_EW (s : State) (below : List Frame) (Q : Option Value → Heap → List Loc → Prop) (k n : Nat) (t : State) : Prop := ∃ o, t.status = .running ∧ Ended t below o ∧ ∃ v L, o = .returned v ∧ Q v t.heap L ∧ ReturnedEndW s o t L k n
theorem own_retW {vm₁ : Vm} (X : Stand p l e R (s.setVm vm₁) m args below meth c T locs cells slots) {q : Nat} (hS : s.Since vm₁ q) (hq' : q ≤ T.heap.size) {Q : Option Value → Heap → List Loc → Prop} {k n : Nat} {v : Option Value} (hv : meth.sig.returnType = none → v = none) (hlocks : meth.locks = false)
    (hst : ∀ fs, (∀ (f : JFrame) (acts : List Action), f.method = m → f.locked = none → f.entered = [] → (doReturn e (T.setTop f) acts v).1 = T.setFrames fs) → Steps p.tables e below (T.setTop g) (T.setFrames fs))
    (hq : Q v T.heap locs) (hc : cells ≤ k) (hn : slots ≤ n) : own_G p e below (own_EW s below Q k n) T g := by
  obtain ⟨fs, hr, hrun, hended, h1, h2, h3, h4⟩ := X.leaveW hS hq' hv hlocks
  exact ⟨_, hst fs hr, _, hrun, hended, _, _, rfl, hq, h1, h2, h3, h4.mono hc hn⟩
theorem own_lrem_eq (x y : Int64) : x - (x / y) * y = x % y := by
  apply Int64.toInt_inj.mp
  have r := rng64 (x % y)
  have hm : (x % y).toInt = x.toInt - y.toInt * x.toInt.tdiv y.toInt := by rw [Int64.toInt_mod, Int.tmod_def]
  have hs : (x - x / y * y).toInt = (x.toInt - y.toInt * x.toInt.tdiv y.toInt).bmod (2 ^ 64) := by
    rw [Int64.toInt_sub, Int64.toInt_mul, Int64.toInt_div, Int.bmod_mul_bmod, Int.sub_bmod_bmod, Int.mul_comm]
  rw [hs, ← hm]
  exact Int.bmod_eq_of_le (by omega) (by omega)
theorem own_lremM {target : State} (X : Stand p l e R s m args below meth c T locs cells slots) (hx : p.tables.exec = Jvm.exec) (hg : g.method = m) {x y : Int64} {rest : List Value} (hd : decode c.code g.pc = .ok (.lrem, 1)) (hs : g.stack = .long y :: .long x :: rest) (hy : y ≠ 0)
    (hr : Steps p.tables e below (T.setTop { g with pc := g.pc + 1, stack := .long (x % y) :: rest }) target) : Steps p.tables e below (T.setTop g) target :=
  XS.lrem X.here hx hg hd hs hy (by rw [own_lrem_eq]; exact hr)
theorem own_nar {v : Value} {t : FieldType} (h : v.isRef = true) : narrow t v = v := by
  rcases ref_cases h with rfl | ⟨a, rfl⟩ <;> cases t <;> rfl
end Own
end Jvm.RoadKit
namespace Jvm.Pilot.@@N@@
open Jvm Jvm.ClassFile Sem Op Lib Jvm.Free Jvm.Stand Jvm.LawKit Jvm.RoadKit Bundle Jvm.Pilot.@@N@@.Jvm.D

def own_sound (a b c d : Int64) : Int32 := if a = 0 ∧ b = 0 ∧ c = 0 ∧ d = 0 then 1 else 0
theorem own_or0 (a b : Int64) : a ||| b = 0 ↔ a = 0 ∧ b = 0 := by
  rw [← Int64.toBitVec_inj, ← Int64.toBitVec_inj, ← Int64.toBitVec_inj, Int64.toBitVec_or]
  exact BitVec.or_eq_zero_iff
theorem own_or4 (a b c d : Int64) : (((a ||| b) ||| c) ||| d) = 0 ↔ (a = 0 ∧ b = 0 ∧ c = 0 ∧ d = 0) := by
  rw [own_or0, own_or0, own_or0]
  constructor
  · rintro ⟨⟨⟨h1, h2⟩, h3⟩, h4⟩
    exact ⟨h1, h2, h3, h4⟩
  · rintro ⟨h1, h2, h3, h4⟩
    exact ⟨⟨⟨h1, h2⟩, h3⟩, h4⟩

theorem d2_0 : decode jdk_30_method_1_code 0 = .ok (.aload_n 0, 1) := by decide +kernel
theorem d2_1 : decode jdk_30_method_1_code 1 = .ok (.invokespecial 1, 3) := by decide +kernel
theorem wd_14 {Z : State} {a0 : Array Value} (hw : ∀ d ∈ tables_1, d.before a0 Z = true) : ((Jvm.Cond.methodLink "java/lang/Record" (1 : Nat) ({ cls := "java/lang/Object", name := "<init>", desc := "()V" } : Jvm.MethodName)) : Jvm.Cond).before a0 Z = true := hw _ (List.mem_of_getElem? (i := 14) rfl)
theorem wd_15 {Z : State} {a0 : Array Value} (hw : ∀ d ∈ tables_1, d.before a0 Z = true) : ((Jvm.Cond.instanceMethod ({ cls := "java/lang/Object", name := "<init>", desc := "()V" } : Jvm.MethodName)) : Jvm.Cond).before a0 Z = true := hw _ (List.mem_of_getElem? (i := 15) rfl)
theorem wd_16 {Z : State} {a0 : Array Value} (hw : ∀ d ∈ tables_1, d.before a0 Z = true) : ((Jvm.Cond.code ({ cls := "java/lang/Object", name := "<init>", desc := "()V" } : Jvm.MethodName) object_method_1_code (1 : Nat) (Option.none : Option Jvm.ClassFile.FieldType)) : Jvm.Cond).before a0 Z = true := hw _ (List.mem_of_getElem? (i := 16) rfl)
theorem d2_4 : decode jdk_30_method_1_code 4 = .ok (.return_, 1) := by decide +kernel
theorem pn_0 : plainName "java/lang/Record" = true := by first | (simp [plainName, overriddenIn]; done) | decide +kernel
theorem ef_rm2 (m : MethodId) (a1 : Addr) : entryFrame m #[(.ref a1)] 1 = mkF m 0 #[.val (.ref a1)] [] := by first | (simp [entryFrame, mkF, argsToLocals, Value.category]; done) | rfl
def Q_rm2 (Z : State) (a1 : Addr) (h0 : Heap) (n0 : Nat) (v : Option Value) (h : Heap) (L : List Loc) : Prop := v = none ∧ Fr n0 L ∧ h = h0
set_option maxRecDepth 65536 in
set_option maxHeartbeats 40000000 in
theorem rm2 (l : Launch) (Z : State) (a0 : Array Value) (hw : ∀ d ∈ tables_1, d.before a0 Z = true) (ws : List Jvm.Cond) (a1 : Addr) (h0 : Heap) (n0 : Nat) (Z0 : n0 ≤ h0.size)  :
    MetFree l (⟨"java/lang/Record", "<init>", "()V"⟩ : MethodName) (head1 (Jvm.Cond.code (⟨"java/lang/Record", "<init>", "()V"⟩ : MethodName) jdk_30_method_1_code 1 none :: ws) ({ frames := 1, cells := 0, slots := 0, locals := 12 } : Room)) (fun a U => a = #[(.ref a1)] ∧ Z.Warmed39 U.vm ∧ U.heap = h0) (fun _ _ _ _ _ => True) (fun _ U o U' => ∃ v L, o = .returned v ∧ Q_rm2 Z a1 h0 n0 v U'.heap L ∧ FrameEnd U o U' L ({ frames := 1, cells := 0, slots := 0, locals := 12 } : Room).cells ({ frames := 1, cells := 0, slots := 0, locals := 12 } : Room).slots) := by
  refine MetFree.of_bodySF (plainFor_of_name pn_0) hisR ?_
  intro p e s m args below meth c s₁ Bd hml0 hP hK
  obtain ⟨rfl, hZ, hh⟩ := hP
  have hx := Bd.exec
  have hby := Bd.bytes
  have hml : c.maxLocals = 1 := hml0
  have hown : s.vm.findClass "java/lang/Record" = some m.cls := findClass_of_methodNamed Bd.named
  have hnm := (name_of_methodNamed Bd.named Bd.method).1
  have X0 : Stand p l e ({ frames := 1, cells := 0, slots := 0, locals := 12 } : Room) s m #[(.ref a1)] below meth c s₁ [] 0 0 := Stand.of_body Bd
  have e0 : s₁.heap = h0 := by rw [← hh, Bd.state]; rfl
  have N0 := Fr.nil n0
  suffices G0 : own_G p e below (own_E s below (Q_rm2 Z a1 h0 n0) ({ frames := 1, cells := 0, slots := 0, locals := 12 } : Room).cells ({ frames := 1, cells := 0, slots := 0, locals := 12 } : Room).slots) s₁ (mkF m 0 #[.val (.ref a1)] []) by
    obtain ⟨zt, zst, zo, zq1, zq2, zq3⟩ := G0
    exact ⟨zt, zo, castTop (ef_rm2 m a1) zst, zq1, zq2, zq3⟩
  obtain ⟨Φ, hΦ⟩ : ∃ Φ, Φ = own_E s below (Q_rm2 Z a1 h0 n0) ({ frames := 1, cells := 0, slots := 0, locals := 12 } : Room).cells ({ frames := 1, cells := 0, slots := 0, locals := 12 } : Room).slots := ⟨_, rfl⟩
  rw [← hΦ]
  show own_G p e below Φ s₁ (mkF m 0 #[.val (.ref a1)] [])
  refine own_go (fun _ => XS.aloadN X0.here hx rfl (hb hby d2_0) rfl rfl) ?_
  show own_G p e below Φ s₁ (mkF m 1 #[.val (.ref a1)] [(.ref a1)])
  obtain ⟨T1, X1, e1, st1⟩ := initO X0 hx hZ hown (wd_14 hw) (wd_15 hw) (wd_16 hw) e0 (g := (mkF m 1 #[.val (.ref a1)] [(.ref a1)])) rfl (by rw [hml]; rfl) rfl (hb hby d2_1) (by decide) (W := 0) (by show 2 * 0 + _ ≤ _; exact Nat.le_of_eq rfl) (by decide)
  refine own_go st1 ?_
  show own_G p e below Φ T1 (mkF m 4 #[.val (.ref a1)] [])
  rw [hΦ]
  refine own_ret X1 (v := none) (fun _ => rfl) (BodyLoose.notSynchronized Bd) (fun fs hr => X1.returnOut hx Bd.returns (hb hby d2_4) hr) ?_ (by decide) (by decide)
  rw [e1]
  exact ⟨rfl, N0, rfl⟩
theorem d1_0 : decode prog_117_method_1_code 0 = .ok (.aload_n 0, 1) := by decide +kernel
theorem d1_1 : decode prog_117_method_1_code 1 = .ok (.invokespecial 1, 3) := by decide +kernel
theorem wd_9 {Z : State} {a0 : Array Value} (hw : ∀ d ∈ tables_1, d.before a0 Z = true) : ((Jvm.Cond.methodLink "com/example/brickwork/brickwork/cli/CheckHistoryCommand$Verdict" (1 : Nat) ({ cls := "java/lang/Record", name := "<init>", desc := "()V" } : Jvm.MethodName)) : Jvm.Cond).before a0 Z = true := hw _ (List.mem_of_getElem? (i := 9) rfl)
theorem wd_13 {Z : State} {a0 : Array Value} (hw : ∀ d ∈ tables_1, d.before a0 Z = true) : ((Jvm.Cond.code ({ cls := "java/lang/Record", name := "<init>", desc := "()V" } : Jvm.MethodName) jdk_30_method_1_code (1 : Nat) (Option.none : Option Jvm.ClassFile.FieldType)) : Jvm.Cond).before a0 Z = true := hw _ (List.mem_of_getElem? (i := 13) rfl)
theorem wd_12 {Z : State} {a0 : Array Value} (hw : ∀ d ∈ tables_1, d.before a0 Z = true) : ((Jvm.Cond.initialized "java/lang/Record") : Jvm.Cond).before a0 Z = true := hw _ (List.mem_of_getElem? (i := 12) rfl)
theorem pd_0 : parseMethodDescriptor "()V" = some ⟨[], none⟩ := by decide +kernel
theorem wd_10 {Z : State} {a0 : Array Value} (hw : ∀ d ∈ tables_1, d.before a0 Z = true) : ((Jvm.Cond.instanceMethod ({ cls := "java/lang/Record", name := "<init>", desc := "()V" } : Jvm.MethodName)) : Jvm.Cond).before a0 Z = true := hw _ (List.mem_of_getElem? (i := 10) rfl)
theorem d1_4 : decode prog_117_method_1_code 4 = .ok (.aload_n 0, 1) := by decide +kernel
theorem d1_5 : decode prog_117_method_1_code 5 = .ok (.lload_n 1, 1) := by decide +kernel
theorem d1_6 : decode prog_117_method_1_code 6 = .ok (.putfield 7, 3) := by decide +kernel
theorem wd_17 {Z : State} {a0 : Array Value} (hw : ∀ d ∈ tables_1, d.before a0 Z = true) : ((Jvm.Cond.fieldLink "com/example/brickwork/brickwork/cli/CheckHistoryCommand$Verdict" (7 : Nat) "com/example/brickwork/brickwork/cli/CheckHistoryCommand$Verdict" "ops" "J") : Jvm.Cond).before a0 Z = true := hw _ (List.mem_of_getElem? (i := 17) rfl)
theorem wd_18 {Z : State} {a0 : Array Value} (hw : ∀ d ∈ tables_1, d.before a0 Z = true) : ((Jvm.Cond.laysFinal "com/example/brickwork/brickwork/cli/CheckHistoryCommand$Verdict" "com/example/brickwork/brickwork/cli/CheckHistoryCommand$Verdict" "ops" "J") : Jvm.Cond).before a0 Z = true := hw _ (List.mem_of_getElem? (i := 18) rfl)
theorem wd_4 {Z : State} {a0 : Array Value} (hw : ∀ d ∈ tables_1, d.before a0 Z = true) : ((Jvm.Cond.instantiable "com/example/brickwork/brickwork/cli/CheckHistoryCommand$Verdict" (6 : Nat)) : Jvm.Cond).before a0 Z = true := hw _ (List.mem_of_getElem? (i := 4) rfl)
theorem d1_9 : decode prog_117_method_1_code 9 = .ok (.aload_n 0, 1) := by decide +kernel
theorem d1_10 : decode prog_117_method_1_code 10 = .ok (.lload_n 3, 1) := by decide +kernel
theorem d1_11 : decode prog_117_method_1_code 11 = .ok (.putfield 13, 3) := by decide +kernel
theorem wd_19 {Z : State} {a0 : Array Value} (hw : ∀ d ∈ tables_1, d.before a0 Z = true) : ((Jvm.Cond.fieldLink "com/example/brickwork/brickwork/cli/CheckHistoryCommand$Verdict" (13 : Nat) "com/example/brickwork/brickwork/cli/CheckHistoryCommand$Verdict" "keys" "J") : Jvm.Cond).before a0 Z = true := hw _ (List.mem_of_getElem? (i := 19) rfl)
theorem wd_20 {Z : State} {a0 : Array Value} (hw : ∀ d ∈ tables_1, d.before a0 Z = true) : ((Jvm.Cond.laysFinal "com/example/brickwork/brickwork/cli/CheckHistoryCommand$Verdict" "com/example/brickwork/brickwork/cli/CheckHistoryCommand$Verdict" "keys" "J") : Jvm.Cond).before a0 Z = true := hw _ (List.mem_of_getElem? (i := 20) rfl)
theorem sl_0 {Z : State} {a0 : Array Value} (hw : ∀ d ∈ tables_1, d.before a0 Z = true) : Jvm.RoadKit.slotOf Z "com/example/brickwork/brickwork/cli/CheckHistoryCommand$Verdict" "keys" "J" ≠ Jvm.RoadKit.slotOf Z "com/example/brickwork/brickwork/cli/CheckHistoryCommand$Verdict" "ops" "J" := slot_ne (C := "com/example/brickwork/brickwork/cli/CheckHistoryCommand$Verdict") (Or.inr (wd_20 hw)) (Or.inr (wd_18 hw)) (by decide) (t := .long) (t' := .long) (by decide) (by decide)
theorem d1_14 : decode prog_117_method_1_code 14 = .ok (.aload_n 0, 1) := by decide +kernel
theorem d1_15 : decode prog_117_method_1_code 15 = .ok (.lload 5, 2) := by decide +kernel
theorem d1_17 : decode prog_117_method_1_code 17 = .ok (.putfield 16, 3) := by decide +kernel
theorem wd_21 {Z : State} {a0 : Array Value} (hw : ∀ d ∈ tables_1, d.before a0 Z = true) : ((Jvm.Cond.fieldLink "com/example/brickwork/brickwork/cli/CheckHistoryCommand$Verdict" (16 : Nat) "com/example/brickwork/brickwork/cli/CheckHistoryCommand$Verdict" "stale" "J") : Jvm.Cond).before a0 Z = true := hw _ (List.mem_of_getElem? (i := 21) rfl)
theorem wd_22 {Z : State} {a0 : Array Value} (hw : ∀ d ∈ tables_1, d.before a0 Z = true) : ((Jvm.Cond.laysFinal "com/example/brickwork/brickwork/cli/CheckHistoryCommand$Verdict" "com/example/brickwork/brickwork/cli/CheckHistoryCommand$Verdict" "stale" "J") : Jvm.Cond).before a0 Z = true := hw _ (List.mem_of_getElem? (i := 22) rfl)
theorem sl_1 {Z : State} {a0 : Array Value} (hw : ∀ d ∈ tables_1, d.before a0 Z = true) : Jvm.RoadKit.slotOf Z "com/example/brickwork/brickwork/cli/CheckHistoryCommand$Verdict" "stale" "J" ≠ Jvm.RoadKit.slotOf Z "com/example/brickwork/brickwork/cli/CheckHistoryCommand$Verdict" "ops" "J" := slot_ne (C := "com/example/brickwork/brickwork/cli/CheckHistoryCommand$Verdict") (Or.inr (wd_22 hw)) (Or.inr (wd_18 hw)) (by decide) (t := .long) (t' := .long) (by decide) (by decide)
theorem sl_2 {Z : State} {a0 : Array Value} (hw : ∀ d ∈ tables_1, d.before a0 Z = true) : Jvm.RoadKit.slotOf Z "com/example/brickwork/brickwork/cli/CheckHistoryCommand$Verdict" "stale" "J" ≠ Jvm.RoadKit.slotOf Z "com/example/brickwork/brickwork/cli/CheckHistoryCommand$Verdict" "keys" "J" := slot_ne (C := "com/example/brickwork/brickwork/cli/CheckHistoryCommand$Verdict") (Or.inr (wd_22 hw)) (Or.inr (wd_20 hw)) (by decide) (t := .long) (t' := .long) (by decide) (by decide)
theorem d1_20 : decode prog_117_method_1_code 20 = .ok (.aload_n 0, 1) := by decide +kernel
theorem d1_21 : decode prog_117_method_1_code 21 = .ok (.lload 7, 2) := by decide +kernel
theorem d1_23 : decode prog_117_method_1_code 23 = .ok (.putfield 19, 3) := by decide +kernel
theorem wd_23 {Z : State} {a0 : Array Value} (hw : ∀ d ∈ tables_1, d.before a0 Z = true) : ((Jvm.Cond.fieldLink "com/example/brickwork/brickwork/cli/CheckHistoryCommand$Verdict" (19 : Nat) "com/example/brickwork/brickwork/cli/CheckHistoryCommand$Verdict" "backwards" "J") : Jvm.Cond).before a0 Z = true := hw _ (List.mem_of_getElem? (i := 23) rfl)
theorem wd_24 {Z : State} {a0 : Array Value} (hw : ∀ d ∈ tables_1, d.before a0 Z = true) : ((Jvm.Cond.laysFinal "com/example/brickwork/brickwork/cli/CheckHistoryCommand$Verdict" "com/example/brickwork/brickwork/cli/CheckHistoryCommand$Verdict" "backwards" "J") : Jvm.Cond).before a0 Z = true := hw _ (List.mem_of_getElem? (i := 24) rfl)
theorem sl_3 {Z : State} {a0 : Array Value} (hw : ∀ d ∈ tables_1, d.before a0 Z = true) : Jvm.RoadKit.slotOf Z "com/example/brickwork/brickwork/cli/CheckHistoryCommand$Verdict" "backwards" "J" ≠ Jvm.RoadKit.slotOf Z "com/example/brickwork/brickwork/cli/CheckHistoryCommand$Verdict" "ops" "J" := slot_ne (C := "com/example/brickwork/brickwork/cli/CheckHistoryCommand$Verdict") (Or.inr (wd_24 hw)) (Or.inr (wd_18 hw)) (by decide) (t := .long) (t' := .long) (by decide) (by decide)
theorem sl_4 {Z : State} {a0 : Array Value} (hw : ∀ d ∈ tables_1, d.before a0 Z = true) : Jvm.RoadKit.slotOf Z "com/example/brickwork/brickwork/cli/CheckHistoryCommand$Verdict" "backwards" "J" ≠ Jvm.RoadKit.slotOf Z "com/example/brickwork/brickwork/cli/CheckHistoryCommand$Verdict" "keys" "J" := slot_ne (C := "com/example/brickwork/brickwork/cli/CheckHistoryCommand$Verdict") (Or.inr (wd_24 hw)) (Or.inr (wd_20 hw)) (by decide) (t := .long) (t' := .long) (by decide) (by decide)
theorem sl_5 {Z : State} {a0 : Array Value} (hw : ∀ d ∈ tables_1, d.before a0 Z = true) : Jvm.RoadKit.slotOf Z "com/example/brickwork/brickwork/cli/CheckHistoryCommand$Verdict" "backwards" "J" ≠ Jvm.RoadKit.slotOf Z "com/example/brickwork/brickwork/cli/CheckHistoryCommand$Verdict" "stale" "J" := slot_ne (C := "com/example/brickwork/brickwork/cli/CheckHistoryCommand$Verdict") (Or.inr (wd_24 hw)) (Or.inr (wd_22 hw)) (by decide) (t := .long) (t' := .long) (by decide) (by decide)
theorem d1_26 : decode prog_117_method_1_code 26 = .ok (.aload_n 0, 1) := by decide +kernel
theorem d1_27 : decode prog_117_method_1_code 27 = .ok (.lload 9, 2) := by decide +kernel
theorem d1_29 : decode prog_117_method_1_code 29 = .ok (.putfield 22, 3) := by decide +kernel
theorem wd_25 {Z : State} {a0 : Array Value} (hw : ∀ d ∈ tables_1, d.before a0 Z = true) : ((Jvm.Cond.fieldLink "com/example/brickwork/brickwork/cli/CheckHistoryCommand$Verdict" (22 : Nat) "com/example/brickwork/brickwork/cli/CheckHistoryCommand$Verdict" "phantom" "J") : Jvm.Cond).before a0 Z = true := hw _ (List.mem_of_getElem? (i := 25) rfl)
theorem wd_26 {Z : State} {a0 : Array Value} (hw : ∀ d ∈ tables_1, d.before a0 Z = true) : ((Jvm.Cond.laysFinal "com/example/brickwork/brickwork/cli/CheckHistoryCommand$Verdict" "com/example/brickwork/brickwork/cli/CheckHistoryCommand$Verdict" "phantom" "J") : Jvm.Cond).before a0 Z = true := hw _ (List.mem_of_getElem? (i := 26) rfl)
theorem sl_6 {Z : State} {a0 : Array Value} (hw : ∀ d ∈ tables_1, d.before a0 Z = true) : Jvm.RoadKit.slotOf Z "com/example/brickwork/brickwork/cli/CheckHistoryCommand$Verdict" "phantom" "J" ≠ Jvm.RoadKit.slotOf Z "com/example/brickwork/brickwork/cli/CheckHistoryCommand$Verdict" "ops" "J" := slot_ne (C := "com/example/brickwork/brickwork/cli/CheckHistoryCommand$Verdict") (Or.inr (wd_26 hw)) (Or.inr (wd_18 hw)) (by decide) (t := .long) (t' := .long) (by decide) (by decide)
theorem sl_7 {Z : State} {a0 : Array Value} (hw : ∀ d ∈ tables_1, d.before a0 Z = true) : Jvm.RoadKit.slotOf Z "com/example/brickwork/brickwork/cli/CheckHistoryCommand$Verdict" "phantom" "J" ≠ Jvm.RoadKit.slotOf Z "com/example/brickwork/brickwork/cli/CheckHistoryCommand$Verdict" "keys" "J" := slot_ne (C := "com/example/brickwork/brickwork/cli/CheckHistoryCommand$Verdict") (Or.inr (wd_26 hw)) (Or.inr (wd_20 hw)) (by decide) (t := .long) (t' := .long) (by decide) (by decide)
theorem sl_8 {Z : State} {a0 : Array Value} (hw : ∀ d ∈ tables_1, d.before a0 Z = true) : Jvm.RoadKit.slotOf Z "com/example/brickwork/brickwork/cli/CheckHistoryCommand$Verdict" "phantom" "J" ≠ Jvm.RoadKit.slotOf Z "com/example/brickwork/brickwork/cli/CheckHistoryCommand$Verdict" "stale" "J" := slot_ne (C := "com/example/brickwork/brickwork/cli/CheckHistoryCommand$Verdict") (Or.inr (wd_26 hw)) (Or.inr (wd_22 hw)) (by decide) (t := .long) (t' := .long) (by decide) (by decide)
theorem sl_9 {Z : State} {a0 : Array Value} (hw : ∀ d ∈ tables_1, d.before a0 Z = true) : Jvm.RoadKit.slotOf Z "com/example/brickwork/brickwork/cli/CheckHistoryCommand$Verdict" "phantom" "J" ≠ Jvm.RoadKit.slotOf Z "com/example/brickwork/brickwork/cli/CheckHistoryCommand$Verdict" "backwards" "J" := slot_ne (C := "com/example/brickwork/brickwork/cli/CheckHistoryCommand$Verdict") (Or.inr (wd_26 hw)) (Or.inr (wd_24 hw)) (by decide) (t := .long) (t' := .long) (by decide) (by decide)
theorem d1_32 : decode prog_117_method_1_code 32 = .ok (.aload_n 0, 1) := by decide +kernel
theorem d1_33 : decode prog_117_method_1_code 33 = .ok (.lload 11, 2) := by decide +kernel
theorem d1_35 : decode prog_117_method_1_code 35 = .ok (.putfield 25, 3) := by decide +kernel
theorem wd_27 {Z : State} {a0 : Array Value} (hw : ∀ d ∈ tables_1, d.before a0 Z = true) : ((Jvm.Cond.fieldLink "com/example/brickwork/brickwork/cli/CheckHistoryCommand$Verdict" (25 : Nat) "com/example/brickwork/brickwork/cli/CheckHistoryCommand$Verdict" "corrupt" "J") : Jvm.Cond).before a0 Z = true := hw _ (List.mem_of_getElem? (i := 27) rfl)
theorem wd_28 {Z : State} {a0 : Array Value} (hw : ∀ d ∈ tables_1, d.before a0 Z = true) : ((Jvm.Cond.laysFinal "com/example/brickwork/brickwork/cli/CheckHistoryCommand$Verdict" "com/example/brickwork/brickwork/cli/CheckHistoryCommand$Verdict" "corrupt" "J") : Jvm.Cond).before a0 Z = true := hw _ (List.mem_of_getElem? (i := 28) rfl)
theorem sl_10 {Z : State} {a0 : Array Value} (hw : ∀ d ∈ tables_1, d.before a0 Z = true) : Jvm.RoadKit.slotOf Z "com/example/brickwork/brickwork/cli/CheckHistoryCommand$Verdict" "corrupt" "J" ≠ Jvm.RoadKit.slotOf Z "com/example/brickwork/brickwork/cli/CheckHistoryCommand$Verdict" "ops" "J" := slot_ne (C := "com/example/brickwork/brickwork/cli/CheckHistoryCommand$Verdict") (Or.inr (wd_28 hw)) (Or.inr (wd_18 hw)) (by decide) (t := .long) (t' := .long) (by decide) (by decide)
theorem sl_11 {Z : State} {a0 : Array Value} (hw : ∀ d ∈ tables_1, d.before a0 Z = true) : Jvm.RoadKit.slotOf Z "com/example/brickwork/brickwork/cli/CheckHistoryCommand$Verdict" "corrupt" "J" ≠ Jvm.RoadKit.slotOf Z "com/example/brickwork/brickwork/cli/CheckHistoryCommand$Verdict" "keys" "J" := slot_ne (C := "com/example/brickwork/brickwork/cli/CheckHistoryCommand$Verdict") (Or.inr (wd_28 hw)) (Or.inr (wd_20 hw)) (by decide) (t := .long) (t' := .long) (by decide) (by decide)
theorem sl_12 {Z : State} {a0 : Array Value} (hw : ∀ d ∈ tables_1, d.before a0 Z = true) : Jvm.RoadKit.slotOf Z "com/example/brickwork/brickwork/cli/CheckHistoryCommand$Verdict" "corrupt" "J" ≠ Jvm.RoadKit.slotOf Z "com/example/brickwork/brickwork/cli/CheckHistoryCommand$Verdict" "stale" "J" := slot_ne (C := "com/example/brickwork/brickwork/cli/CheckHistoryCommand$Verdict") (Or.inr (wd_28 hw)) (Or.inr (wd_22 hw)) (by decide) (t := .long) (t' := .long) (by decide) (by decide)
theorem sl_13 {Z : State} {a0 : Array Value} (hw : ∀ d ∈ tables_1, d.before a0 Z = true) : Jvm.RoadKit.slotOf Z "com/example/brickwork/brickwork/cli/CheckHistoryCommand$Verdict" "corrupt" "J" ≠ Jvm.RoadKit.slotOf Z "com/example/brickwork/brickwork/cli/CheckHistoryCommand$Verdict" "backwards" "J" := slot_ne (C := "com/example/brickwork/brickwork/cli/CheckHistoryCommand$Verdict") (Or.inr (wd_28 hw)) (Or.inr (wd_24 hw)) (by decide) (t := .long) (t' := .long) (by decide) (by decide)
theorem sl_14 {Z : State} {a0 : Array Value} (hw : ∀ d ∈ tables_1, d.before a0 Z = true) : Jvm.RoadKit.slotOf Z "com/example/brickwork/brickwork/cli/CheckHistoryCommand$Verdict" "corrupt" "J" ≠ Jvm.RoadKit.slotOf Z "com/example/brickwork/brickwork/cli/CheckHistoryCommand$Verdict" "phantom" "J" := slot_ne (C := "com/example/brickwork/brickwork/cli/CheckHistoryCommand$Verdict") (Or.inr (wd_28 hw)) (Or.inr (wd_26 hw)) (by decide) (t := .long) (t' := .long) (by decide) (by decide)
theorem d1_38 : decode prog_117_method_1_code 38 = .ok (.return_, 1) := by decide +kernel
theorem sl_15 {Z : State} {a0 : Array Value} (hw : ∀ d ∈ tables_1, d.before a0 Z = true) : Jvm.RoadKit.slotOf Z "com/example/brickwork/brickwork/cli/CheckHistoryCommand$Verdict" "ops" "J" ≠ Jvm.RoadKit.slotOf Z "com/example/brickwork/brickwork/cli/CheckHistoryCommand$Verdict" "keys" "J" := slot_ne (C := "com/example/brickwork/brickwork/cli/CheckHistoryCommand$Verdict") (Or.inr (wd_18 hw)) (Or.inr (wd_20 hw)) (by decide) (t := .long) (t' := .long) (by decide) (by decide)
theorem sl_16 {Z : State} {a0 : Array Value} (hw : ∀ d ∈ tables_1, d.before a0 Z = true) : Jvm.RoadKit.slotOf Z "com/example/brickwork/brickwork/cli/CheckHistoryCommand$Verdict" "ops" "J" ≠ Jvm.RoadKit.slotOf Z "com/example/brickwork/brickwork/cli/CheckHistoryCommand$Verdict" "stale" "J" := slot_ne (C := "com/example/brickwork/brickwork/cli/CheckHistoryCommand$Verdict") (Or.inr (wd_18 hw)) (Or.inr (wd_22 hw)) (by decide) (t := .long) (t' := .long) (by decide) (by decide)
theorem sl_17 {Z : State} {a0 : Array Value} (hw : ∀ d ∈ tables_1, d.before a0 Z = true) : Jvm.RoadKit.slotOf Z "com/example/brickwork/brickwork/cli/CheckHistoryCommand$Verdict" "ops" "J" ≠ Jvm.RoadKit.slotOf Z "com/example/brickwork/brickwork/cli/CheckHistoryCommand$Verdict" "backwards" "J" := slot_ne (C := "com/example/brickwork/brickwork/cli/CheckHistoryCommand$Verdict") (Or.inr (wd_18 hw)) (Or.inr (wd_24 hw)) (by decide) (t := .long) (t' := .long) (by decide) (by decide)
theorem sl_18 {Z : State} {a0 : Array Value} (hw : ∀ d ∈ tables_1, d.before a0 Z = true) : Jvm.RoadKit.slotOf Z "com/example/brickwork/brickwork/cli/CheckHistoryCommand$Verdict" "ops" "J" ≠ Jvm.RoadKit.slotOf Z "com/example/brickwork/brickwork/cli/CheckHistoryCommand$Verdict" "phantom" "J" := slot_ne (C := "com/example/brickwork/brickwork/cli/CheckHistoryCommand$Verdict") (Or.inr (wd_18 hw)) (Or.inr (wd_26 hw)) (by decide) (t := .long) (t' := .long) (by decide) (by decide)
theorem sl_19 {Z : State} {a0 : Array Value} (hw : ∀ d ∈ tables_1, d.before a0 Z = true) : Jvm.RoadKit.slotOf Z "com/example/brickwork/brickwork/cli/CheckHistoryCommand$Verdict" "ops" "J" ≠ Jvm.RoadKit.slotOf Z "com/example/brickwork/brickwork/cli/CheckHistoryCommand$Verdict" "corrupt" "J" := slot_ne (C := "com/example/brickwork/brickwork/cli/CheckHistoryCommand$Verdict") (Or.inr (wd_18 hw)) (Or.inr (wd_28 hw)) (by decide) (t := .long) (t' := .long) (by decide) (by decide)
theorem sl_20 {Z : State} {a0 : Array Value} (hw : ∀ d ∈ tables_1, d.before a0 Z = true) : Jvm.RoadKit.slotOf Z "com/example/brickwork/brickwork/cli/CheckHistoryCommand$Verdict" "keys" "J" ≠ Jvm.RoadKit.slotOf Z "com/example/brickwork/brickwork/cli/CheckHistoryCommand$Verdict" "stale" "J" := slot_ne (C := "com/example/brickwork/brickwork/cli/CheckHistoryCommand$Verdict") (Or.inr (wd_20 hw)) (Or.inr (wd_22 hw)) (by decide) (t := .long) (t' := .long) (by decide) (by decide)
theorem sl_21 {Z : State} {a0 : Array Value} (hw : ∀ d ∈ tables_1, d.before a0 Z = true) : Jvm.RoadKit.slotOf Z "com/example/brickwork/brickwork/cli/CheckHistoryCommand$Verdict" "keys" "J" ≠ Jvm.RoadKit.slotOf Z "com/example/brickwork/brickwork/cli/CheckHistoryCommand$Verdict" "backwards" "J" := slot_ne (C := "com/example/brickwork/brickwork/cli/CheckHistoryCommand$Verdict") (Or.inr (wd_20 hw)) (Or.inr (wd_24 hw)) (by decide) (t := .long) (t' := .long) (by decide) (by decide)
theorem sl_22 {Z : State} {a0 : Array Value} (hw : ∀ d ∈ tables_1, d.before a0 Z = true) : Jvm.RoadKit.slotOf Z "com/example/brickwork/brickwork/cli/CheckHistoryCommand$Verdict" "keys" "J" ≠ Jvm.RoadKit.slotOf Z "com/example/brickwork/brickwork/cli/CheckHistoryCommand$Verdict" "phantom" "J" := slot_ne (C := "com/example/brickwork/brickwork/cli/CheckHistoryCommand$Verdict") (Or.inr (wd_20 hw)) (Or.inr (wd_26 hw)) (by decide) (t := .long) (t' := .long) (by decide) (by decide)
theorem sl_23 {Z : State} {a0 : Array Value} (hw : ∀ d ∈ tables_1, d.before a0 Z = true) : Jvm.RoadKit.slotOf Z "com/example/brickwork/brickwork/cli/CheckHistoryCommand$Verdict" "keys" "J" ≠ Jvm.RoadKit.slotOf Z "com/example/brickwork/brickwork/cli/CheckHistoryCommand$Verdict" "corrupt" "J" := slot_ne (C := "com/example/brickwork/brickwork/cli/CheckHistoryCommand$Verdict") (Or.inr (wd_20 hw)) (Or.inr (wd_28 hw)) (by decide) (t := .long) (t' := .long) (by decide) (by decide)
theorem sl_24 {Z : State} {a0 : Array Value} (hw : ∀ d ∈ tables_1, d.before a0 Z = true) : Jvm.RoadKit.slotOf Z "com/example/brickwork/brickwork/cli/CheckHistoryCommand$Verdict" "stale" "J" ≠ Jvm.RoadKit.slotOf Z "com/example/brickwork/brickwork/cli/CheckHistoryCommand$Verdict" "backwards" "J" := slot_ne (C := "com/example/brickwork/brickwork/cli/CheckHistoryCommand$Verdict") (Or.inr (wd_22 hw)) (Or.inr (wd_24 hw)) (by decide) (t := .long) (t' := .long) (by decide) (by decide)
theorem sl_25 {Z : State} {a0 : Array Value} (hw : ∀ d ∈ tables_1, d.before a0 Z = true) : Jvm.RoadKit.slotOf Z "com/example/brickwork/brickwork/cli/CheckHistoryCommand$Verdict" "stale" "J" ≠ Jvm.RoadKit.slotOf Z "com/example/brickwork/brickwork/cli/CheckHistoryCommand$Verdict" "phantom" "J" := slot_ne (C := "com/example/brickwork/brickwork/cli/CheckHistoryCommand$Verdict") (Or.inr (wd_22 hw)) (Or.inr (wd_26 hw)) (by decide) (t := .long) (t' := .long) (by decide) (by decide)
theorem sl_26 {Z : State} {a0 : Array Value} (hw : ∀ d ∈ tables_1, d.before a0 Z = true) : Jvm.RoadKit.slotOf Z "com/example/brickwork/brickwork/cli/CheckHistoryCommand$Verdict" "stale" "J" ≠ Jvm.RoadKit.slotOf Z "com/example/brickwork/brickwork/cli/CheckHistoryCommand$Verdict" "corrupt" "J" := slot_ne (C := "com/example/brickwork/brickwork/cli/CheckHistoryCommand$Verdict") (Or.inr (wd_22 hw)) (Or.inr (wd_28 hw)) (by decide) (t := .long) (t' := .long) (by decide) (by decide)
theorem sl_27 {Z : State} {a0 : Array Value} (hw : ∀ d ∈ tables_1, d.before a0 Z = true) : Jvm.RoadKit.slotOf Z "com/example/brickwork/brickwork/cli/CheckHistoryCommand$Verdict" "backwards" "J" ≠ Jvm.RoadKit.slotOf Z "com/example/brickwork/brickwork/cli/CheckHistoryCommand$Verdict" "phantom" "J" := slot_ne (C := "com/example/brickwork/brickwork/cli/CheckHistoryCommand$Verdict") (Or.inr (wd_24 hw)) (Or.inr (wd_26 hw)) (by decide) (t := .long) (t' := .long) (by decide) (by decide)
theorem sl_28 {Z : State} {a0 : Array Value} (hw : ∀ d ∈ tables_1, d.before a0 Z = true) : Jvm.RoadKit.slotOf Z "com/example/brickwork/brickwork/cli/CheckHistoryCommand$Verdict" "backwards" "J" ≠ Jvm.RoadKit.slotOf Z "com/example/brickwork/brickwork/cli/CheckHistoryCommand$Verdict" "corrupt" "J" := slot_ne (C := "com/example/brickwork/brickwork/cli/CheckHistoryCommand$Verdict") (Or.inr (wd_24 hw)) (Or.inr (wd_28 hw)) (by decide) (t := .long) (t' := .long) (by decide) (by decide)
theorem sl_29 {Z : State} {a0 : Array Value} (hw : ∀ d ∈ tables_1, d.before a0 Z = true) : Jvm.RoadKit.slotOf Z "com/example/brickwork/brickwork/cli/CheckHistoryCommand$Verdict" "phantom" "J" ≠ Jvm.RoadKit.slotOf Z "com/example/brickwork/brickwork/cli/CheckHistoryCommand$Verdict" "corrupt" "J" := slot_ne (C := "com/example/brickwork/brickwork/cli/CheckHistoryCommand$Verdict") (Or.inr (wd_26 hw)) (Or.inr (wd_28 hw)) (by decide) (t := .long) (t' := .long) (by decide) (by decide)
theorem pn_1 : plainName "com/example/brickwork/brickwork/cli/CheckHistoryCommand$Verdict" = true := by first | (simp [plainName, overriddenIn]; done) | decide +kernel
theorem ef_rm1 (m : MethodId) (a1 : Addr) (q0 : Int64) (q1 : Int64) (q2 : Int64) (q3 : Int64) (q4 : Int64) (q5 : Int64) : entryFrame m #[(.ref a1), (.long q0), (.long q1), (.long q2), (.long q3), (.long q4), (.long q5)] 13 = mkF m 0 #[.val (.ref a1), .val (.long q0), .second, .val (.long q1), .second, .val (.long q2), .second, .val (.long q3), .second, .val (.long q4), .second, .val (.long q5), .second] [] := by first | (simp [entryFrame, mkF, argsToLocals, Value.category]; done) | rfl
def Q_rm1 (Z : State) (a1 : Addr) (q0 : Int64) (q1 : Int64) (q2 : Int64) (q3 : Int64) (q4 : Int64) (q5 : Int64) (u0 : Value) (u1 : Value) (u2 : Value) (u3 : Value) (u4 : Value) (u5 : Value) (h0 : Heap) (n0 : Nat) (v : Option Value) (h : Heap) (L : List Loc) : Prop := v = none ∧ Fr n0 L ∧ Keep h0 h [a1] ∧ Exa Z h a1 "com/example/brickwork/brickwork/cli/CheckHistoryCommand$Verdict" ∧ Fld Z h a1 "com/example/brickwork/brickwork/cli/CheckHistoryCommand$Verdict" "ops" "J" (.long q0) ∧ Fld Z h a1 "com/example/brickwork/brickwork/cli/CheckHistoryCommand$Verdict" "keys" "J" (.long q1) ∧ Fld Z h a1 "com/example/brickwork/brickwork/cli/CheckHistoryCommand$Verdict" "stale" "J" (.long q2) ∧ Fld Z h a1 "com/example/brickwork/brickwork/cli/CheckHistoryCommand$Verdict" "backwards" "J" (.long q3) ∧ Fld Z h a1 "com/example/brickwork/brickwork/cli/CheckHistoryCommand$Verdict" "phantom" "J" (.long q4) ∧ Fld Z h a1 "com/example/brickwork/brickwork/cli/CheckHistoryCommand$Verdict" "corrupt" "J" (.long q5)
set_option maxRecDepth 65536 in
set_option maxHeartbeats 40000000 in
theorem rm1 (l : Launch) (Z : State) (a0 : Array Value) (hw : ∀ d ∈ tables_1, d.before a0 Z = true) (ws : List Jvm.Cond) (a1 : Addr) (q0 : Int64) (q1 : Int64) (q2 : Int64) (q3 : Int64) (q4 : Int64) (q5 : Int64) (u0 : Value) (u1 : Value) (u2 : Value) (u3 : Value) (u4 : Value) (u5 : Value) (h0 : Heap) (n0 : Nat) (Z0 : n0 ≤ h0.size) (E_a1 : Exa Z h0 a1 "com/example/brickwork/brickwork/cli/CheckHistoryCommand$Verdict") (F_ops_a1 : Fld Z h0 a1 "com/example/brickwork/brickwork/cli/CheckHistoryCommand$Verdict" "ops" "J" u0) (F_keys_a1 : Fld Z h0 a1 "com/example/brickwork/brickwork/cli/CheckHistoryCommand$Verdict" "keys" "J" u1) (F_stale_a1 : Fld Z h0 a1 "com/example/brickwork/brickwork/cli/CheckHistoryCommand$Verdict" "stale" "J" u2) (F_backwards_a1 : Fld Z h0 a1 "com/example/brickwork/brickwork/cli/CheckHistoryCommand$Verdict" "backwards" "J" u3) (F_phantom_a1 : Fld Z h0 a1 "com/example/brickwork/brickwork/cli/CheckHistoryCommand$Verdict" "phantom" "J" u4) (F_corrupt_a1 : Fld Z h0 a1 "com/example/brickwork/brickwork/cli/CheckHistoryCommand$Verdict" "corrupt" "J" u5) (g_a1 : n0 ≤ a1) :
    MetFree l (⟨"com/example/brickwork/brickwork/cli/CheckHistoryCommand$Verdict", "<init>", "(JJJJJJ)V"⟩ : MethodName) (head1 (Jvm.Cond.code (⟨"com/example/brickwork/brickwork/cli/CheckHistoryCommand$Verdict", "<init>", "(JJJJJJ)V"⟩ : MethodName) prog_117_method_1_code 13 none :: ws) ({ frames := 2, cells := 0, slots := 0, locals := 24 } : Room)) (fun a U => a = #[(.ref a1), (.long q0), (.long q1), (.long q2), (.long q3), (.long q4), (.long q5)] ∧ Z.Warmed39 U.vm ∧ U.heap = h0) (fun _ _ _ _ _ => True) (fun _ U o U' => ∃ v L, o = .returned v ∧ Q_rm1 Z a1 q0 q1 q2 q3 q4 q5 u0 u1 u2 u3 u4 u5 h0 n0 v U'.heap L ∧ FrameEnd U o U' L ({ frames := 2, cells := 0, slots := 0, locals := 24 } : Room).cells ({ frames := 2, cells := 0, slots := 0, locals := 24 } : Room).slots) := by
  refine MetFree.of_bodySF (plainFor_of_name pn_1) hisR ?_
  intro p e s m args below meth c s₁ Bd hml0 hP hK
  obtain ⟨rfl, hZ, hh⟩ := hP
  have hx := Bd.exec
  have hby := Bd.bytes
  have hml : c.maxLocals = 13 := hml0
  have hown : s.vm.findClass "com/example/brickwork/brickwork/cli/CheckHistoryCommand$Verdict" = some m.cls := findClass_of_methodNamed Bd.named
  have hnm := (name_of_methodNamed Bd.named Bd.method).1
  have X0 : Stand p l e ({ frames := 2, cells := 0, slots := 0, locals := 24 } : Room) s m #[(.ref a1), (.long q0), (.long q1), (.long q2), (.long q3), (.long q4), (.long q5)] below meth c s₁ [] 0 0 := Stand.of_body Bd
  have e0 : s₁.heap = h0 := by rw [← hh, Bd.state]; rfl
  have N0 := Fr.nil n0
  have K0 : Keep h0 h0 [a1] := Keep.refl _ _
  suffices G0 : own_G p e below (own_E s below (Q_rm1 Z a1 q0 q1 q2 q3 q4 q5 u0 u1 u2 u3 u4 u5 h0 n0) ({ frames := 2, cells := 0, slots := 0, locals := 24 } : Room).cells ({ frames := 2, cells := 0, slots := 0, locals := 24 } : Room).slots) s₁ (mkF m 0 #[.val (.ref a1), .val (.long q0), .second, .val (.long q1), .second, .val (.long q2), .second, .val (.long q3), .second, .val (.long q4), .second, .val (.long q5), .second] []) by
    obtain ⟨zt, zst, zo, zq1, zq2, zq3⟩ := G0
    exact ⟨zt, zo, castTop (ef_rm1 m a1 q0 q1 q2 q3 q4 q5) zst, zq1, zq2, zq3⟩
  obtain ⟨Φ, hΦ⟩ : ∃ Φ, Φ = own_E s below (Q_rm1 Z a1 q0 q1 q2 q3 q4 q5 u0 u1 u2 u3 u4 u5 h0 n0) ({ frames := 2, cells := 0, slots := 0, locals := 24 } : Room).cells ({ frames := 2, cells := 0, slots := 0, locals := 24 } : Room).slots := ⟨_, rfl⟩
  rw [← hΦ]
  show own_G p e below Φ s₁ (mkF m 0 #[.val (.ref a1), .val (.long q0), .second, .val (.long q1), .second, .val (.long q2), .second, .val (.long q3), .second, .val (.long q4), .second, .val (.long q5), .second] [])
  refine own_go (fun _ => XS.aloadN X0.here hx rfl (hb hby d1_0) rfl rfl) ?_
  show own_G p e below Φ s₁ (mkF m 1 #[.val (.ref a1), .val (.long q0), .second, .val (.long q1), .second, .val (.long q2), .second, .val (.long q3), .second, .val (.long q4), .second, .val (.long q5), .second] [(.ref a1)])
  obtain ⟨_, _, ⟨T1, L1, k1, n1⟩, -, X1, ⟨Lc1, hQ1, l1, y1, z1⟩, st1⟩ := X0.specialBack hx (y := (⟨"java/lang/Record", "<init>", "()V"⟩ : MethodName)) rfl hown (mvT hZ (wd_9 hw)) (mvT hZ (wd_10 hw)) (mvT hZ (wd_13 hw)) (by decide) (backOf (W := 0) (rm2 l Z a0 hw [] a1 h0 n0 Z0 ) hZ (wd_13 hw) (wd_12 hw) (by decide) (by decide)) (g := (mkF m 1 #[.val (.ref a1), .val (.long q0), .second, .val (.long q1), .second, .val (.long q2), .second, .val (.long q3), .second, .val (.long q4), .second, .val (.long q5), .second] [(.ref a1)])) rfl (by rw [hml]; rfl) (Steps.refl _) (a := a1) (argsL := []) (rest := []) (lenOf pd_0 rfl) rfl (by show 2 * 0 + _ ≤ _; exact Nat.le_of_eq rfl) (hb hby d1_1) (fun _ _ => ⟨rfl, e0, (by decide : 0 + 0 ≤ _), (by decide : 0 + 0 ≤ _)⟩)
  dsimp only [Pt.U, Pt.locs, Pt.cells, Pt.slots] at X1 l1 y1 z1 st1 hQ1
  subst l1 y1 z1
  obtain ⟨rfl, N1q, hs1⟩ := hQ1
  have N1 := Fr.app N0 N1q
  refine own_on st1 ?_
  show own_G p e below Φ T1 (mkF m 4 #[.val (.ref a1), .val (.long q0), .second, .val (.long q1), .second, .val (.long q2), .second, .val (.long q3), .second, .val (.long q4), .second, .val (.long q5), .second] [])
  refine own_go (fun _ => XS.aloadN X1.here hx rfl (hb hby d1_4) rfl rfl) ?_
  show own_G p e below Φ T1 (mkF m 5 #[.val (.ref a1), .val (.long q0), .second, .val (.long q1), .second, .val (.long q2), .second, .val (.long q3), .second, .val (.long q4), .second, .val (.long q5), .second] [(.ref a1)])
  refine own_go (fun _ => XS.lloadN X1.here hx rfl (hb hby d1_5) rfl) ?_
  show own_G p e below Φ T1 (mkF m 6 #[.val (.ref a1), .val (.long q0), .second, .val (.long q1), .second, .val (.long q2), .second, .val (.long q3), .second, .val (.long q4), .second, .val (.long q5), .second] [(.long q0), (.ref a1)])
  obtain ⟨T2, h2, X2, e2, W2, st2⟩ := putF X1 hx hZ hown (host := "") (Or.inl (wd_17 hw)) Via.refl hs1 F_ops_a1 E_a1 (Or.inr ⟨(wd_18 hw), rfl, hnm⟩) (wd_4 hw) (ty := .long) (by decide) rfl rfl (g := (mkF m 6 #[.val (.ref a1), .val (.long q0), .second, .val (.long q1), .second, .val (.long q2), .second, .val (.long q3), .second, .val (.long q4), .second, .val (.long q5), .second] [(.long q0), (.ref a1)])) rfl rfl (hb hby d1_6)
  refine own_go st2 ?_
  have N2 := Fr.snoc X2 N1 g_a1
  have K2 := K0.wr W2 (Or.inl (List.mem_of_getElem? (i := 0) rfl))
  have Zp2 : n0 ≤ h2.size := Nat.le_trans Z0 (Keep.of_wr W2).1
  have f2w := F_ops_a1.same W2
  show own_G p e below Φ T2 (mkF m 9 #[.val (.ref a1), .val (.long q0), .second, .val (.long q1), .second, .val (.long q2), .second, .val (.long q3), .second, .val (.long q4), .second, .val (.long q5), .second] [])
  refine own_go (fun _ => XS.aloadN X2.here hx rfl (hb hby d1_9) rfl rfl) ?_
  show own_G p e below Φ T2 (mkF m 10 #[.val (.ref a1), .val (.long q0), .second, .val (.long q1), .second, .val (.long q2), .second, .val (.long q3), .second, .val (.long q4), .second, .val (.long q5), .second] [(.ref a1)])
  refine own_go (fun _ => XS.lloadN X2.here hx rfl (hb hby d1_10) rfl) ?_
  show own_G p e below Φ T2 (mkF m 11 #[.val (.ref a1), .val (.long q0), .second, .val (.long q1), .second, .val (.long q2), .second, .val (.long q3), .second, .val (.long q4), .second, .val (.long q5), .second] [(.long q1), (.ref a1)])
  have f3 : Exa Z h2 a1 "com/example/brickwork/brickwork/cli/CheckHistoryCommand$Verdict" := E_a1.wr W2
  have f4 : Fld Z h2 a1 "com/example/brickwork/brickwork/cli/CheckHistoryCommand$Verdict" "keys" "J" u1 := F_keys_a1.other W2 (Or.inr (sl_0 hw))
  obtain ⟨T5, h5, X5, e5, W5, st5⟩ := putF X2 hx hZ hown (host := "") (Or.inl (wd_19 hw)) Via.refl e2 f4 f3 (Or.inr ⟨(wd_20 hw), rfl, hnm⟩) (wd_4 hw) (ty := .long) (by decide) rfl rfl (g := (mkF m 11 #[.val (.ref a1), .val (.long q0), .second, .val (.long q1), .second, .val (.long q2), .second, .val (.long q3), .second, .val (.long q4), .second, .val (.long q5), .second] [(.long q1), (.ref a1)])) rfl rfl (hb hby d1_11)
  refine own_go st5 ?_
  have N5 := Fr.snoc X5 N2 g_a1
  have K5 := K2.wr W5 (Or.inl (List.mem_of_getElem? (i := 0) rfl))
  have Zp5 : n0 ≤ h5.size := Nat.le_trans Zp2 (Keep.of_wr W5).1
  have f5w := f4.same W5
  show own_G p e below Φ T5 (mkF m 14 #[.val (.ref a1), .val (.long q0), .second, .val (.long q1), .second, .val (.long q2), .second, .val (.long q3), .second, .val (.long q4), .second, .val (.long q5), .second] [])
  refine own_go (fun _ => XS.aloadN X5.here hx rfl (hb hby d1_14) rfl rfl) ?_
  show own_G p e below Φ T5 (mkF m 15 #[.val (.ref a1), .val (.long q0), .second, .val (.long q1), .second, .val (.long q2), .second, .val (.long q3), .second, .val (.long q4), .second, .val (.long q5), .second] [(.ref a1)])
  refine own_go (fun _ => XS.lload X5.here hx rfl (hb hby d1_15) rfl) ?_
  show own_G p e below Φ T5 (mkF m 17 #[.val (.ref a1), .val (.long q0), .second, .val (.long q1), .second, .val (.long q2), .second, .val (.long q3), .second, .val (.long q4), .second, .val (.long q5), .second] [(.long q2), (.ref a1)])
  have f6 : Exa Z h5 a1 "com/example/brickwork/brickwork/cli/CheckHistoryCommand$Verdict" := f3.wr W5
  have f7 : Fld Z h2 a1 "com/example/brickwork/brickwork/cli/CheckHistoryCommand$Verdict" "stale" "J" u2 := F_stale_a1.other W2 (Or.inr (sl_1 hw))
  have f8 : Fld Z h5 a1 "com/example/brickwork/brickwork/cli/CheckHistoryCommand$Verdict" "stale" "J" u2 := f7.other W5 (Or.inr (sl_2 hw))
  obtain ⟨T9, h9, X9, e9, W9, st9⟩ := putF X5 hx hZ hown (host := "") (Or.inl (wd_21 hw)) Via.refl e5 f8 f6 (Or.inr ⟨(wd_22 hw), rfl, hnm⟩) (wd_4 hw) (ty := .long) (by decide) rfl rfl (g := (mkF m 17 #[.val (.ref a1), .val (.long q0), .second, .val (.long q1), .second, .val (.long q2), .second, .val (.long q3), .second, .val (.long q4), .second, .val (.long q5), .second] [(.long q2), (.ref a1)])) rfl rfl (hb hby d1_17)
  refine own_go st9 ?_
  have N9 := Fr.snoc X9 N5 g_a1
  have K9 := K5.wr W9 (Or.inl (List.mem_of_getElem? (i := 0) rfl))
  have Zp9 : n0 ≤ h9.size := Nat.le_trans Zp5 (Keep.of_wr W9).1
  have f9w := f8.same W9
  show own_G p e below Φ T9 (mkF m 20 #[.val (.ref a1), .val (.long q0), .second, .val (.long q1), .second, .val (.long q2), .second, .val (.long q3), .second, .val (.long q4), .second, .val (.long q5), .second] [])
  refine own_go (fun _ => XS.aloadN X9.here hx rfl (hb hby d1_20) rfl rfl) ?_
  show own_G p e below Φ T9 (mkF m 21 #[.val (.ref a1), .val (.long q0), .second, .val (.long q1), .second, .val (.long q2), .second, .val (.long q3), .second, .val (.long q4), .second, .val (.long q5), .second] [(.ref a1)])
  refine own_go (fun _ => XS.lload X9.here hx rfl (hb hby d1_21) rfl) ?_
  show own_G p e below Φ T9 (mkF m 23 #[.val (.ref a1), .val (.long q0), .second, .val (.long q1), .second, .val (.long q2), .second, .val (.long q3), .second, .val (.long q4), .second, .val (.long q5), .second] [(.long q3), (.ref a1)])
  have f10 : Exa Z h9 a1 "com/example/brickwork/brickwork/cli/CheckHistoryCommand$Verdict" := f6.wr W9
  have f11 : Fld Z h2 a1 "com/example/brickwork/brickwork/cli/CheckHistoryCommand$Verdict" "backwards" "J" u3 := F_backwards_a1.other W2 (Or.inr (sl_3 hw))
  have f12 : Fld Z h5 a1 "com/example/brickwork/brickwork/cli/CheckHistoryCommand$Verdict" "backwards" "J" u3 := f11.other W5 (Or.inr (sl_4 hw))
  have f13 : Fld Z h9 a1 "com/example/brickwork/brickwork/cli/CheckHistoryCommand$Verdict" "backwards" "J" u3 := f12.other W9 (Or.inr (sl_5 hw))
  obtain ⟨T14, h14, X14, e14, W14, st14⟩ := putF X9 hx hZ hown (host := "") (Or.inl (wd_23 hw)) Via.refl e9 f13 f10 (Or.inr ⟨(wd_24 hw), rfl, hnm⟩) (wd_4 hw) (ty := .long) (by decide) rfl rfl (g := (mkF m 23 #[.val (.ref a1), .val (.long q0), .second, .val (.long q1), .second, .val (.long q2), .second, .val (.long q3), .second, .val (.long q4), .second, .val (.long q5), .second] [(.long q3), (.ref a1)])) rfl rfl (hb hby d1_23)
  refine own_go st14 ?_
  have N14 := Fr.snoc X14 N9 g_a1
  have K14 := K9.wr W14 (Or.inl (List.mem_of_getElem? (i := 0) rfl))
  have Zp14 : n0 ≤ h14.size := Nat.le_trans Zp9 (Keep.of_wr W14).1
  have f14w := f13.same W14
  show own_G p e below Φ T14 (mkF m 26 #[.val (.ref a1), .val (.long q0), .second, .val (.long q1), .second, .val (.long q2), .second, .val (.long q3), .second, .val (.long q4), .second, .val (.long q5), .second] [])
  refine own_go (fun _ => XS.aloadN X14.here hx rfl (hb hby d1_26) rfl rfl) ?_
  show own_G p e below Φ T14 (mkF m 27 #[.val (.ref a1), .val (.long q0), .second, .val (.long q1), .second, .val (.long q2), .second, .val (.long q3), .second, .val (.long q4), .second, .val (.long q5), .second] [(.ref a1)])
  refine own_go (fun _ => XS.lload X14.here hx rfl (hb hby d1_27) rfl) ?_
  show own_G p e below Φ T14 (mkF m 29 #[.val (.ref a1), .val (.long q0), .second, .val (.long q1), .second, .val (.long q2), .second, .val (.long q3), .second, .val (.long q4), .second, .val (.long q5), .second] [(.long q4), (.ref a1)])
  have f15 : Exa Z h14 a1 "com/example/brickwork/brickwork/cli/CheckHistoryCommand$Verdict" := f10.wr W14
  have f16 : Fld Z h2 a1 "com/example/brickwork/brickwork/cli/CheckHistoryCommand$Verdict" "phantom" "J" u4 := F_phantom_a1.other W2 (Or.inr (sl_6 hw))
  have f17 : Fld Z h5 a1 "com/example/brickwork/brickwork/cli/CheckHistoryCommand$Verdict" "phantom" "J" u4 := f16.other W5 (Or.inr (sl_7 hw))
  have f18 : Fld Z h9 a1 "com/example/brickwork/brickwork/cli/CheckHistoryCommand$Verdict" "phantom" "J" u4 := f17.other W9 (Or.inr (sl_8 hw))
  have f19 : Fld Z h14 a1 "com/example/brickwork/brickwork/cli/CheckHistoryCommand$Verdict" "phantom" "J" u4 := f18.other W14 (Or.inr (sl_9 hw))
  obtain ⟨T20, h20, X20, e20, W20, st20⟩ := putF X14 hx hZ hown (host := "") (Or.inl (wd_25 hw)) Via.refl e14 f19 f15 (Or.inr ⟨(wd_26 hw), rfl, hnm⟩) (wd_4 hw) (ty := .long) (by decide) rfl rfl (g := (mkF m 29 #[.val (.ref a1), .val (.long q0), .second, .val (.long q1), .second, .val (.long q2), .second, .val (.long q3), .second, .val (.long q4), .second, .val (.long q5), .second] [(.long q4), (.ref a1)])) rfl rfl (hb hby d1_29)
  refine own_go st20 ?_
  have N20 := Fr.snoc X20 N14 g_a1
  have K20 := K14.wr W20 (Or.inl (List.mem_of_getElem? (i := 0) rfl))
  have Zp20 : n0 ≤ h20.size := Nat.le_trans Zp14 (Keep.of_wr W20).1
  have f20w := f19.same W20
  show own_G p e below Φ T20 (mkF m 32 #[.val (.ref a1), .val (.long q0), .second, .val (.long q1), .second, .val (.long q2), .second, .val (.long q3), .second, .val (.long q4), .second, .val (.long q5), .second] [])
  refine own_go (fun _ => XS.aloadN X20.here hx rfl (hb hby d1_32) rfl rfl) ?_
  show own_G p e below Φ T20 (mkF m 33 #[.val (.ref a1), .val (.long q0), .second, .val (.long q1), .second, .val (.long q2), .second, .val (.long q3), .second, .val (.long q4), .second, .val (.long q5), .second] [(.ref a1)])
  refine own_go (fun _ => XS.lload X20.here hx rfl (hb hby d1_33) rfl) ?_
  show own_G p e below Φ T20 (mkF m 35 #[.val (.ref a1), .val (.long q0), .second, .val (.long q1), .second, .val (.long q2), .second, .val (.long q3), .second, .val (.long q4), .second, .val (.long q5), .second] [(.long q5), (.ref a1)])
  have f21 : Exa Z h20 a1 "com/example/brickwork/brickwork/cli/CheckHistoryCommand$Verdict" := f15.wr W20
  have f22 : Fld Z h2 a1 "com/example/brickwork/brickwork/cli/CheckHistoryCommand$Verdict" "corrupt" "J" u5 := F_corrupt_a1.other W2 (Or.inr (sl_10 hw))
  have f23 : Fld Z h5 a1 "com/example/brickwork/brickwork/cli/CheckHistoryCommand$Verdict" "corrupt" "J" u5 := f22.other W5 (Or.inr (sl_11 hw))
  have f24 : Fld Z h9 a1 "com/example/brickwork/brickwork/cli/CheckHistoryCommand$Verdict" "corrupt" "J" u5 := f23.other W9 (Or.inr (sl_12 hw))
  have f25 : Fld Z h14 a1 "com/example/brickwork/brickwork/cli/CheckHistoryCommand$Verdict" "corrupt" "J" u5 := f24.other W14 (Or.inr (sl_13 hw))
  have f26 : Fld Z h20 a1 "com/example/brickwork/brickwork/cli/CheckHistoryCommand$Verdict" "corrupt" "J" u5 := f25.other W20 (Or.inr (sl_14 hw))
  obtain ⟨T27, h27, X27, e27, W27, st27⟩ := putF X20 hx hZ hown (host := "") (Or.inl (wd_27 hw)) Via.refl e20 f26 f21 (Or.inr ⟨(wd_28 hw), rfl, hnm⟩) (wd_4 hw) (ty := .long) (by decide) rfl rfl (g := (mkF m 35 #[.val (.ref a1), .val (.long q0), .second, .val (.long q1), .second, .val (.long q2), .second, .val (.long q3), .second, .val (.long q4), .second, .val (.long q5), .second] [(.long q5), (.ref a1)])) rfl rfl (hb hby d1_35)
  refine own_go st27 ?_
  have N27 := Fr.snoc X27 N20 g_a1
  have K27 := K20.wr W27 (Or.inl (List.mem_of_getElem? (i := 0) rfl))
  have Zp27 : n0 ≤ h27.size := Nat.le_trans Zp20 (Keep.of_wr W27).1
  have f27w := f26.same W27
  show own_G p e below Φ T27 (mkF m 38 #[.val (.ref a1), .val (.long q0), .second, .val (.long q1), .second, .val (.long q2), .second, .val (.long q3), .second, .val (.long q4), .second, .val (.long q5), .second] [])
  have f28 : Exa Z h27 a1 "com/example/brickwork/brickwork/cli/CheckHistoryCommand$Verdict" := f21.wr W27
  have f29 : Fld Z h5 a1 "com/example/brickwork/brickwork/cli/CheckHistoryCommand$Verdict" "ops" "J" (.long q0) := f2w.other W5 (Or.inr (sl_15 hw))
  have f30 : Fld Z h9 a1 "com/example/brickwork/brickwork/cli/CheckHistoryCommand$Verdict" "ops" "J" (.long q0) := f29.other W9 (Or.inr (sl_16 hw))
  have f31 : Fld Z h14 a1 "com/example/brickwork/brickwork/cli/CheckHistoryCommand$Verdict" "ops" "J" (.long q0) := f30.other W14 (Or.inr (sl_17 hw))
  have f32 : Fld Z h20 a1 "com/example/brickwork/brickwork/cli/CheckHistoryCommand$Verdict" "ops" "J" (.long q0) := f31.other W20 (Or.inr (sl_18 hw))
  have f33 : Fld Z h27 a1 "com/example/brickwork/brickwork/cli/CheckHistoryCommand$Verdict" "ops" "J" (.long q0) := f32.other W27 (Or.inr (sl_19 hw))
  have f34 : Fld Z h9 a1 "com/example/brickwork/brickwork/cli/CheckHistoryCommand$Verdict" "keys" "J" (.long q1) := f5w.other W9 (Or.inr (sl_20 hw))
  have f35 : Fld Z h14 a1 "com/example/brickwork/brickwork/cli/CheckHistoryCommand$Verdict" "keys" "J" (.long q1) := f34.other W14 (Or.inr (sl_21 hw))
  have f36 : Fld Z h20 a1 "com/example/brickwork/brickwork/cli/CheckHistoryCommand$Verdict" "keys" "J" (.long q1) := f35.other W20 (Or.inr (sl_22 hw))
  have f37 : Fld Z h27 a1 "com/example/brickwork/brickwork/cli/CheckHistoryCommand$Verdict" "keys" "J" (.long q1) := f36.other W27 (Or.inr (sl_23 hw))
  have f38 : Fld Z h14 a1 "com/example/brickwork/brickwork/cli/CheckHistoryCommand$Verdict" "stale" "J" (.long q2) := f9w.other W14 (Or.inr (sl_24 hw))
  have f39 : Fld Z h20 a1 "com/example/brickwork/brickwork/cli/CheckHistoryCommand$Verdict" "stale" "J" (.long q2) := f38.other W20 (Or.inr (sl_25 hw))
  have f40 : Fld Z h27 a1 "com/example/brickwork/brickwork/cli/CheckHistoryCommand$Verdict" "stale" "J" (.long q2) := f39.other W27 (Or.inr (sl_26 hw))
  have f41 : Fld Z h20 a1 "com/example/brickwork/brickwork/cli/CheckHistoryCommand$Verdict" "backwards" "J" (.long q3) := f14w.other W20 (Or.inr (sl_27 hw))
  have f42 : Fld Z h27 a1 "com/example/brickwork/brickwork/cli/CheckHistoryCommand$Verdict" "backwards" "J" (.long q3) := f41.other W27 (Or.inr (sl_28 hw))
  have f43 : Fld Z h27 a1 "com/example/brickwork/brickwork/cli/CheckHistoryCommand$Verdict" "phantom" "J" (.long q4) := f20w.other W27 (Or.inr (sl_29 hw))
  rw [hΦ]
  refine own_ret X27 (v := none) (fun _ => rfl) (BodyLoose.notSynchronized Bd) (fun fs hr => X27.returnOut hx Bd.returns (hb hby d1_38) hr) ?_ (by decide) (by decide)
  rw [e27]
  exact ⟨rfl, N27, K27, f28, f33, f37, f40, f42, f43, f27w⟩
theorem d4_0 : decode prog_117_method_2_code 0 = .ok (.aload_n 0, 1) := by decide +kernel
theorem d4_1 : decode prog_117_method_2_code 1 = .ok (.getfield 16, 3) := by decide +kernel
theorem d4_4 : decode prog_117_method_2_code 4 = .ok (.lconst 0, 1) := by decide +kernel
theorem d4_5 : decode prog_117_method_2_code 5 = .ok (.lcmp, 1) := by decide +kernel
theorem d4_6 : decode prog_117_method_2_code 6 = .ok (.ifCond .ne 34, 3) := by decide +kernel
theorem d4_9 : decode prog_117_method_2_code 9 = .ok (.aload_n 0, 1) := by decide +kernel
theorem d4_10 : decode prog_117_method_2_code 10 = .ok (.getfield 19, 3) := by decide +kernel
theorem d4_13 : decode prog_117_method_2_code 13 = .ok (.lconst 0, 1) := by decide +kernel
theorem d4_14 : decode prog_117_method_2_code 14 = .ok (.lcmp, 1) := by decide +kernel
theorem d4_15 : decode prog_117_method_2_code 15 = .ok (.ifCond .ne 25, 3) := by decide +kernel
theorem d4_18 : decode prog_117_method_2_code 18 = .ok (.aload_n 0, 1) := by decide +kernel
theorem d4_19 : decode prog_117_method_2_code 19 = .ok (.getfield 22, 3) := by decide +kernel
theorem d4_22 : decode prog_117_method_2_code 22 = .ok (.lconst 0, 1) := by decide +kernel
theorem d4_23 : decode prog_117_method_2_code 23 = .ok (.lcmp, 1) := by decide +kernel
theorem d4_24 : decode prog_117_method_2_code 24 = .ok (.ifCond .ne 16, 3) := by decide +kernel
theorem d4_27 : decode prog_117_method_2_code 27 = .ok (.aload_n 0, 1) := by decide +kernel
theorem d4_28 : decode prog_117_method_2_code 28 = .ok (.getfield 25, 3) := by decide +kernel
theorem d4_31 : decode prog_117_method_2_code 31 = .ok (.lconst 0, 1) := by decide +kernel
theorem d4_32 : decode prog_117_method_2_code 32 = .ok (.lcmp, 1) := by decide +kernel
theorem d4_33 : decode prog_117_method_2_code 33 = .ok (.ifCond .ne 7, 3) := by decide +kernel
theorem d4_36 : decode prog_117_method_2_code 36 = .ok (.iconst 1, 1) := by decide +kernel
theorem d4_37 : decode prog_117_method_2_code 37 = .ok (.goto 4, 3) := by decide +kernel
theorem d4_41 : decode prog_117_method_2_code 41 = .ok (.ireturn, 1) := by decide +kernel
theorem d4_40 : decode prog_117_method_2_code 40 = .ok (.iconst 0, 1) := by decide +kernel
theorem ef_rm4 (m : MethodId) (a1 : Addr) : entryFrame m #[(.ref a1)] 1 = mkF m 0 #[.val (.ref a1)] [] := by first | (simp [entryFrame, mkF, argsToLocals, Value.category]; done) | rfl
def Q_rm4 (Z : State) (a1 : Addr) (q2 : Int64) (q3 : Int64) (q4 : Int64) (q5 : Int64) (h0 : Heap) (n0 : Nat) (v : Option Value) (h : Heap) (L : List Loc) : Prop := v = some (.int (own_sound q2 q3 q4 q5)) ∧ Fr n0 L ∧ h = h0
set_option maxRecDepth 65536 in
set_option maxHeartbeats 40000000 in
theorem rm4 (l : Launch) (Z : State) (a0 : Array Value) (hw : ∀ d ∈ tables_1, d.before a0 Z = true) (ws : List Jvm.Cond) (a1 : Addr) (q2 : Int64) (q3 : Int64) (q4 : Int64) (q5 : Int64) (h0 : Heap) (n0 : Nat) (Z0 : n0 ≤ h0.size) (F_stale_a1 : Fld Z h0 a1 "com/example/brickwork/brickwork/cli/CheckHistoryCommand$Verdict" "stale" "J" (.long q2)) (F_backwards_a1 : Fld Z h0 a1 "com/example/brickwork/brickwork/cli/CheckHistoryCommand$Verdict" "backwards" "J" (.long q3)) (F_phantom_a1 : Fld Z h0 a1 "com/example/brickwork/brickwork/cli/CheckHistoryCommand$Verdict" "phantom" "J" (.long q4)) (F_corrupt_a1 : Fld Z h0 a1 "com/example/brickwork/brickwork/cli/CheckHistoryCommand$Verdict" "corrupt" "J" (.long q5)) :
    MetFree l (⟨"com/example/brickwork/brickwork/cli/CheckHistoryCommand$Verdict", "sound", "()Z"⟩ : MethodName) (head1 (Jvm.Cond.code (⟨"com/example/brickwork/brickwork/cli/CheckHistoryCommand$Verdict", "sound", "()Z"⟩ : MethodName) prog_117_method_2_code 1 (some .boolean) :: ws) ({ frames := 0, cells := 0, slots := 0, locals := 0 } : Room)) (fun a U => a = #[(.ref a1)] ∧ Z.Warmed39 U.vm ∧ U.heap = h0) (fun _ _ _ _ _ => True) (fun _ U o U' => ∃ v L, o = .returned v ∧ Q_rm4 Z a1 q2 q3 q4 q5 h0 n0 v U'.heap L ∧ FrameEnd U o U' L ({ frames := 0, cells := 0, slots := 0, locals := 0 } : Room).cells ({ frames := 0, cells := 0, slots := 0, locals := 0 } : Room).slots) := by
  refine MetFree.of_bodySF (plainFor_of_name pn_1) hisR ?_
  intro p e s m args below meth c s₁ Bd hml0 hP hK
  obtain ⟨rfl, hZ, hh⟩ := hP
  have hx := Bd.exec
  have hby := Bd.bytes
  have hml : c.maxLocals = 1 := hml0
  have hown : s.vm.findClass "com/example/brickwork/brickwork/cli/CheckHistoryCommand$Verdict" = some m.cls := findClass_of_methodNamed Bd.named
  have hnm := (name_of_methodNamed Bd.named Bd.method).1
  have X0 : Stand p l e ({ frames := 0, cells := 0, slots := 0, locals := 0 } : Room) s m #[(.ref a1)] below meth c s₁ [] 0 0 := Stand.of_body Bd
  have e0 : s₁.heap = h0 := by rw [← hh, Bd.state]; rfl
  have N0 := Fr.nil n0
  suffices G0 : own_G p e below (own_E s below (Q_rm4 Z a1 q2 q3 q4 q5 h0 n0) ({ frames := 0, cells := 0, slots := 0, locals := 0 } : Room).cells ({ frames := 0, cells := 0, slots := 0, locals := 0 } : Room).slots) s₁ (mkF m 0 #[.val (.ref a1)] []) by
    obtain ⟨zt, zst, zo, zq1, zq2, zq3⟩ := G0
    exact ⟨zt, zo, castTop (ef_rm4 m a1) zst, zq1, zq2, zq3⟩
  obtain ⟨Φ, hΦ⟩ : ∃ Φ, Φ = own_E s below (Q_rm4 Z a1 q2 q3 q4 q5 h0 n0) ({ frames := 0, cells := 0, slots := 0, locals := 0 } : Room).cells ({ frames := 0, cells := 0, slots := 0, locals := 0 } : Room).slots := ⟨_, rfl⟩
  rw [← hΦ]
  show own_G p e below Φ s₁ (mkF m 0 #[.val (.ref a1)] [])
  refine own_go (fun _ => XS.aloadN X0.here hx rfl (hb hby d4_0) rfl rfl) ?_
  show own_G p e below Φ s₁ (mkF m 1 #[.val (.ref a1)] [(.ref a1)])
  obtain ⟨T1, X1, e1, st1⟩ := getF X0 hx hZ hown (host := "") (Or.inl (wd_21 hw)) Via.refl e0 F_stale_a1 (g := (mkF m 1 #[.val (.ref a1)] [(.ref a1)])) rfl rfl (hb hby d4_1)
  refine own_go st1 ?_
  show own_G p e below Φ T1 (mkF m 4 #[.val (.ref a1)] [(.long q2)])
  refine own_go (fun _ => XS.lconst X1.here hx rfl (hb hby d4_4)) ?_
  show own_G p e below Φ T1 (mkF m 5 #[.val (.ref a1)] [(.long (0 : Int64)), (.long q2)])
  refine own_go (fun _ => XS.lcmp X1.here hx rfl (hb hby d4_5) rfl) ?_
  show own_G p e below Φ T1 (mkF m 6 #[.val (.ref a1)] [(.int (lcmpW q2 (0 : Int64)))])
  by_cases hc6 : q2 = (0 : Int64)
  · refine own_go (fun _ => XS.ifNo X1.here hx rfl (hb hby d4_6) rfl (Jvm.Free.XT.ll_ne_f hc6)) ?_
    show own_G p e below Φ T1 (mkF m 9 #[.val (.ref a1)] [])
    refine own_go (fun _ => XS.aloadN X1.here hx rfl (hb hby d4_9) rfl rfl) ?_
    show own_G p e below Φ T1 (mkF m 10 #[.val (.ref a1)] [(.ref a1)])
    obtain ⟨T2, X2, e2, st2⟩ := getF X1 hx hZ hown (host := "") (Or.inl (wd_23 hw)) Via.refl e1 F_backwards_a1 (g := (mkF m 10 #[.val (.ref a1)] [(.ref a1)])) rfl rfl (hb hby d4_10)
    refine own_go st2 ?_
    show own_G p e below Φ T2 (mkF m 13 #[.val (.ref a1)] [(.long q3)])
    refine own_go (fun _ => XS.lconst X2.here hx rfl (hb hby d4_13)) ?_
    show own_G p e below Φ T2 (mkF m 14 #[.val (.ref a1)] [(.long (0 : Int64)), (.long q3)])
    refine own_go (fun _ => XS.lcmp X2.here hx rfl (hb hby d4_14) rfl) ?_
    show own_G p e below Φ T2 (mkF m 15 #[.val (.ref a1)] [(.int (lcmpW q3 (0 : Int64)))])
    by_cases hc15 : q3 = (0 : Int64)
    · refine own_go (fun _ => XS.ifNo X2.here hx rfl (hb hby d4_15) rfl (Jvm.Free.XT.ll_ne_f hc15)) ?_
      show own_G p e below Φ T2 (mkF m 18 #[.val (.ref a1)] [])
      refine own_go (fun _ => XS.aloadN X2.here hx rfl (hb hby d4_18) rfl rfl) ?_
      show own_G p e below Φ T2 (mkF m 19 #[.val (.ref a1)] [(.ref a1)])
      obtain ⟨T3, X3, e3, st3⟩ := getF X2 hx hZ hown (host := "") (Or.inl (wd_25 hw)) Via.refl e2 F_phantom_a1 (g := (mkF m 19 #[.val (.ref a1)] [(.ref a1)])) rfl rfl (hb hby d4_19)
      refine own_go st3 ?_
      show own_G p e below Φ T3 (mkF m 22 #[.val (.ref a1)] [(.long q4)])
      refine own_go (fun _ => XS.lconst X3.here hx rfl (hb hby d4_22)) ?_
      show own_G p e below Φ T3 (mkF m 23 #[.val (.ref a1)] [(.long (0 : Int64)), (.long q4)])
      refine own_go (fun _ => XS.lcmp X3.here hx rfl (hb hby d4_23) rfl) ?_
      show own_G p e below Φ T3 (mkF m 24 #[.val (.ref a1)] [(.int (lcmpW q4 (0 : Int64)))])
      by_cases hc24 : q4 = (0 : Int64)
      · refine own_go (fun _ => XS.ifNo X3.here hx rfl (hb hby d4_24) rfl (Jvm.Free.XT.ll_ne_f hc24)) ?_
        show own_G p e below Φ T3 (mkF m 27 #[.val (.ref a1)] [])
        refine own_go (fun _ => XS.aloadN X3.here hx rfl (hb hby d4_27) rfl rfl) ?_
        show own_G p e below Φ T3 (mkF m 28 #[.val (.ref a1)] [(.ref a1)])
        obtain ⟨T4, X4, e4, st4⟩ := getF X3 hx hZ hown (host := "") (Or.inl (wd_27 hw)) Via.refl e3 F_corrupt_a1 (g := (mkF m 28 #[.val (.ref a1)] [(.ref a1)])) rfl rfl (hb hby d4_28)
        refine own_go st4 ?_
        show own_G p e below Φ T4 (mkF m 31 #[.val (.ref a1)] [(.long q5)])
        refine own_go (fun _ => XS.lconst X4.here hx rfl (hb hby d4_31)) ?_
        show own_G p e below Φ T4 (mkF m 32 #[.val (.ref a1)] [(.long (0 : Int64)), (.long q5)])
        refine own_go (fun _ => XS.lcmp X4.here hx rfl (hb hby d4_32) rfl) ?_
        show own_G p e below Φ T4 (mkF m 33 #[.val (.ref a1)] [(.int (lcmpW q5 (0 : Int64)))])
        by_cases hc33 : q5 = (0 : Int64)
        · refine own_go (fun _ => XS.ifNo X4.here hx rfl (hb hby d4_33) rfl (Jvm.Free.XT.ll_ne_f hc33)) ?_
          show own_G p e below Φ T4 (mkF m 36 #[.val (.ref a1)] [])
          refine own_go (fun _ => XS.iconst X4.here hx rfl (hb hby d4_36)) ?_
          show own_G p e below Φ T4 (mkF m 37 #[.val (.ref a1)] [(.int (1 : Int32))])
          refine own_go (fun _ => XS.goto X4.here hx rfl (pc0 := 37) (pc' := 41) rfl (hb hby d4_37) (by decide) (by decide)) ?_
          show own_G p e below Φ T4 (mkF m 41 #[.val (.ref a1)] [(.int (1 : Int32))])
          rw [hΦ]
          refine own_ret X4 (v := some (.int (1 : Int32))) (fun h => by rw [Bd.returns] at h; cases h) (BodyLoose.notSynchronized Bd) (fun fs hr => retN X4 hx (t := .boolean) Bd.returns (by simp) (hb hby d4_41) hr) ?_ (by decide) (by decide)
          rw [e4]
          exact ⟨(by simp [own_sound, hc6, hc15, hc24, hc33]), N0, rfl⟩
        · refine own_go (fun _ => XS.ifYes X4.here hx rfl (pc0 := 33) (pc' := 40) rfl (hb hby d4_33) rfl (Jvm.Free.XT.ll_ne_t hc33) (by decide) (by decide)) ?_
          show own_G p e below Φ T4 (mkF m 40 #[.val (.ref a1)] [])
          refine own_go (fun _ => XS.iconst X4.here hx rfl (hb hby d4_40)) ?_
          show own_G p e below Φ T4 (mkF m 41 #[.val (.ref a1)] [(.int (0 : Int32))])
          rw [hΦ]
          refine own_ret X4 (v := some (.int (0 : Int32))) (fun h => by rw [Bd.returns] at h; cases h) (BodyLoose.notSynchronized Bd) (fun fs hr => retN X4 hx (t := .boolean) Bd.returns (by simp) (hb hby d4_41) hr) ?_ (by decide) (by decide)
          rw [e4]
          exact ⟨(by simp [own_sound, hc6, hc15, hc24, hc33]), N0, rfl⟩
      · refine own_go (fun _ => XS.ifYes X3.here hx rfl (pc0 := 24) (pc' := 40) rfl (hb hby d4_24) rfl (Jvm.Free.XT.ll_ne_t hc24) (by decide) (by decide)) ?_
        show own_G p e below Φ T3 (mkF m 40 #[.val (.ref a1)] [])
        refine own_go (fun _ => XS.iconst X3.here hx rfl (hb hby d4_40)) ?_
        show own_G p e below Φ T3 (mkF m 41 #[.val (.ref a1)] [(.int (0 : Int32))])
        rw [hΦ]
        refine own_ret X3 (v := some (.int (0 : Int32))) (fun h => by rw [Bd.returns] at h; cases h) (BodyLoose.notSynchronized Bd) (fun fs hr => retN X3 hx (t := .boolean) Bd.returns (by simp) (hb hby d4_41) hr) ?_ (by decide) (by decide)
        rw [e3]
        exact ⟨(by simp [own_sound, hc6, hc15, hc24]), N0, rfl⟩
    · refine own_go (fun _ => XS.ifYes X2.here hx rfl (pc0 := 15) (pc' := 40) rfl (hb hby d4_15) rfl (Jvm.Free.XT.ll_ne_t hc15) (by decide) (by decide)) ?_
      show own_G p e below Φ T2 (mkF m 40 #[.val (.ref a1)] [])
      refine own_go (fun _ => XS.iconst X2.here hx rfl (hb hby d4_40)) ?_
      show own_G p e below Φ T2 (mkF m 41 #[.val (.ref a1)] [(.int (0 : Int32))])
      rw [hΦ]
      refine own_ret X2 (v := some (.int (0 : Int32))) (fun h => by rw [Bd.returns] at h; cases h) (BodyLoose.notSynchronized Bd) (fun fs hr => retN X2 hx (t := .boolean) Bd.returns (by simp) (hb hby d4_41) hr) ?_ (by decide) (by decide)
      rw [e2]
      exact ⟨(by simp [own_sound, hc6, hc15]), N0, rfl⟩
  · refine own_go (fun _ => XS.ifYes X1.here hx rfl (pc0 := 6) (pc' := 40) rfl (hb hby d4_6) rfl (Jvm.Free.XT.ll_ne_t hc6) (by decide) (by decide)) ?_
    show own_G p e below Φ T1 (mkF m 40 #[.val (.ref a1)] [])
    refine own_go (fun _ => XS.iconst X1.here hx rfl (hb hby d4_40)) ?_
    show own_G p e below Φ T1 (mkF m 41 #[.val (.ref a1)] [(.int (0 : Int32))])
    rw [hΦ]
    refine own_ret X1 (v := some (.int (0 : Int32))) (fun h => by rw [Bd.returns] at h; cases h) (BodyLoose.notSynchronized Bd) (fun fs hr => retN X1 hx (t := .boolean) Bd.returns (by simp) (hb hby d4_41) hr) ?_ (by decide) (by decide)
    rw [e1]
    exact ⟨(by simp [own_sound, hc6]), N0, rfl⟩
theorem wd_0 {Z : State} {a0 : Array Value} (hw : ∀ d ∈ tables_1, d.before a0 Z = true) : ((Jvm.Cond.constantLong "com/example/brickwork/brickwork/cli/VerdictSoundPinLaw" (7 : Nat) (2 : Int64)) : Jvm.Cond).before a0 Z = true := hw _ (List.mem_of_getElem? (i := 0) rfl)
theorem wd_1 {Z : State} {a0 : Array Value} (hw : ∀ d ∈ tables_1, d.before a0 Z = true) : ((Jvm.Cond.constantLong "com/example/brickwork/brickwork/cli/VerdictSoundPinLaw" (9 : Nat) (4 : Int64)) : Jvm.Cond).before a0 Z = true := hw _ (List.mem_of_getElem? (i := 1) rfl)
theorem wd_2 {Z : State} {a0 : Array Value} (hw : ∀ d ∈ tables_1, d.before a0 Z = true) : ((Jvm.Cond.constantLong "com/example/brickwork/brickwork/cli/VerdictSoundPinLaw" (11 : Nat) (8 : Int64)) : Jvm.Cond).before a0 Z = true := hw _ (List.mem_of_getElem? (i := 2) rfl)
theorem wd_3 {Z : State} {a0 : Array Value} (hw : ∀ d ∈ tables_1, d.before a0 Z = true) : ((Jvm.Cond.classLink "com/example/brickwork/brickwork/cli/VerdictSoundPinLaw" (13 : Nat) "com/example/brickwork/brickwork/cli/CheckHistoryCommand$Verdict") : Jvm.Cond).before a0 Z = true := hw _ (List.mem_of_getElem? (i := 3) rfl)
theorem wd_5 {Z : State} {a0 : Array Value} (hw : ∀ d ∈ tables_1, d.before a0 Z = true) : ((Jvm.Cond.initialized "com/example/brickwork/brickwork/cli/CheckHistoryCommand$Verdict") : Jvm.Cond).before a0 Z = true := hw _ (List.mem_of_getElem? (i := 5) rfl)
theorem wd_6 {Z : State} {a0 : Array Value} (hw : ∀ d ∈ tables_1, d.before a0 Z = true) : ((Jvm.Cond.methodLink "com/example/brickwork/brickwork/cli/VerdictSoundPinLaw" (15 : Nat) ({ cls := "com/example/brickwork/brickwork/cli/CheckHistoryCommand$Verdict", name := "<init>", desc := "(JJJJJJ)V" } : Jvm.MethodName)) : Jvm.Cond).before a0 Z = true := hw _ (List.mem_of_getElem? (i := 6) rfl)
theorem wd_8 {Z : State} {a0 : Array Value} (hw : ∀ d ∈ tables_1, d.before a0 Z = true) : ((Jvm.Cond.code ({ cls := "com/example/brickwork/brickwork/cli/CheckHistoryCommand$Verdict", name := "<init>", desc := "(JJJJJJ)V" } : Jvm.MethodName) prog_117_method_1_code (13 : Nat) (Option.none : Option Jvm.ClassFile.FieldType)) : Jvm.Cond).before a0 Z = true := hw _ (List.mem_of_getElem? (i := 8) rfl)
theorem pd_1 : parseMethodDescriptor "(JJJJJJ)V" = some ⟨[.long, .long, .long, .long, .long, .long], none⟩ := by decide +kernel
theorem wd_7 {Z : State} {a0 : Array Value} (hw : ∀ d ∈ tables_1, d.before a0 Z = true) : ((Jvm.Cond.instanceMethod ({ cls := "com/example/brickwork/brickwork/cli/CheckHistoryCommand$Verdict", name := "<init>", desc := "(JJJJJJ)V" } : Jvm.MethodName)) : Jvm.Cond).before a0 Z = true := hw _ (List.mem_of_getElem? (i := 7) rfl)
theorem wd_29 {Z : State} {a0 : Array Value} (hw : ∀ d ∈ tables_1, d.before a0 Z = true) : ((Jvm.Cond.methodLink "com/example/brickwork/brickwork/cli/VerdictSoundPinLaw" (18 : Nat) ({ cls := "com/example/brickwork/brickwork/cli/CheckHistoryCommand$Verdict", name := "sound", desc := "()Z" } : Jvm.MethodName)) : Jvm.Cond).before a0 Z = true := hw _ (List.mem_of_getElem? (i := 29) rfl)
theorem wd_33 {Z : State} {a0 : Array Value} (hw : ∀ d ∈ tables_1, d.before a0 Z = true) : ((Jvm.Cond.code ({ cls := "com/example/brickwork/brickwork/cli/CheckHistoryCommand$Verdict", name := "sound", desc := "()Z" } : Jvm.MethodName) prog_117_method_2_code (1 : Nat) (Option.some Jvm.ClassFile.FieldType.boolean)) : Jvm.Cond).before a0 Z = true := hw _ (List.mem_of_getElem? (i := 33) rfl)
theorem pd_2 : parseMethodDescriptor "()Z" = some ⟨[], some .boolean⟩ := by decide +kernel
theorem wd_32 {Z : State} {a0 : Array Value} (hw : ∀ d ∈ tables_1, d.before a0 Z = true) : ((Jvm.Cond.selects "com/example/brickwork/brickwork/cli/CheckHistoryCommand$Verdict" ({ cls := "com/example/brickwork/brickwork/cli/CheckHistoryCommand$Verdict", name := "sound", desc := "()Z" } : Jvm.MethodName) ({ cls := "com/example/brickwork/brickwork/cli/CheckHistoryCommand$Verdict", name := "sound", desc := "()Z" } : Jvm.MethodName)) : Jvm.Cond).before a0 Z = true := hw _ (List.mem_of_getElem? (i := 32) rfl)
theorem wd_30 {Z : State} {a0 : Array Value} (hw : ∀ d ∈ tables_1, d.before a0 Z = true) : ((Jvm.Cond.declares ({ cls := "com/example/brickwork/brickwork/cli/CheckHistoryCommand$Verdict", name := "sound", desc := "()Z" } : Jvm.MethodName)) : Jvm.Cond).before a0 Z = true := hw _ (List.mem_of_getElem? (i := 30) rfl)
theorem wd_31 {Z : State} {a0 : Array Value} (hw : ∀ d ∈ tables_1, d.before a0 Z = true) : ((Jvm.Cond.instanceMethod ({ cls := "com/example/brickwork/brickwork/cli/CheckHistoryCommand$Verdict", name := "sound", desc := "()Z" } : Jvm.MethodName)) : Jvm.Cond).before a0 Z = true := hw _ (List.mem_of_getElem? (i := 31) rfl)
theorem pn_2 : plainName "com/example/brickwork/brickwork/cli/VerdictSoundPinLaw" = true := by first | (simp [plainName, overriddenIn]; done) | decide +kernel
theorem ef_rm0 (m : MethodId) (q0 : Int64) (q1 : Int64) (q2 : Int64) (q3 : Int64) (q4 : Int64) (q5 : Int64) : entryFrame m #[(.long q0), (.long q1), (.long q2), (.long q3), (.long q4), (.long q5)] maxLocals = mkF m 0 #[.val (.long q0), .second, .val (.long q1), .second, .val (.long q2), .second, .val (.long q3), .second, .val (.long q4), .second, .val (.long q5), .second, .unset, .unset, .unset, .unset, .unset, .unset, .unset, .unset, .unset, .unset] [] := by first | (simp [entryFrame, mkF, argsToLocals, Value.category, maxLocals]; done) | rfl
def Q_rm0 (Z : State) (q0 : Int64) (q1 : Int64) (q2 : Int64) (q3 : Int64) (q4 : Int64) (q5 : Int64) (h0 : Heap) (n0 : Nat) (v : Option Value) (h : Heap) (L : List Loc) : Prop := v = some (.int (1 : Int32)) ∧ Fr n0 L
set_option maxRecDepth 65536 in
set_option maxHeartbeats 40000000 in
theorem rm0 (l : Launch) (Z : State) (a0 : Array Value) (hw : ∀ d ∈ tables_1, d.before a0 Z = true) (ws : List Jvm.Cond) (q0 : Int64) (q1 : Int64) (q2 : Int64) (q3 : Int64) (q4 : Int64) (q5 : Int64) (h0 : Heap) (n0 : Nat) (Z0 : n0 ≤ h0.size)  :
    MetFree l x (head1 (Jvm.Cond.code x code maxLocals ret :: ws) room_1) (fun a U => a = #[(.long q0), (.long q1), (.long q2), (.long q3), (.long q4), (.long q5)] ∧ Z.Warmed39 U.vm ∧ U.heap = h0) (fun _ _ _ _ _ => True) (fun _ U o U' => ∃ v L, o = .returned v ∧ Q_rm0 Z q0 q1 q2 q3 q4 q5 h0 n0 v U'.heap L ∧ FrameEnd U o U' L room_1.cells room_1.slots) := by
  refine MetFree.of_bodySF (plainFor_of_name pn_2) hisR ?_
  intro p e s m args below meth c s₁ Bd hml0 hP hK
  obtain ⟨rfl, hZ, hh⟩ := hP
  have hx := Bd.exec
  have hby := Bd.bytes
  have hml : c.maxLocals = 22 := hml0
  have hown : s.vm.findClass "com/example/brickwork/brickwork/cli/VerdictSoundPinLaw" = some m.cls := findClass_of_methodNamed Bd.named
  have hnm := (name_of_methodNamed Bd.named Bd.method).1
  have X0 : Stand p l e room_1 s m #[(.long q0), (.long q1), (.long q2), (.long q3), (.long q4), (.long q5)] below meth c s₁ [] 0 0 := Stand.of_body Bd
  have e0 : s₁.heap = h0 := by rw [← hh, Bd.state]; rfl
  have N0 := Fr.nil n0
  suffices G0 : own_G p e below (own_E s below (Q_rm0 Z q0 q1 q2 q3 q4 q5 h0 n0) room_1.cells room_1.slots) s₁ (mkF m 0 #[.val (.long q0), .second, .val (.long q1), .second, .val (.long q2), .second, .val (.long q3), .second, .val (.long q4), .second, .val (.long q5), .second, .unset, .unset, .unset, .unset, .unset, .unset, .unset, .unset, .unset, .unset] []) by
    obtain ⟨zt, zst, zo, zq1, zq2, zq3⟩ := G0
    exact ⟨zt, zo, castTop (ef_rm0 m q0 q1 q2 q3 q4 q5) zst, zq1, zq2, zq3⟩
  obtain ⟨Φ, hΦ⟩ : ∃ Φ, Φ = own_E s below (Q_rm0 Z q0 q1 q2 q3 q4 q5 h0 n0) room_1.cells room_1.slots := ⟨_, rfl⟩
  rw [← hΦ]
  show own_G p e below Φ s₁ (mkF m 0 #[.val (.long q0), .second, .val (.long q1), .second, .val (.long q2), .second, .val (.long q3), .second, .val (.long q4), .second, .val (.long q5), .second, .unset, .unset, .unset, .unset, .unset, .unset, .unset, .unset, .unset, .unset] [])
  refine own_go (fun _ => XS.lloadN X0.here hx rfl (hb hby at_0) rfl) ?_
  show own_G p e below Φ s₁ (mkF m 1 #[.val (.long q0), .second, .val (.long q1), .second, .val (.long q2), .second, .val (.long q3), .second, .val (.long q4), .second, .val (.long q5), .second, .unset, .unset, .unset, .unset, .unset, .unset, .unset, .unset, .unset, .unset] [(.long q0)])
  refine own_go (fun _ => XS.lconst X0.here hx rfl (hb hby at_1)) ?_
  show own_G p e below Φ s₁ (mkF m 2 #[.val (.long q0), .second, .val (.long q1), .second, .val (.long q2), .second, .val (.long q3), .second, .val (.long q4), .second, .val (.long q5), .second, .unset, .unset, .unset, .unset, .unset, .unset, .unset, .unset, .unset, .unset] [(.long (1 : Int64)), (.long q0)])
  refine own_go (fun _ => XS.land X0.here hx rfl (hb hby at_2) rfl) ?_
  show own_G p e below Φ s₁ (mkF m 3 #[.val (.long q0), .second, .val (.long q1), .second, .val (.long q2), .second, .val (.long q3), .second, .val (.long q4), .second, .val (.long q5), .second, .unset, .unset, .unset, .unset, .unset, .unset, .unset, .unset, .unset, .unset] [(.long (q0 &&& (1 : Int64)))])
  refine own_go (fun _ => XS.lconst X0.here hx rfl (hb hby at_3)) ?_
  show own_G p e below Φ s₁ (mkF m 4 #[.val (.long q0), .second, .val (.long q1), .second, .val (.long q2), .second, .val (.long q3), .second, .val (.long q4), .second, .val (.long q5), .second, .unset, .unset, .unset, .unset, .unset, .unset, .unset, .unset, .unset, .unset] [(.long (0 : Int64)), (.long (q0 &&& (1 : Int64)))])
  refine own_go (fun _ => XS.lcmp X0.here hx rfl (hb hby at_4) rfl) ?_
  show own_G p e below Φ s₁ (mkF m 5 #[.val (.long q0), .second, .val (.long q1), .second, .val (.long q2), .second, .val (.long q3), .second, .val (.long q4), .second, .val (.long q5), .second, .unset, .unset, .unset, .unset, .unset, .unset, .unset, .unset, .unset, .unset] [(.int (lcmpW (q0 &&& (1 : Int64)) (0 : Int64)))])
  have hJ14_1 : ∀ (T' : State), own_Al X0 T' → T'.heap = h0 → ∀ (z12 : Int64), own_G p e below Φ T' (mkF m 14 #[.val (.long q0), .second, .val (.long q1), .second, .val (.long q2), .second, .val (.long q3), .second, .val (.long q4), .second, .val (.long q5), .second, .unset, .unset, .unset, .unset, .unset, .unset, .unset, .unset, .unset, .unset] [(.long z12)]) := by
    intro T1 X1' e1 z12
    have X1 : Stand _ _ _ _ _ _ _ _ _ _ T1 _ _ _ := X1'
    show own_G p e below Φ T1 (mkF m 14 #[.val (.long q0), .second, .val (.long q1), .second, .val (.long q2), .second, .val (.long q3), .second, .val (.long q4), .second, .val (.long q5), .second, .unset, .unset, .unset, .unset, .unset, .unset, .unset, .unset, .unset, .unset] [(.long z12)])
    refine own_go (fun _ => XS.lstore X1.here hx rfl (hb hby at_14) rfl (l' := #[.val (.long q0), .second, .val (.long q1), .second, .val (.long q2), .second, .val (.long q3), .second, .val (.long q4), .second, .val (.long q5), .second, .val (.long z12), .second, .unset, .unset, .unset, .unset, .unset, .unset, .unset, .unset]) rfl) ?_
    show own_G p e below Φ T1 (mkF m 16 #[.val (.long q0), .second, .val (.long q1), .second, .val (.long q2), .second, .val (.long q3), .second, .val (.long q4), .second, .val (.long q5), .second, .val (.long z12), .second, .unset, .unset, .unset, .unset, .unset, .unset, .unset, .unset] [])
    refine own_go (fun _ => XS.lloadN X1.here hx rfl (hb hby at_16) rfl) ?_
    show own_G p e below Φ T1 (mkF m 17 #[.val (.long q0), .second, .val (.long q1), .second, .val (.long q2), .second, .val (.long q3), .second, .val (.long q4), .second, .val (.long q5), .second, .val (.long z12), .second, .unset, .unset, .unset, .unset, .unset, .unset, .unset, .unset] [(.long q0)])
    refine own_go (fun _ => X1.ldc2Long hx hown (mvT hZ (wd_0 hw)) (g := (mkF m 17 #[.val (.long q0), .second, .val (.long q1), .second, .val (.long q2), .second, .val (.long q3), .second, .val (.long q4), .second, .val (.long q5), .second, .val (.long z12), .second, .unset, .unset, .unset, .unset, .unset, .unset, .unset, .unset] [(.long q0)])) rfl (hb hby at_17) _) ?_
    show own_G p e below Φ T1 (mkF m 20 #[.val (.long q0), .second, .val (.long q1), .second, .val (.long q2), .second, .val (.long q3), .second, .val (.long q4), .second, .val (.long q5), .second, .val (.long z12), .second, .unset, .unset, .unset, .unset, .unset, .unset, .unset, .unset] [(.long (2 : Int64)), (.long q0)])
    refine own_go (fun _ => XS.land X1.here hx rfl (hb hby at_20) rfl) ?_
    show own_G p e below Φ T1 (mkF m 21 #[.val (.long q0), .second, .val (.long q1), .second, .val (.long q2), .second, .val (.long q3), .second, .val (.long q4), .second, .val (.long q5), .second, .val (.long z12), .second, .unset, .unset, .unset, .unset, .unset, .unset, .unset, .unset] [(.long (q0 &&& (2 : Int64)))])
    refine own_go (fun _ => XS.lconst X1.here hx rfl (hb hby at_21)) ?_
    show own_G p e below Φ T1 (mkF m 22 #[.val (.long q0), .second, .val (.long q1), .second, .val (.long q2), .second, .val (.long q3), .second, .val (.long q4), .second, .val (.long q5), .second, .val (.long z12), .second, .unset, .unset, .unset, .unset, .unset, .unset, .unset, .unset] [(.long (0 : Int64)), (.long (q0 &&& (2 : Int64)))])
    refine own_go (fun _ => XS.lcmp X1.here hx rfl (hb hby at_22) rfl) ?_
    show own_G p e below Φ T1 (mkF m 23 #[.val (.long q0), .second, .val (.long q1), .second, .val (.long q2), .second, .val (.long q3), .second, .val (.long q4), .second, .val (.long q5), .second, .val (.long z12), .second, .unset, .unset, .unset, .unset, .unset, .unset, .unset, .unset] [(.int (lcmpW (q0 &&& (2 : Int64)) (0 : Int64)))])
    have hJ32_2 : ∀ (T' : State), own_Al X1 T' → T'.heap = h0 → ∀ (z14 : Int64), own_G p e below Φ T' (mkF m 32 #[.val (.long q0), .second, .val (.long q1), .second, .val (.long q2), .second, .val (.long q3), .second, .val (.long q4), .second, .val (.long q5), .second, .val (.long z12), .second, .unset, .unset, .unset, .unset, .unset, .unset, .unset, .unset] [(.long z14)]) := by
      intro T2 X2' e2 z14
      have X2 : Stand _ _ _ _ _ _ _ _ _ _ T2 _ _ _ := X2'
      show own_G p e below Φ T2 (mkF m 32 #[.val (.long q0), .second, .val (.long q1), .second, .val (.long q2), .second, .val (.long q3), .second, .val (.long q4), .second, .val (.long q5), .second, .val (.long z12), .second, .unset, .unset, .unset, .unset, .unset, .unset, .unset, .unset] [(.long z14)])
      refine own_go (fun _ => XS.lstore X2.here hx rfl (hb hby at_32) rfl (l' := #[.val (.long q0), .second, .val (.long q1), .second, .val (.long q2), .second, .val (.long q3), .second, .val (.long q4), .second, .val (.long q5), .second, .val (.long z12), .second, .val (.long z14), .second, .unset, .unset, .unset, .unset, .unset, .unset]) rfl) ?_
      show own_G p e below Φ T2 (mkF m 34 #[.val (.long q0), .second, .val (.long q1), .second, .val (.long q2), .second, .val (.long q3), .second, .val (.long q4), .second, .val (.long q5), .second, .val (.long z12), .second, .val (.long z14), .second, .unset, .unset, .unset, .unset, .unset, .unset] [])
      refine own_go (fun _ => XS.lloadN X2.here hx rfl (hb hby at_34) rfl) ?_
      show own_G p e below Φ T2 (mkF m 35 #[.val (.long q0), .second, .val (.long q1), .second, .val (.long q2), .second, .val (.long q3), .second, .val (.long q4), .second, .val (.long q5), .second, .val (.long z12), .second, .val (.long z14), .second, .unset, .unset, .unset, .unset, .unset, .unset] [(.long q0)])
      refine own_go (fun _ => X2.ldc2Long hx hown (mvT hZ (wd_1 hw)) (g := (mkF m 35 #[.val (.long q0), .second, .val (.long q1), .second, .val (.long q2), .second, .val (.long q3), .second, .val (.long q4), .second, .val (.long q5), .second, .val (.long z12), .second, .val (.long z14), .second, .unset, .unset, .unset, .unset, .unset, .unset] [(.long q0)])) rfl (hb hby at_35) _) ?_
      show own_G p e below Φ T2 (mkF m 38 #[.val (.long q0), .second, .val (.long q1), .second, .val (.long q2), .second, .val (.long q3), .second, .val (.long q4), .second, .val (.long q5), .second, .val (.long z12), .second, .val (.long z14), .second, .unset, .unset, .unset, .unset, .unset, .unset] [(.long (4 : Int64)), (.long q0)])
      refine own_go (fun _ => XS.land X2.here hx rfl (hb hby at_38) rfl) ?_
      show own_G p e below Φ T2 (mkF m 39 #[.val (.long q0), .second, .val (.long q1), .second, .val (.long q2), .second, .val (.long q3), .second, .val (.long q4), .second, .val (.long q5), .second, .val (.long z12), .second, .val (.long z14), .second, .unset, .unset, .unset, .unset, .unset, .unset] [(.long (q0 &&& (4 : Int64)))])
      refine own_go (fun _ => XS.lconst X2.here hx rfl (hb hby at_39)) ?_
      show own_G p e below Φ T2 (mkF m 40 #[.val (.long q0), .second, .val (.long q1), .second, .val (.long q2), .second, .val (.long q3), .second, .val (.long q4), .second, .val (.long q5), .second, .val (.long z12), .second, .val (.long z14), .second, .unset, .unset, .unset, .unset, .unset, .unset] [(.long (0 : Int64)), (.long (q0 &&& (4 : Int64)))])
      refine own_go (fun _ => XS.lcmp X2.here hx rfl (hb hby at_40) rfl) ?_
      show own_G p e below Φ T2 (mkF m 41 #[.val (.long q0), .second, .val (.long q1), .second, .val (.long q2), .second, .val (.long q3), .second, .val (.long q4), .second, .val (.long q5), .second, .val (.long z12), .second, .val (.long z14), .second, .unset, .unset, .unset, .unset, .unset, .unset] [(.int (lcmpW (q0 &&& (4 : Int64)) (0 : Int64)))])
      have hJ50_3 : ∀ (T' : State), own_Al X2 T' → T'.heap = h0 → ∀ (z16 : Int64), own_G p e below Φ T' (mkF m 50 #[.val (.long q0), .second, .val (.long q1), .second, .val (.long q2), .second, .val (.long q3), .second, .val (.long q4), .second, .val (.long q5), .second, .val (.long z12), .second, .val (.long z14), .second, .unset, .unset, .unset, .unset, .unset, .unset] [(.long z16)]) := by
        intro T3 X3' e3 z16
        have X3 : Stand _ _ _ _ _ _ _ _ _ _ T3 _ _ _ := X3'
        show own_G p e below Φ T3 (mkF m 50 #[.val (.long q0), .second, .val (.long q1), .second, .val (.long q2), .second, .val (.long q3), .second, .val (.long q4), .second, .val (.long q5), .second, .val (.long z12), .second, .val (.long z14), .second, .unset, .unset, .unset, .unset, .unset, .unset] [(.long z16)])
        refine own_go (fun _ => XS.lstore X3.here hx rfl (hb hby at_50) rfl (l' := #[.val (.long q0), .second, .val (.long q1), .second, .val (.long q2), .second, .val (.long q3), .second, .val (.long q4), .second, .val (.long q5), .second, .val (.long z12), .second, .val (.long z14), .second, .val (.long z16), .second, .unset, .unset, .unset, .unset]) rfl) ?_
        show own_G p e below Φ T3 (mkF m 52 #[.val (.long q0), .second, .val (.long q1), .second, .val (.long q2), .second, .val (.long q3), .second, .val (.long q4), .second, .val (.long q5), .second, .val (.long z12), .second, .val (.long z14), .second, .val (.long z16), .second, .unset, .unset, .unset, .unset] [])
        refine own_go (fun _ => XS.lloadN X3.here hx rfl (hb hby at_52) rfl) ?_
        show own_G p e below Φ T3 (mkF m 53 #[.val (.long q0), .second, .val (.long q1), .second, .val (.long q2), .second, .val (.long q3), .second, .val (.long q4), .second, .val (.long q5), .second, .val (.long z12), .second, .val (.long z14), .second, .val (.long z16), .second, .unset, .unset, .unset, .unset] [(.long q0)])
        refine own_go (fun _ => X3.ldc2Long hx hown (mvT hZ (wd_2 hw)) (g := (mkF m 53 #[.val (.long q0), .second, .val (.long q1), .second, .val (.long q2), .second, .val (.long q3), .second, .val (.long q4), .second, .val (.long q5), .second, .val (.long z12), .second, .val (.long z14), .second, .val (.long z16), .second, .unset, .unset, .unset, .unset] [(.long q0)])) rfl (hb hby at_53) _) ?_
        show own_G p e below Φ T3 (mkF m 56 #[.val (.long q0), .second, .val (.long q1), .second, .val (.long q2), .second, .val (.long q3), .second, .val (.long q4), .second, .val (.long q5), .second, .val (.long z12), .second, .val (.long z14), .second, .val (.long z16), .second, .unset, .unset, .unset, .unset] [(.long (8 : Int64)), (.long q0)])
        refine own_go (fun _ => XS.land X3.here hx rfl (hb hby at_56) rfl) ?_
        show own_G p e below Φ T3 (mkF m 57 #[.val (.long q0), .second, .val (.long q1), .second, .val (.long q2), .second, .val (.long q3), .second, .val (.long q4), .second, .val (.long q5), .second, .val (.long z12), .second, .val (.long z14), .second, .val (.long z16), .second, .unset, .unset, .unset, .unset] [(.long (q0 &&& (8 : Int64)))])
        refine own_go (fun _ => XS.lconst X3.here hx rfl (hb hby at_57)) ?_
        show own_G p e below Φ T3 (mkF m 58 #[.val (.long q0), .second, .val (.long q1), .second, .val (.long q2), .second, .val (.long q3), .second, .val (.long q4), .second, .val (.long q5), .second, .val (.long z12), .second, .val (.long z14), .second, .val (.long z16), .second, .unset, .unset, .unset, .unset] [(.long (0 : Int64)), (.long (q0 &&& (8 : Int64)))])
        refine own_go (fun _ => XS.lcmp X3.here hx rfl (hb hby at_58) rfl) ?_
        show own_G p e below Φ T3 (mkF m 59 #[.val (.long q0), .second, .val (.long q1), .second, .val (.long q2), .second, .val (.long q3), .second, .val (.long q4), .second, .val (.long q5), .second, .val (.long z12), .second, .val (.long z14), .second, .val (.long z16), .second, .unset, .unset, .unset, .unset] [(.int (lcmpW (q0 &&& (8 : Int64)) (0 : Int64)))])
        have hJ68_4 : ∀ (T' : State), own_Al X3 T' → T'.heap = h0 → ∀ (z18 : Int64), own_G p e below Φ T' (mkF m 68 #[.val (.long q0), .second, .val (.long q1), .second, .val (.long q2), .second, .val (.long q3), .second, .val (.long q4), .second, .val (.long q5), .second, .val (.long z12), .second, .val (.long z14), .second, .val (.long z16), .second, .unset, .unset, .unset, .unset] [(.long z18)]) := by
          intro T4 X4' e4 z18
          have X4 : Stand _ _ _ _ _ _ _ _ _ _ T4 _ _ _ := X4'
          show own_G p e below Φ T4 (mkF m 68 #[.val (.long q0), .second, .val (.long q1), .second, .val (.long q2), .second, .val (.long q3), .second, .val (.long q4), .second, .val (.long q5), .second, .val (.long z12), .second, .val (.long z14), .second, .val (.long z16), .second, .unset, .unset, .unset, .unset] [(.long z18)])
          refine own_go (fun _ => XS.lstore X4.here hx rfl (hb hby at_68) rfl (l' := #[.val (.long q0), .second, .val (.long q1), .second, .val (.long q2), .second, .val (.long q3), .second, .val (.long q4), .second, .val (.long q5), .second, .val (.long z12), .second, .val (.long z14), .second, .val (.long z16), .second, .val (.long z18), .second, .unset, .unset]) rfl) ?_
          show own_G p e below Φ T4 (mkF m 70 #[.val (.long q0), .second, .val (.long q1), .second, .val (.long q2), .second, .val (.long q3), .second, .val (.long q4), .second, .val (.long q5), .second, .val (.long z12), .second, .val (.long z14), .second, .val (.long z16), .second, .val (.long z18), .second, .unset, .unset] [])
          obtain ⟨T5, h5, X5, e5, E5, A5, D5, -, st5⟩ := newO X4 hx hZ hown (wd_3 hw) (wd_4 hw) (wd_5 hw) e4 (g := (mkF m 70 #[.val (.long q0), .second, .val (.long q1), .second, .val (.long q2), .second, .val (.long q3), .second, .val (.long q4), .second, .val (.long q5), .second, .val (.long z12), .second, .val (.long z14), .second, .val (.long z16), .second, .val (.long z18), .second, .unset, .unset] [])) rfl (hb hby at_70) (by decide) (by decide)
          obtain ⟨b5, g5⟩ : ∃ z, z = h0.size := ⟨_, rfl⟩
          rw [← g5] at A5 D5 st5
          have g_b5 : n0 ≤ b5 := Nat.le_trans Z0 (Nat.le_of_eq g5.symm)
          have Zp5 : n0 ≤ h5.size := Nat.le_trans Z0 E5.1
          refine own_go st5 ?_
          have F_ops_b5 : Fld Z h5 b5 "com/example/brickwork/brickwork/cli/CheckHistoryCommand$Verdict" "ops" "J" (.long (0 : Int64)) := D5 (Or.inr (wd_18 hw)) (ty := .long) (by decide)
          have F_keys_b5 : Fld Z h5 b5 "com/example/brickwork/brickwork/cli/CheckHistoryCommand$Verdict" "keys" "J" (.long (0 : Int64)) := D5 (Or.inr (wd_20 hw)) (ty := .long) (by decide)
          have F_stale_b5 : Fld Z h5 b5 "com/example/brickwork/brickwork/cli/CheckHistoryCommand$Verdict" "stale" "J" (.long (0 : Int64)) := D5 (Or.inr (wd_22 hw)) (ty := .long) (by decide)
          have F_backwards_b5 : Fld Z h5 b5 "com/example/brickwork/brickwork/cli/CheckHistoryCommand$Verdict" "backwards" "J" (.long (0 : Int64)) := D5 (Or.inr (wd_24 hw)) (ty := .long) (by decide)
          have F_phantom_b5 : Fld Z h5 b5 "com/example/brickwork/brickwork/cli/CheckHistoryCommand$Verdict" "phantom" "J" (.long (0 : Int64)) := D5 (Or.inr (wd_26 hw)) (ty := .long) (by decide)
          have F_corrupt_b5 : Fld Z h5 b5 "com/example/brickwork/brickwork/cli/CheckHistoryCommand$Verdict" "corrupt" "J" (.long (0 : Int64)) := D5 (Or.inr (wd_28 hw)) (ty := .long) (by decide)
          show own_G p e below Φ T5 (mkF m 73 #[.val (.long q0), .second, .val (.long q1), .second, .val (.long q2), .second, .val (.long q3), .second, .val (.long q4), .second, .val (.long q5), .second, .val (.long z12), .second, .val (.long z14), .second, .val (.long z16), .second, .val (.long z18), .second, .unset, .unset] [(.ref b5)])
          refine own_go (fun _ => XS.dup X5.here hx rfl (hb hby at_73) rfl rfl) ?_
          show own_G p e below Φ T5 (mkF m 74 #[.val (.long q0), .second, .val (.long q1), .second, .val (.long q2), .second, .val (.long q3), .second, .val (.long q4), .second, .val (.long q5), .second, .val (.long z12), .second, .val (.long z14), .second, .val (.long z16), .second, .val (.long z18), .second, .unset, .unset] [(.ref b5), (.ref b5)])
          refine own_go (fun _ => XS.lloadN X5.here hx rfl (hb hby at_74) rfl) ?_
          show own_G p e below Φ T5 (mkF m 75 #[.val (.long q0), .second, .val (.long q1), .second, .val (.long q2), .second, .val (.long q3), .second, .val (.long q4), .second, .val (.long q5), .second, .val (.long z12), .second, .val (.long z14), .second, .val (.long z16), .second, .val (.long z18), .second, .unset, .unset] [(.long q0), (.ref b5), (.ref b5)])
          refine own_go (fun _ => XS.lloadN X5.here hx rfl (hb hby at_75) rfl) ?_
          show own_G p e below Φ T5 (mkF m 76 #[.val (.long q0), .second, .val (.long q1), .second, .val (.long q2), .second, .val (.long q3), .second, .val (.long q4), .second, .val (.long q5), .second, .val (.long z12), .second, .val (.long z14), .second, .val (.long z16), .second, .val (.long z18), .second, .unset, .unset] [(.long q1), (.long q0), (.ref b5), (.ref b5)])
          refine own_go (fun _ => XS.lload X5.here hx rfl (hb hby at_76) rfl) ?_
          show own_G p e below Φ T5 (mkF m 78 #[.val (.long q0), .second, .val (.long q1), .second, .val (.long q2), .second, .val (.long q3), .second, .val (.long q4), .second, .val (.long q5), .second, .val (.long z12), .second, .val (.long z14), .second, .val (.long z16), .second, .val (.long z18), .second, .unset, .unset] [(.long z12), (.long q1), (.long q0), (.ref b5), (.ref b5)])
          refine own_go (fun _ => XS.lload X5.here hx rfl (hb hby at_78) rfl) ?_
          show own_G p e below Φ T5 (mkF m 80 #[.val (.long q0), .second, .val (.long q1), .second, .val (.long q2), .second, .val (.long q3), .second, .val (.long q4), .second, .val (.long q5), .second, .val (.long z12), .second, .val (.long z14), .second, .val (.long z16), .second, .val (.long z18), .second, .unset, .unset] [(.long z14), (.long z12), (.long q1), (.long q0), (.ref b5), (.ref b5)])
          refine own_go (fun _ => XS.lload X5.here hx rfl (hb hby at_80) rfl) ?_
          show own_G p e below Φ T5 (mkF m 82 #[.val (.long q0), .second, .val (.long q1), .second, .val (.long q2), .second, .val (.long q3), .second, .val (.long q4), .second, .val (.long q5), .second, .val (.long z12), .second, .val (.long z14), .second, .val (.long z16), .second, .val (.long z18), .second, .unset, .unset] [(.long z16), (.long z14), (.long z12), (.long q1), (.long q0), (.ref b5), (.ref b5)])
          refine own_go (fun _ => XS.lload X5.here hx rfl (hb hby at_82) rfl) ?_
          show own_G p e below Φ T5 (mkF m 84 #[.val (.long q0), .second, .val (.long q1), .second, .val (.long q2), .second, .val (.long q3), .second, .val (.long q4), .second, .val (.long q5), .second, .val (.long z12), .second, .val (.long z14), .second, .val (.long z16), .second, .val (.long z18), .second, .unset, .unset] [(.long z18), (.long z16), (.long z14), (.long z12), (.long q1), (.long q0), (.ref b5), (.ref b5)])
          obtain ⟨_, _, ⟨T6, L6, k6, n6⟩, -, X6, ⟨Lc6, hQ6, l6, y6, z6⟩, st6⟩ := X5.specialBack hx (y := (⟨"com/example/brickwork/brickwork/cli/CheckHistoryCommand$Verdict", "<init>", "(JJJJJJ)V"⟩ : MethodName)) rfl hown (mvT hZ (wd_6 hw)) (mvT hZ (wd_7 hw)) (mvT hZ (wd_8 hw)) (by decide) (backOf (W := 1) (rm1 l Z a0 hw [] b5 q0 q1 z12 z14 z16 z18 (.long (0 : Int64)) (.long (0 : Int64)) (.long (0 : Int64)) (.long (0 : Int64)) (.long (0 : Int64)) (.long (0 : Int64)) h5 n0 Zp5 A5 F_ops_b5 F_keys_b5 F_stale_b5 F_backwards_b5 F_phantom_b5 F_corrupt_b5 g_b5) hZ (wd_8 hw) (wd_5 hw) (by decide) (by decide)) (g := (mkF m 84 #[.val (.long q0), .second, .val (.long q1), .second, .val (.long q2), .second, .val (.long q3), .second, .val (.long q4), .second, .val (.long q5), .second, .val (.long z12), .second, .val (.long z14), .second, .val (.long z16), .second, .val (.long z18), .second, .unset, .unset] [(.long z18), (.long z16), (.long z14), (.long z12), (.long q1), (.long q0), (.ref b5), (.ref b5)])) rfl (by rw [hml]; rfl) (Steps.refl _) (a := b5) (argsL := [(.long q0), (.long q1), (.long z12), (.long z14), (.long z16), (.long z18)]) (rest := [(.ref b5)]) (lenOf pd_1 rfl) rfl (by show 2 * 0 + _ ≤ _; exact Nat.le_of_eq rfl) (hb hby at_84) (fun _ _ => ⟨rfl, e5, (by decide : 1 + 0 ≤ _), (by decide : 6 + 0 ≤ _)⟩)
          dsimp only [Pt.U, Pt.locs, Pt.cells, Pt.slots] at X6 l6 y6 z6 st6 hQ6
          subst l6 y6 z6
          obtain ⟨rfl, N6q, Kq6, p6_0, p6_1, p6_2, p6_3, p6_4, p6_5, p6_6⟩ := hQ6
          have N6 := Fr.app N0 N6q
          refine own_on st6 ?_
          have Zp6 : n0 ≤ T6.heap.size := Nat.le_trans Zp5 Kq6.1
          show own_G p e below Φ T6 (mkF m 87 #[.val (.long q0), .second, .val (.long q1), .second, .val (.long q2), .second, .val (.long q3), .second, .val (.long q4), .second, .val (.long q5), .second, .val (.long z12), .second, .val (.long z14), .second, .val (.long z16), .second, .val (.long z18), .second, .unset, .unset] [(.ref b5)])
          refine own_go (fun _ => XS.astore X6.here hx rfl (hb hby at_87) rfl rfl (l' := #[.val (.long q0), .second, .val (.long q1), .second, .val (.long q2), .second, .val (.long q3), .second, .val (.long q4), .second, .val (.long q5), .second, .val (.long z12), .second, .val (.long z14), .second, .val (.long z16), .second, .val (.long z18), .second, .val (.ref b5), .unset]) rfl) ?_
          show own_G p e below Φ T6 (mkF m 89 #[.val (.long q0), .second, .val (.long q1), .second, .val (.long q2), .second, .val (.long q3), .second, .val (.long q4), .second, .val (.long q5), .second, .val (.long z12), .second, .val (.long z14), .second, .val (.long z16), .second, .val (.long z18), .second, .val (.ref b5), .unset] [])
          refine own_go (fun _ => XS.lload X6.here hx rfl (hb hby at_89) rfl) ?_
          show own_G p e below Φ T6 (mkF m 91 #[.val (.long q0), .second, .val (.long q1), .second, .val (.long q2), .second, .val (.long q3), .second, .val (.long q4), .second, .val (.long q5), .second, .val (.long z12), .second, .val (.long z14), .second, .val (.long z16), .second, .val (.long z18), .second, .val (.ref b5), .unset] [(.long z12)])
          refine own_go (fun _ => XS.lload X6.here hx rfl (hb hby at_91) rfl) ?_
          show own_G p e below Φ T6 (mkF m 93 #[.val (.long q0), .second, .val (.long q1), .second, .val (.long q2), .second, .val (.long q3), .second, .val (.long q4), .second, .val (.long q5), .second, .val (.long z12), .second, .val (.long z14), .second, .val (.long z16), .second, .val (.long z18), .second, .val (.ref b5), .unset] [(.long z14), (.long z12)])
          refine own_go (fun _ => XS.lor X6.here hx rfl (hb hby at_93) rfl) ?_
          show own_G p e below Φ T6 (mkF m 94 #[.val (.long q0), .second, .val (.long q1), .second, .val (.long q2), .second, .val (.long q3), .second, .val (.long q4), .second, .val (.long q5), .second, .val (.long z12), .second, .val (.long z14), .second, .val (.long z16), .second, .val (.long z18), .second, .val (.ref b5), .unset] [(.long (z12 ||| z14))])
          refine own_go (fun _ => XS.lload X6.here hx rfl (hb hby at_94) rfl) ?_
          show own_G p e below Φ T6 (mkF m 96 #[.val (.long q0), .second, .val (.long q1), .second, .val (.long q2), .second, .val (.long q3), .second, .val (.long q4), .second, .val (.long q5), .second, .val (.long z12), .second, .val (.long z14), .second, .val (.long z16), .second, .val (.long z18), .second, .val (.ref b5), .unset] [(.long z16), (.long (z12 ||| z14))])
          refine own_go (fun _ => XS.lor X6.here hx rfl (hb hby at_96) rfl) ?_
          show own_G p e below Φ T6 (mkF m 97 #[.val (.long q0), .second, .val (.long q1), .second, .val (.long q2), .second, .val (.long q3), .second, .val (.long q4), .second, .val (.long q5), .second, .val (.long z12), .second, .val (.long z14), .second, .val (.long z16), .second, .val (.long z18), .second, .val (.ref b5), .unset] [(.long ((z12 ||| z14) ||| z16))])
          refine own_go (fun _ => XS.lload X6.here hx rfl (hb hby at_97) rfl) ?_
          show own_G p e below Φ T6 (mkF m 99 #[.val (.long q0), .second, .val (.long q1), .second, .val (.long q2), .second, .val (.long q3), .second, .val (.long q4), .second, .val (.long q5), .second, .val (.long z12), .second, .val (.long z14), .second, .val (.long z16), .second, .val (.long z18), .second, .val (.ref b5), .unset] [(.long z18), (.long ((z12 ||| z14) ||| z16))])
          refine own_go (fun _ => XS.lor X6.here hx rfl (hb hby at_99) rfl) ?_
          show own_G p e below Φ T6 (mkF m 100 #[.val (.long q0), .second, .val (.long q1), .second, .val (.long q2), .second, .val (.long q3), .second, .val (.long q4), .second, .val (.long q5), .second, .val (.long z12), .second, .val (.long z14), .second, .val (.long z16), .second, .val (.long z18), .second, .val (.ref b5), .unset] [(.long (((z12 ||| z14) ||| z16) ||| z18))])
          refine own_go (fun _ => XS.lconst X6.here hx rfl (hb hby at_100)) ?_
          show own_G p e below Φ T6 (mkF m 101 #[.val (.long q0), .second, .val (.long q1), .second, .val (.long q2), .second, .val (.long q3), .second, .val (.long q4), .second, .val (.long q5), .second, .val (.long z12), .second, .val (.long z14), .second, .val (.long z16), .second, .val (.long z18), .second, .val (.ref b5), .unset] [(.long (0 : Int64)), (.long (((z12 ||| z14) ||| z16) ||| z18))])
          refine own_go (fun _ => XS.lcmp X6.here hx rfl (hb hby at_101) rfl) ?_
          show own_G p e below Φ T6 (mkF m 102 #[.val (.long q0), .second, .val (.long q1), .second, .val (.long q2), .second, .val (.long q3), .second, .val (.long q4), .second, .val (.long q5), .second, .val (.long z12), .second, .val (.long z14), .second, .val (.long z16), .second, .val (.long z18), .second, .val (.ref b5), .unset] [(.int (lcmpW (((z12 ||| z14) ||| z16) ||| z18) (0 : Int64)))])
          have hJ110_7 : ∀ (T' : State), own_Al X6 T' → T'.heap = T6.heap → ∀ (z21 : Int32), (z21 = own_sound z12 z14 z16 z18) → own_G p e below Φ T' (mkF m 110 #[.val (.long q0), .second, .val (.long q1), .second, .val (.long q2), .second, .val (.long q3), .second, .val (.long q4), .second, .val (.long q5), .second, .val (.long z12), .second, .val (.long z14), .second, .val (.long z16), .second, .val (.long z18), .second, .val (.ref b5), .unset] [(.int z21)]) := by
            intro T7 X7' e7 z21 h_z21
            have X7 : Stand _ _ _ _ _ _ _ _ _ _ T7 _ _ _ := X7'
            show own_G p e below Φ T7 (mkF m 110 #[.val (.long q0), .second, .val (.long q1), .second, .val (.long q2), .second, .val (.long q3), .second, .val (.long q4), .second, .val (.long q5), .second, .val (.long z12), .second, .val (.long z14), .second, .val (.long z16), .second, .val (.long z18), .second, .val (.ref b5), .unset] [(.int z21)])
            refine own_go (fun _ => XS.istore X7.here hx rfl (hb hby at_110) rfl (l' := #[.val (.long q0), .second, .val (.long q1), .second, .val (.long q2), .second, .val (.long q3), .second, .val (.long q4), .second, .val (.long q5), .second, .val (.long z12), .second, .val (.long z14), .second, .val (.long z16), .second, .val (.long z18), .second, .val (.ref b5), .val (.int z21)]) rfl) ?_
            show own_G p e below Φ T7 (mkF m 112 #[.val (.long q0), .second, .val (.long q1), .second, .val (.long q2), .second, .val (.long q3), .second, .val (.long q4), .second, .val (.long q5), .second, .val (.long z12), .second, .val (.long z14), .second, .val (.long z16), .second, .val (.long z18), .second, .val (.ref b5), .val (.int z21)] [])
            refine own_go (fun _ => XS.aload X7.here hx rfl (hb hby at_112) rfl rfl) ?_
            show own_G p e below Φ T7 (mkF m 114 #[.val (.long q0), .second, .val (.long q1), .second, .val (.long q2), .second, .val (.long q3), .second, .val (.long q4), .second, .val (.long q5), .second, .val (.long z12), .second, .val (.long z14), .second, .val (.long z16), .second, .val (.long z18), .second, .val (.ref b5), .val (.int z21)] [(.ref b5)])
            obtain ⟨cq8, kq8, q8a, q8b, q8c⟩ := isOf hZ e7 p6_0
            obtain ⟨_, _, ⟨T8, L8, k8, n8⟩, -, X8, ⟨Lc8, hQ8, l8, y8, z8⟩, st8⟩ := X7.virtualBack hx (y := (⟨"com/example/brickwork/brickwork/cli/CheckHistoryCommand$Verdict", "sound", "()Z"⟩ : MethodName)) (z := (⟨"com/example/brickwork/brickwork/cli/CheckHistoryCommand$Verdict", "sound", "()Z"⟩ : MethodName)) hown (mvT hZ (wd_29 hw)) (mvT hZ (wd_30 hw)) (notFace_of_selects (args := #[]) (mvT hZ (wd_32 hw))) (mvT hZ (wd_32 hw)) (mvT hZ (wd_31 hw)) (by decide) (backOf (W := 0) (rm4 l Z a0 hw [] b5 z12 z14 z16 z18 T6.heap n0 Zp6 p6_3 p6_4 p6_5 p6_6) hZ (wd_33 hw) (wd_5 hw) (by decide) (by decide)) q8a q8c (g := (mkF m 114 #[.val (.long q0), .second, .val (.long q1), .second, .val (.long q2), .second, .val (.long q3), .second, .val (.long q4), .second, .val (.long q5), .second, .val (.long z12), .second, .val (.long z14), .second, .val (.long z16), .second, .val (.long z18), .second, .val (.ref b5), .val (.int z21)] [(.ref b5)])) rfl (by rw [hml]; rfl) (Steps.refl _) (argsL := []) (rest := []) (lenOf pd_2 rfl) rfl (by show 2 * 0 + _ ≤ _; exact Nat.le_of_eq rfl) (hb hby at_114) (fun _ _ => ⟨rfl, e7, (by decide : 1 + 0 ≤ _), (by decide : 6 + 0 ≤ _)⟩)
            dsimp only [Pt.U, Pt.locs, Pt.cells, Pt.slots] at X8 l8 y8 z8 st8 hQ8
            subst l8 y8 z8
            obtain ⟨rfl, N8q, hs8⟩ := hQ8
            have N8 := Fr.app N6 N8q
            refine own_on st8 ?_
            show own_G p e below Φ T8 (mkF m 117 #[.val (.long q0), .second, .val (.long q1), .second, .val (.long q2), .second, .val (.long q3), .second, .val (.long q4), .second, .val (.long q5), .second, .val (.long z12), .second, .val (.long z14), .second, .val (.long z16), .second, .val (.long z18), .second, .val (.ref b5), .val (.int z21)] [(.int (own_sound z12 z14 z16 z18))])
            refine own_go (fun _ => XS.iload X8.here hx rfl (hb hby at_117) rfl) ?_
            show own_G p e below Φ T8 (mkF m 119 #[.val (.long q0), .second, .val (.long q1), .second, .val (.long q2), .second, .val (.long q3), .second, .val (.long q4), .second, .val (.long q5), .second, .val (.long z12), .second, .val (.long z14), .second, .val (.long z16), .second, .val (.long z18), .second, .val (.ref b5), .val (.int z21)] [(.int z21), (.int (own_sound z12 z14 z16 z18))])
            refine own_go (fun _ => XS.icmpNo X8.here hx rfl (hb hby at_119) rfl (Jvm.Free.XT.ii_ne_f h_z21.symm)) ?_
            show own_G p e below Φ T8 (mkF m 122 #[.val (.long q0), .second, .val (.long q1), .second, .val (.long q2), .second, .val (.long q3), .second, .val (.long q4), .second, .val (.long q5), .second, .val (.long z12), .second, .val (.long z14), .second, .val (.long z16), .second, .val (.long z18), .second, .val (.ref b5), .val (.int z21)] [])
            refine own_go (fun _ => XS.iconst X8.here hx rfl (hb hby at_122)) ?_
            show own_G p e below Φ T8 (mkF m 123 #[.val (.long q0), .second, .val (.long q1), .second, .val (.long q2), .second, .val (.long q3), .second, .val (.long q4), .second, .val (.long q5), .second, .val (.long z12), .second, .val (.long z14), .second, .val (.long z16), .second, .val (.long z18), .second, .val (.ref b5), .val (.int z21)] [(.int (1 : Int32))])
            refine own_go (fun _ => XS.goto X8.here hx rfl (pc0 := 123) (pc' := 127) rfl (hb hby at_123) (by decide) (by decide)) ?_
            show own_G p e below Φ T8 (mkF m 127 #[.val (.long q0), .second, .val (.long q1), .second, .val (.long q2), .second, .val (.long q3), .second, .val (.long q4), .second, .val (.long q5), .second, .val (.long z12), .second, .val (.long z14), .second, .val (.long z16), .second, .val (.long z18), .second, .val (.ref b5), .val (.int z21)] [(.int (1 : Int32))])
            rw [hΦ]
            refine own_ret X8 (v := some (.int (1 : Int32))) (fun h => by rw [Bd.returns] at h; cases h) (BodyLoose.notSynchronized Bd) (fun fs hr => retN X8 hx (t := .boolean) Bd.returns (by simp) (hb hby at_127) hr) ?_ (by decide) (by decide)
            rw [hs8]
            exact ⟨rfl, N8⟩
          by_cases hc102 : (((z12 ||| z14) ||| z16) ||| z18) = (0 : Int64)
          · refine own_go (fun _ => XS.ifNo X6.here hx rfl (hb hby at_102) rfl (Jvm.Free.XT.ll_ne_f hc102)) ?_
            show own_G p e below Φ T6 (mkF m 105 #[.val (.long q0), .second, .val (.long q1), .second, .val (.long q2), .second, .val (.long q3), .second, .val (.long q4), .second, .val (.long q5), .second, .val (.long z12), .second, .val (.long z14), .second, .val (.long z16), .second, .val (.long z18), .second, .val (.ref b5), .unset] [])
            refine own_go (fun _ => XS.iconst X6.here hx rfl (hb hby at_105)) ?_
            show own_G p e below Φ T6 (mkF m 106 #[.val (.long q0), .second, .val (.long q1), .second, .val (.long q2), .second, .val (.long q3), .second, .val (.long q4), .second, .val (.long q5), .second, .val (.long z12), .second, .val (.long z14), .second, .val (.long z16), .second, .val (.long z18), .second, .val (.ref b5), .unset] [(.int (1 : Int32))])
            refine own_go (fun _ => XS.goto X6.here hx rfl (pc0 := 106) (pc' := 110) rfl (hb hby at_106) (by decide) (by decide)) ?_
            exact hJ110_7 _ X6 rfl _ (by rw [own_or4] at hc102; simp [own_sound, hc102])
          · refine own_go (fun _ => XS.ifYes X6.here hx rfl (pc0 := 102) (pc' := 109) rfl (hb hby at_102) rfl (Jvm.Free.XT.ll_ne_t hc102) (by decide) (by decide)) ?_
            show own_G p e below Φ T6 (mkF m 109 #[.val (.long q0), .second, .val (.long q1), .second, .val (.long q2), .second, .val (.long q3), .second, .val (.long q4), .second, .val (.long q5), .second, .val (.long z12), .second, .val (.long z14), .second, .val (.long z16), .second, .val (.long z18), .second, .val (.ref b5), .unset] [])
            refine own_go (fun _ => XS.iconst X6.here hx rfl (hb hby at_109)) ?_
            exact hJ110_7 _ X6 rfl _ (by rw [own_or4] at hc102; simp [own_sound, hc102])
        by_cases hc59 : (q0 &&& (8 : Int64)) = (0 : Int64)
        · refine own_go (fun _ => XS.ifYes X3.here hx rfl (pc0 := 59) (pc' := 66) rfl (hb hby at_59) rfl (Jvm.Free.XT.ll_eq_t hc59) (by decide) (by decide)) ?_
          show own_G p e below Φ T3 (mkF m 66 #[.val (.long q0), .second, .val (.long q1), .second, .val (.long q2), .second, .val (.long q3), .second, .val (.long q4), .second, .val (.long q5), .second, .val (.long z12), .second, .val (.long z14), .second, .val (.long z16), .second, .unset, .unset, .unset, .unset] [])
          refine own_go (fun _ => XS.lload X3.here hx rfl (hb hby at_66) rfl) ?_
          exact hJ68_4 _ X3 e3 _ 
        · refine own_go (fun _ => XS.ifNo X3.here hx rfl (hb hby at_59) rfl (Jvm.Free.XT.ll_eq_f hc59)) ?_
          show own_G p e below Φ T3 (mkF m 62 #[.val (.long q0), .second, .val (.long q1), .second, .val (.long q2), .second, .val (.long q3), .second, .val (.long q4), .second, .val (.long q5), .second, .val (.long z12), .second, .val (.long z14), .second, .val (.long z16), .second, .unset, .unset, .unset, .unset] [])
          refine own_go (fun _ => XS.lconst X3.here hx rfl (hb hby at_62)) ?_
          show own_G p e below Φ T3 (mkF m 63 #[.val (.long q0), .second, .val (.long q1), .second, .val (.long q2), .second, .val (.long q3), .second, .val (.long q4), .second, .val (.long q5), .second, .val (.long z12), .second, .val (.long z14), .second, .val (.long z16), .second, .unset, .unset, .unset, .unset] [(.long (0 : Int64))])
          refine own_go (fun _ => XS.goto X3.here hx rfl (pc0 := 63) (pc' := 68) rfl (hb hby at_63) (by decide) (by decide)) ?_
          exact hJ68_4 _ X3 e3 _ 
      by_cases hc41 : (q0 &&& (4 : Int64)) = (0 : Int64)
      · refine own_go (fun _ => XS.ifYes X2.here hx rfl (pc0 := 41) (pc' := 48) rfl (hb hby at_41) rfl (Jvm.Free.XT.ll_eq_t hc41) (by decide) (by decide)) ?_
        show own_G p e below Φ T2 (mkF m 48 #[.val (.long q0), .second, .val (.long q1), .second, .val (.long q2), .second, .val (.long q3), .second, .val (.long q4), .second, .val (.long q5), .second, .val (.long z12), .second, .val (.long z14), .second, .unset, .unset, .unset, .unset, .unset, .unset] [])
        refine own_go (fun _ => XS.lload X2.here hx rfl (hb hby at_48) rfl) ?_
        exact hJ50_3 _ X2 e2 _ 
      · refine own_go (fun _ => XS.ifNo X2.here hx rfl (hb hby at_41) rfl (Jvm.Free.XT.ll_eq_f hc41)) ?_
        show own_G p e below Φ T2 (mkF m 44 #[.val (.long q0), .second, .val (.long q1), .second, .val (.long q2), .second, .val (.long q3), .second, .val (.long q4), .second, .val (.long q5), .second, .val (.long z12), .second, .val (.long z14), .second, .unset, .unset, .unset, .unset, .unset, .unset] [])
        refine own_go (fun _ => XS.lconst X2.here hx rfl (hb hby at_44)) ?_
        show own_G p e below Φ T2 (mkF m 45 #[.val (.long q0), .second, .val (.long q1), .second, .val (.long q2), .second, .val (.long q3), .second, .val (.long q4), .second, .val (.long q5), .second, .val (.long z12), .second, .val (.long z14), .second, .unset, .unset, .unset, .unset, .unset, .unset] [(.long (0 : Int64))])
        refine own_go (fun _ => XS.goto X2.here hx rfl (pc0 := 45) (pc' := 50) rfl (hb hby at_45) (by decide) (by decide)) ?_
        exact hJ50_3 _ X2 e2 _ 
    by_cases hc23 : (q0 &&& (2 : Int64)) = (0 : Int64)
    · refine own_go (fun _ => XS.ifYes X1.here hx rfl (pc0 := 23) (pc' := 30) rfl (hb hby at_23) rfl (Jvm.Free.XT.ll_eq_t hc23) (by decide) (by decide)) ?_
      show own_G p e below Φ T1 (mkF m 30 #[.val (.long q0), .second, .val (.long q1), .second, .val (.long q2), .second, .val (.long q3), .second, .val (.long q4), .second, .val (.long q5), .second, .val (.long z12), .second, .unset, .unset, .unset, .unset, .unset, .unset, .unset, .unset] [])
      refine own_go (fun _ => XS.lload X1.here hx rfl (hb hby at_30) rfl) ?_
      exact hJ32_2 _ X1 e1 _ 
    · refine own_go (fun _ => XS.ifNo X1.here hx rfl (hb hby at_23) rfl (Jvm.Free.XT.ll_eq_f hc23)) ?_
      show own_G p e below Φ T1 (mkF m 26 #[.val (.long q0), .second, .val (.long q1), .second, .val (.long q2), .second, .val (.long q3), .second, .val (.long q4), .second, .val (.long q5), .second, .val (.long z12), .second, .unset, .unset, .unset, .unset, .unset, .unset, .unset, .unset] [])
      refine own_go (fun _ => XS.lconst X1.here hx rfl (hb hby at_26)) ?_
      show own_G p e below Φ T1 (mkF m 27 #[.val (.long q0), .second, .val (.long q1), .second, .val (.long q2), .second, .val (.long q3), .second, .val (.long q4), .second, .val (.long q5), .second, .val (.long z12), .second, .unset, .unset, .unset, .unset, .unset, .unset, .unset, .unset] [(.long (0 : Int64))])
      refine own_go (fun _ => XS.goto X1.here hx rfl (pc0 := 27) (pc' := 32) rfl (hb hby at_27) (by decide) (by decide)) ?_
      exact hJ32_2 _ X1 e1 _ 
  by_cases hc5 : (q0 &&& (1 : Int64)) = (0 : Int64)
  · refine own_go (fun _ => XS.ifYes X0.here hx rfl (pc0 := 5) (pc' := 12) rfl (hb hby at_5) rfl (Jvm.Free.XT.ll_eq_t hc5) (by decide) (by decide)) ?_
    show own_G p e below Φ s₁ (mkF m 12 #[.val (.long q0), .second, .val (.long q1), .second, .val (.long q2), .second, .val (.long q3), .second, .val (.long q4), .second, .val (.long q5), .second, .unset, .unset, .unset, .unset, .unset, .unset, .unset, .unset, .unset, .unset] [])
    refine own_go (fun _ => XS.lload X0.here hx rfl (hb hby at_12) rfl) ?_
    exact hJ14_1 _ X0 e0 _ 
  · refine own_go (fun _ => XS.ifNo X0.here hx rfl (hb hby at_5) rfl (Jvm.Free.XT.ll_eq_f hc5)) ?_
    show own_G p e below Φ s₁ (mkF m 8 #[.val (.long q0), .second, .val (.long q1), .second, .val (.long q2), .second, .val (.long q3), .second, .val (.long q4), .second, .val (.long q5), .second, .unset, .unset, .unset, .unset, .unset, .unset, .unset, .unset, .unset, .unset] [])
    refine own_go (fun _ => XS.lconst X0.here hx rfl (hb hby at_8)) ?_
    show own_G p e below Φ s₁ (mkF m 9 #[.val (.long q0), .second, .val (.long q1), .second, .val (.long q2), .second, .val (.long q3), .second, .val (.long q4), .second, .val (.long q5), .second, .unset, .unset, .unset, .unset, .unset, .unset, .unset, .unset, .unset, .unset] [(.long (0 : Int64))])
    refine own_go (fun _ => XS.goto X0.here hx rfl (pc0 := 9) (pc' := 14) rfl (hb hby at_9) (by decide) (by decide)) ?_
    exact hJ14_1 _ X0 e0 _ 
set_option maxRecDepth 65536 in
set_option maxHeartbeats 40000000 in
theorem comes_1 {Post : Tables → Env → Array Value → State → Outcome → State → Prop} (hpost : ∀ tb e args s v u, (limb_1_1.after args s (.returned v) u = true ∧ limb_1_2.after args s (.returned v) u = true ∧ True) → FrameEnd s (.returned v) u (Jvm.fieldLocs frame_1_writes args s ++ Jvm.arrayLocs frame_1_arrays args s ++ Jvm.staticLocs frame_1_statics s) 16 128 → Post tb e args s (.returned v) u) :
    ArmFor flags0 classFile x code maxLocals ret World_1 tables_1 room_1 Calls_1 rest_1 Pre_1 Post := by
  intro l hfl _ _ p e ha hc hk s m args below hf hA hF happ hP
  obtain ⟨hcalls, hrest, hpre⟩ := hP
  obtain ⟨-, -, -, hnamed, -, -, -, hat⟩ := (Spec.applies_iff hf).mp happ
  obtain ⟨hg, hn⟩ := and_e (Cond.before_iff.mp (show (Jvm.Cond.and given_1 narrow_1).before args s = true from hpre))
  obtain ⟨g1, g2⟩ := and_e hg
  obtain ⟨g3, g4⟩ := and_e g2
  obtain ⟨g5, g6⟩ := and_e g4
  obtain ⟨g7, g8⟩ := and_e g6
  obtain ⟨g9, g10⟩ := and_e g8
  obtain ⟨g11, g12⟩ := and_e g10
  obtain ⟨w0, w1, w2, w3, w4, w5, rfl⟩ : ∃ w0 w1 w2 w3 w4 w5 : Value, args = #[w0, w1, w2, w3, w4, w5] := by
    have hs : args.size = 6 := by simpa [Cond.value, given_1] using g1
    obtain ⟨L⟩ := args
    match L, hs with
    | [w0, w1, w2, w3, w4, w5], _ => exact ⟨w0, w1, w2, w3, w4, w5, rfl⟩
  have hw := fun d (hd : d ∈ tables_1) => atoms_spec (ws := Jvm.Cond.code x code maxLocals ret :: tables_1) hat d (List.mem_cons_of_mem _ hd)
  obtain ⟨i0, ei0⟩ := isL_v g3
  obtain rfl : w0 = (.long i0) := Option.some.inj ei0
  obtain ⟨i1, ei1⟩ := isL_v g5
  obtain rfl : w1 = (.long i1) := Option.some.inj ei1
  obtain ⟨i2, ei2⟩ := isL_v g7
  obtain rfl : w2 = (.long i2) := Option.some.inj ei2
  obtain ⟨i3, ei3⟩ := isL_v g9
  obtain rfl : w3 = (.long i3) := Option.some.inj ei3
  obtain ⟨i4, ei4⟩ := isL_v g11
  obtain rfl : w4 = (.long i4) := Option.some.inj ei4
  obtain ⟨i5, ei5⟩ := isL_v g12
  obtain rfl : w5 = (.long i5) := Option.some.inj ei5
  obtain ⟨n, o, h1, h2, h3, _, L, rfl, ⟨rfl, N⟩, hq⟩ := rm0 l s _ hw tables_1 i0 i1 i2 i3 i4 i5 s.heap s.heap.size (Nat.le_refl _)  p e ha hc hk s m _ below hf ((Spec.applies_iff_loose hf).mp happ).1 ⟨rfl, State.Warmed39.refl s, rfl⟩ trivial
  refine ⟨n, _, h1, h2, h3, hpost _ _ _ _ _ _ ⟨Cond.after_iff.mpr rfl, Cond.after_iff.mpr (eq_i res_at (Term.int_eval (1)) rfl), trivial⟩ ⟨hq.1, hq.2.1, (hq.2.2.sift fun y hy => Or.inr (N y hy)).mono (by decide) (by decide)⟩⟩
theorem main_1_1 : Claimed_1_1 := comes_1 fun _ _ _ _ _ _ h hF => ⟨h.1, hF⟩
theorem main_1_2 : Claimed_1_2 := comes_1 fun _ _ _ _ _ _ h hF => ⟨h.2.1, hF⟩
end Jvm.Pilot.@@N@@
namespace Jvm.Pilot.@@N@@
open Jvm Jvm.ClassFile Sem Op Lib Jvm.Free Jvm.Stand Jvm.Pilot.@@N@@.Jvm.D
/-! MADE BY PROGRAM (witnessworld.py) out of the Statement's table words and the real class files: 10 classes; the members and pool entries that the words name. The judged class is class 1, her method 1. -/
namespace start1
open Jvm.ClassFile
def u (s : String) : CpInfo := .utf8 (stringToUtf16 s)
/-- a pool by its gaps: so many unusable entries, then the entry; so many at the end -/
def gap : Nat → List CpInfo → List CpInfo
  | 0, r => r
  | n + 1, r => .unusable :: gap n r
def poolList (es : List (Nat × CpInfo)) (last : Nat) : List CpInfo := es.foldr (fun e r => gap e.1 (e.2 :: r)) (gap last [])
def pool (es : List (Nat × CpInfo)) (last : Nat) : Array CpInfo := ⟨poolList es last⟩
def fileOf (pool : Array CpInfo) (this : Nat) (attrs : Array Attribute := #[]) (ms : Array MethodInfo := #[]) (fl : Nat := 33) (sup : Nat := 0) (ifs : Array Nat := #[]) (fds : Array FieldInfo := #[]) : ClassFile where
  minorVersion := 0
  majorVersion := 65
  constantPool := pool
  accessFlags := fl
  thisClass := this
  superClass := sup
  interfaces := ifs
  fields := fds
  methods := ms
  attributes := attrs
def plain (name : String) (sup : Option ClassId) : Class where
  name := name
  kind := .ordinary
  loader := none
  accessFlags := 33
  super := sup
  interfaces := #[]
  cf := none
  fields := #[]
  methods := #[]
  instanceTypes := #[]
  staticTypes := #[]
  resolved := #[]
  callSites := []
  init := .initialized
  statics := none
  mirror := none

def pool0 : Array CpInfo := pool [(5, u "<init>"), (0, u "()V"), (1, .class_ 10), (1, u "java/lang/Object")] 113

def k0c0 : Code := { maxStack := 0, maxLocals := 1, code := object_method_1_code, exceptionTable := #[], attributes := #[] }
def k0m0 : Method := { name := "<init>", desc := "()V", sig := { parameters := [], returnType := none }, accessFlags := 1, code := some k0c0 }
/-- java/lang/Object -/
def k0 : Class := { plain "java/lang/Object" none with
  accessFlags := 33
  interfaces := #[]
  cf := some (fileOf pool0 8 #[] #[{ accessFlags := 1, nameIndex := 5, descriptorIndex := 6, attributes := #[] }] 33 0 #[] #[])
  fields := #[]
  methods := #[k0m0]
  instanceTypes := #[]
  staticTypes := #[]
  resolved := Array.replicate 124 none
  statics := none }

def pool1 : Array CpInfo := pool [(2, .class_ 4), (1, u "java/lang/Object"), (0, u "<init>"), (0, u "()V"), (0, .long 2), (1, .long 4), (1, .long 8), (1, .class_ 14), (0, u "com/example/brickwork/brickwork/cli/CheckHistoryCommand$Verdict"), (0, .methodref 13 16), (0, .nameAndType 5 17), (0, u "(JJJJJJ)V"), (0, .methodref 13 19), (0, .nameAndType 20 21), (0, u "sound"), (0, u "()Z"), (0, .class_ 23), (0, u "com/example/brickwork/brickwork/cli/VerdictSoundPinLaw"), (2, u "law"), (0, u "(JJJJJJ)Z")] 7

def k1m0 : Method := { name := "<init>", desc := "()V", sig := { parameters := [], returnType := none }, accessFlags := 2, code := none }
def k1c1 : Code := { maxStack := 14, maxLocals := 22, code := code, exceptionTable := #[], attributes := #[] }
def k1m1 : Method := { name := "law", desc := "(JJJJJJ)Z", sig := { parameters := [.long, .long, .long, .long, .long, .long], returnType := some .boolean }, accessFlags := 9, code := some k1c1 }
/-- com/example/brickwork/brickwork/cli/VerdictSoundPinLaw -/
def k1 : Class := { plain "com/example/brickwork/brickwork/cli/VerdictSoundPinLaw" (some 0) with
  accessFlags := 49
  interfaces := #[]
  cf := some (fileOf pool1 22 #[] #[{ accessFlags := 2, nameIndex := 5, descriptorIndex := 6, attributes := #[] }, { accessFlags := 9, nameIndex := 26, descriptorIndex := 27, attributes := #[] }] 49 2 #[] #[])
  fields := #[]
  methods := #[k1m0, k1m1]
  instanceTypes := #[]
  staticTypes := #[]
  resolved := Array.replicate 35 none
  statics := none }

def pool2 : Array CpInfo := pool [(1, .methodref 2 3), (0, .class_ 4), (0, .nameAndType 5 6), (0, u "java/lang/Object"), (0, u "<init>"), (0, u "()V"), (0, .class_ 8), (0, u "java/lang/Record")] 13

def k2c0 : Code := { maxStack := 1, maxLocals := 1, code := jdk_30_method_1_code, exceptionTable := #[], attributes := #[] }
def k2m0 : Method := { name := "<init>", desc := "()V", sig := { parameters := [], returnType := none }, accessFlags := 4, code := some k2c0 }
/-- java/lang/Record -/
def k2 : Class := { plain "java/lang/Record" (some 0) with
  accessFlags := 1057
  interfaces := #[]
  cf := some (fileOf pool2 7 #[] #[{ accessFlags := 4, nameIndex := 5, descriptorIndex := 6, attributes := #[] }] 1057 2 #[] #[])
  fields := #[]
  methods := #[k2m0]
  instanceTypes := #[]
  staticTypes := #[]
  resolved := Array.replicate 22 none
  statics := none }

def pool3 : Array CpInfo := pool [(1, .methodref 2 3), (0, .class_ 4), (0, .nameAndType 5 6), (0, u "java/lang/Record"), (0, u "<init>"), (0, u "()V"), (0, .fieldref 8 9), (0, .class_ 10), (0, .nameAndType 11 12), (0, u "com/example/brickwork/brickwork/cli/CheckHistoryCommand$Verdict"), (0, u "ops"), (0, u "J"), (0, .fieldref 8 14), (0, .nameAndType 15 12), (0, u "keys"), (0, .fieldref 8 17), (0, .nameAndType 18 12), (0, u "stale"), (0, .fieldref 8 20), (0, .nameAndType 21 12), (0, u "backwards"), (0, .fieldref 8 23), (0, .nameAndType 24 12), (0, u "phantom"), (0, .fieldref 8 26), (0, .nameAndType 27 12), (0, u "corrupt"), (12, u "(JJJJJJ)V"), (3, u "sound"), (0, u "()Z"), (8, .class_ 55), (0, u "com/example/brickwork/brickwork/cli/CheckHistoryCommand")] 24

def k3c0 : Code := { maxStack := 3, maxLocals := 13, code := prog_117_method_1_code, exceptionTable := #[], attributes := #[] }
def k3m0 : Method := { name := "<init>", desc := "(JJJJJJ)V", sig := { parameters := [.long, .long, .long, .long, .long, .long], returnType := none }, accessFlags := 0, code := some k3c0 }
def k3c1 : Code := { maxStack := 4, maxLocals := 1, code := prog_117_method_2_code, exceptionTable := #[], attributes := #[] }
def k3m1 : Method := { name := "sound", desc := "()Z", sig := { parameters := [], returnType := some .boolean }, accessFlags := 0, code := some k3c1 }
/-- com/example/brickwork/brickwork/cli/CheckHistoryCommand$Verdict -/
def k3 : Class := { plain "com/example/brickwork/brickwork/cli/CheckHistoryCommand$Verdict" (some 2) with
  accessFlags := 48
  interfaces := #[]
  cf := some (fileOf pool3 8 #[.nestHost 54] #[{ accessFlags := 0, nameIndex := 5, descriptorIndex := 40, attributes := #[] }, { accessFlags := 0, nameIndex := 44, descriptorIndex := 45, attributes := #[] }] 48 2 #[] #[{ accessFlags := 18, nameIndex := 11, descriptorIndex := 12, attributes := #[] }, { accessFlags := 18, nameIndex := 15, descriptorIndex := 12, attributes := #[] }, { accessFlags := 18, nameIndex := 18, descriptorIndex := 12, attributes := #[] }, { accessFlags := 18, nameIndex := 21, descriptorIndex := 12, attributes := #[] }, { accessFlags := 18, nameIndex := 24, descriptorIndex := 12, attributes := #[] }, { accessFlags := 18, nameIndex := 27, descriptorIndex := 12, attributes := #[] }])
  fields := #[{ name := "ops", type := .long, accessFlags := 18, slot := 0, constantValue := 0 }, { name := "keys", type := .long, accessFlags := 18, slot := 1, constantValue := 0 }, { name := "stale", type := .long, accessFlags := 18, slot := 2, constantValue := 0 }, { name := "backwards", type := .long, accessFlags := 18, slot := 3, constantValue := 0 }, { name := "phantom", type := .long, accessFlags := 18, slot := 4, constantValue := 0 }, { name := "corrupt", type := .long, accessFlags := 18, slot := 5, constantValue := 0 }]
  methods := #[k3m0, k3m1]
  instanceTypes := #[.long, .long, .long, .long, .long, .long]
  staticTypes := #[]
  resolved := Array.replicate 80 none
  statics := none }

def pool4 : Array CpInfo := pool [(1, u "java/lang/Cloneable"), (0, .class_ 1), (0, u "java/lang/Object"), (0, .class_ 3)] 3

/-- java/lang/Cloneable -/
def k4 : Class := { plain "java/lang/Cloneable" (some 0) with
  accessFlags := 1537
  interfaces := #[]
  cf := some (fileOf pool4 2 #[] #[] 1537 4 #[] #[])
  fields := #[]
  methods := #[]
  instanceTypes := #[]
  staticTypes := #[]
  resolved := Array.replicate 8 none
  statics := none }

def pool5 : Array CpInfo := pool [(1, u "java/io/Serializable"), (0, .class_ 1), (0, u "java/lang/Object"), (0, .class_ 3)] 3

/-- java/io/Serializable -/
def k5 : Class := { plain "java/io/Serializable" (some 0) with
  accessFlags := 1537
  interfaces := #[]
  cf := some (fileOf pool5 2 #[] #[] 1537 4 #[] #[])
  fields := #[]
  methods := #[]
  instanceTypes := #[]
  staticTypes := #[]
  resolved := Array.replicate 8 none
  statics := none }

/-- the primitive byte -/
def k6 : Class := { plain "byte" none with kind := .primitive 'B', accessFlags := 0x411 }
/-- [B -/
def k7 : Class := { plain "[B" (some 0) with kind := .array 6 .byte, interfaces := #[4, 5], accessFlags := 1041 }

/-- the primitive int -/
def k8 : Class := { plain "int" none with kind := .primitive 'I', accessFlags := 0x411 }
/-- [I -/
def k9 : Class := { plain "[I" (some 0) with kind := .array 8 .int, interfaces := #[4, 5], accessFlags := 1041 }

def heap : Heap := #[]
def classes : Array Class := #[k0, k1, k2, k3, k4, k5, k6, k7, k8, k9]
def interned : List (Array UInt16 × Addr) := []
def slotsUsed : Nat := 0
def theMethod : MethodId := ⟨1, 1⟩
def args0 : Array Value := #[.long 5, .long 5, .long 5, .long 5, .long 5, .long 5]
def aboutOver (below : List Frame) : State where
  vm := { classes := classes, interned := interned.toArray }
  heap := heap
  slotsUsed := slotsUsed
  threads := #[{ frames := .invoking theMethod args0 :: below }]
def below0 : List Frame := [.native { method := ⟨0, 0⟩, args := #[] }]
def about1 : State := aboutOver below0
def p0 : Program := .bare "" "" ""
def e0 : Env := launch0.env 0 0 0
theorem w_frames : about1.frames = Frame.invoking theMethod args0 :: below0 := rfl
set_option maxRecDepth 65536 in
theorem w_args : argsFit about1.vm theMethod args0 = true := by decide +kernel
set_option maxRecDepth 65536 in
theorem w_heap : heapFits about1 = true := by decide +kernel
set_option maxRecDepth 65536 in
theorem w_runnable : about1.curStatus? = some .runnable := by decide +kernel
set_option maxRecDepth 65536 in
theorem w_alone : about1.alone = true := by decide +kernel
set_option maxRecDepth 65536 in
theorem w_named : about1.methodNamed? x = some theMethod := by decide +kernel
set_option maxRecDepth 65536 in
theorem w_hears : about1.hears theMethod below0 = true := by decide +kernel
set_option maxRecDepth 65536 in
theorem w_ripe : about1.ripe theMethod args0 below0 = true := by decide +kernel
theorem w_running : about1.status = .running := rfl
set_option maxRecDepth 65536 in
theorem w_room : about1.hasRoom e0.platform room_1 = true :=
  launch0.hasRoom_least _ room_1 (by decide +kernel) (by decide +kernel) (by decide +kernel) (by decide +kernel) (by decide +kernel) (by decide +kernel)
theorem allAtoms_all (ts : List Jvm.Cond) (a : Array Jvm.Value) (st : Jvm.State) : (allAtoms ts).before a st = ts.all (fun c => c.before a st) := by
  induction ts with
  | nil => rfl
  | cons c t ih =>
    show (Jvm.Cond.and c (allAtoms t)).before a st = _
    rw [Jvm.Cond.before_and, ih, List.all_cons]
def words1 : List Jvm.Cond := Jvm.Cond.code x code maxLocals ret :: tables_1
/-- a 'code' word, met by the world's own term for the bytes: nothing is compared byte by byte -/
theorem code_word {y : MethodName} {bytes : ByteArray} {mx : Nat} {rt : Option FieldType} {a : Array Value} {s : State} {m : MethodId} {meth : Method} {c : Code} (h1 : s.methodNamed? y = some m) (h2 : s.vm.method? m = some meth) (h3 : meth.code = some c) (h4 : c.code = bytes)
    (h5 : (c.maxLocals == mx && c.exceptionTable.isEmpty && decide (c.maxStack ≤ mostOperands) && decide (meth.sig.returnType = rt) && !meth.locks && decide (parseMethodDescriptor y.desc = some meth.sig)) = true) : (Jvm.Cond.code y bytes mx rt).before a s = true := by
  simp only [Bool.and_eq_true, beq_iff_eq, Bool.not_eq_true', decide_eq_true_eq] at h5
  obtain ⟨⟨⟨⟨⟨g1, g2⟩, g3⟩, g4⟩, g5⟩, g6⟩ := h5
  simp [Cond.before, Cond.holds, Cond.value, h1, h2, h3, h4, g1, g2, g3, g4, g5, g6]
def isCode : Jvm.Cond → Bool
  | .code _ _ _ _ => true
  | _ => false
theorem all_split {L : List Jvm.Cond} {P : Jvm.Cond → Bool} (h1 : L.all (fun c => isCode c || P c) = true) (h2 : ∀ c ∈ L.filter isCode, P c = true) : L.all P = true := by
  refine List.all_eq_true.mpr fun c hc => ?_
  have h := List.all_eq_true.mp h1 c hc
  rcases Bool.eq_false_or_eq_true (isCode c) with hi | hi
  · exact h2 c (List.mem_filter.mpr ⟨hc, hi⟩)
  · simpa [hi] using h
set_option maxRecDepth 65536 in
theorem w_c0 : (Jvm.Cond.code x code maxLocals ret).before args0 about1 = true := code_word (m := ⟨1, 1⟩) (meth := k1m1) (c := k1c1) (by decide +kernel) rfl rfl rfl (by decide +kernel)
set_option maxRecDepth 65536 in
theorem w_c1 : (Jvm.Cond.code ({ cls := "com/example/brickwork/brickwork/cli/CheckHistoryCommand$Verdict", name := "<init>", desc := "(JJJJJJ)V" } : Jvm.MethodName) prog_117_method_1_code (13 : Nat) (Option.none : Option Jvm.ClassFile.FieldType)).before args0 about1 = true := code_word (m := ⟨3, 0⟩) (meth := k3m0) (c := k3c0) (by decide +kernel) rfl rfl rfl (by decide +kernel)
set_option maxRecDepth 65536 in
theorem w_c2 : (Jvm.Cond.code ({ cls := "java/lang/Record", name := "<init>", desc := "()V" } : Jvm.MethodName) jdk_30_method_1_code (1 : Nat) (Option.none : Option Jvm.ClassFile.FieldType)).before args0 about1 = true := code_word (m := ⟨2, 0⟩) (meth := k2m0) (c := k2c0) (by decide +kernel) rfl rfl rfl (by decide +kernel)
set_option maxRecDepth 65536 in
theorem w_c3 : (Jvm.Cond.code ({ cls := "java/lang/Object", name := "<init>", desc := "()V" } : Jvm.MethodName) object_method_1_code (1 : Nat) (Option.none : Option Jvm.ClassFile.FieldType)).before args0 about1 = true := code_word (m := ⟨0, 0⟩) (meth := k0m0) (c := k0c0) (by decide +kernel) rfl rfl rfl (by decide +kernel)
set_option maxRecDepth 65536 in
theorem w_c4 : (Jvm.Cond.code ({ cls := "com/example/brickwork/brickwork/cli/CheckHistoryCommand$Verdict", name := "sound", desc := "()Z" } : Jvm.MethodName) prog_117_method_2_code (1 : Nat) (Option.some Jvm.ClassFile.FieldType.boolean)).before args0 about1 = true := code_word (m := ⟨3, 1⟩) (meth := k3m1) (c := k3c1) (by decide +kernel) rfl rfl rfl (by decide +kernel)
def codes1 : List Jvm.Cond := [Jvm.Cond.code x code maxLocals ret, Jvm.Cond.code ({ cls := "com/example/brickwork/brickwork/cli/CheckHistoryCommand$Verdict", name := "<init>", desc := "(JJJJJJ)V" } : Jvm.MethodName) prog_117_method_1_code (13 : Nat) (Option.none : Option Jvm.ClassFile.FieldType), Jvm.Cond.code ({ cls := "java/lang/Record", name := "<init>", desc := "()V" } : Jvm.MethodName) jdk_30_method_1_code (1 : Nat) (Option.none : Option Jvm.ClassFile.FieldType), Jvm.Cond.code ({ cls := "java/lang/Object", name := "<init>", desc := "()V" } : Jvm.MethodName) object_method_1_code (1 : Nat) (Option.none : Option Jvm.ClassFile.FieldType), Jvm.Cond.code ({ cls := "com/example/brickwork/brickwork/cli/CheckHistoryCommand$Verdict", name := "sound", desc := "()Z" } : Jvm.MethodName) prog_117_method_2_code (1 : Nat) (Option.some Jvm.ClassFile.FieldType.boolean)]
set_option maxRecDepth 65536 in
theorem codes_eq : words1.filter isCode = codes1 := rfl
theorem w_codes : ∀ c ∈ words1.filter isCode, c.before args0 about1 = true := by
  rw [codes_eq]
  intro c hc
  simp only [codes1, List.mem_cons, List.not_mem_nil, or_false] at hc
  rcases hc with rfl | rfl | rfl | rfl | rfl
  · exact w_c0
  · exact w_c1
  · exact w_c2
  · exact w_c3
  · exact w_c4
set_option maxRecDepth 65536 in
theorem w_t1 : (words1.take 24).all (fun c => isCode c || c.before args0 about1) = true := by decide +kernel
set_option maxRecDepth 65536 in
theorem w_t2 : (words1.drop 24).all (fun c => isCode c || c.before args0 about1) = true := by decide +kernel
theorem w_tables : (allAtoms (Jvm.Cond.code x code maxLocals ret :: tables_1)).before args0 about1 = true := by
  rw [allAtoms_all]
  show words1.all (fun c => c.before args0 about1) = true
  refine all_split ?_ w_codes
  rw [← List.take_append_drop 24 words1, List.all_append, w_t1, w_t2]
  rfl
set_option maxRecDepth 65536 in
theorem w_case : (Jvm.Cond.and given_1 narrow_1).before args0 about1 = true := by decide +kernel
theorem w_applies : (headSpec (Jvm.Cond.code x code maxLocals ret :: tables_1) room_1).applies x e0.platform about1 = true :=
  (Spec.applies_iff w_frames).mpr ⟨w_running, w_runnable, w_alone, w_named, w_hears, w_ripe, w_room, w_tables⟩
theorem atStart : AtStart classFile x code maxLocals ret World_1 tables_1 room_1 Calls_1 rest_1 Pre_1 launch0 p0 e0 about1 theMethod args0 below0 :=
  ⟨lists_1, trivial, launch0.admits_env _ _ _, launch0.least_env, fairChoices_fair.cas, fairChoices_fair.clock, w_frames, w_args, w_heap, w_applies, trivial, trivial, w_case⟩
end start1
theorem witness_1 : WitnessClaimed_1 := ⟨start1.p0, start1.e0, start1.about1, start1.theMethod, start1.args0, start1.below0, start1.atStart⟩
end Jvm.Pilot.@@N@@
