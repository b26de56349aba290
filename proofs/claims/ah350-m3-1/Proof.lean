import JvmDerived
import JvmDerived.Pilot.@@N@@Statement
import JvmDerived.Pilot.@@N@@Code
set_option linter.unusedVariables false
set_option linter.unusedSimpArgs false
namespace Jvm.RoadKit
open Sem ClassFile Op Lib Jvm.Stand Jvm.Free Jvm.LawKit
section Own
variable {p : Program} {l : Launch} {e : Env} {R : Room} {s : State} {m : MethodId} {args : Array Value} {below : List Frame} {meth : Method} {c : Code} {T T' : State} {locs : List Loc} {cells slots : Nat} {g g' : JFrame} {Φ : State → Prop}
/-- from this frame the run comes to a state with Φ -/
def own_G (p : Program) (e : Env) (below : List Frame) (Φ : State → Prop) (T : State) (g : JFrame) : Prop := ∃ t, Steps p.tables e below (T.setTop g) t ∧ Φ t
/-- what the end of a method with the answer Q is -/
def own_E (s : State) (below : List Frame) (Q : Option Value → Heap → List Loc → Prop) (k n : Nat) (t : State) : Prop := ∃ o, t.status = .running ∧ Ended t below o ∧ ∃ v L, o = .returned v ∧ Q v t.heap L ∧ FrameEnd s o t L k n
def own_Al (_ : Stand p l e R s m args below meth c T locs cells slots) (T' : State) : Prop := Stand p l e R s m args below meth c T' locs cells slots
theorem own_go (h : ∀ t, Steps p.tables e below (T'.setTop g') t → Steps p.tables e below (T.setTop g) t) (k : own_G p e below Φ T' g') : own_G p e below Φ T g := by
  obtain ⟨t, a, b⟩ := k
  exact ⟨t, h t a, b⟩
theorem own_on (h : Steps p.tables e below (T.setTop g) (T'.setTop g')) (k : own_G p e below Φ T' g') : own_G p e below Φ T g := by
  obtain ⟨t, a, b⟩ := k
  exact ⟨t, h.trans a, b⟩
theorem own_ret (X : Stand p l e R s m args below meth c T locs cells slots) {Q : Option Value → Heap → List Loc → Prop} {k n : Nat} {v : Option Value} (hv : meth.sig.returnType = none → v = none) (hlocks : meth.locks = false)
    (hst : ∀ fs, (∀ (f : JFrame) (acts : List Action), f.method = m → f.locked = none → f.entered = [] → (doReturn e (T.setTop f) acts v).1 = T.setFrames fs) → Steps p.tables e below (T.setTop g) (T.setFrames fs))
    (hq : Q v T.heap locs) (hc : cells ≤ k) (hn : slots ≤ n) : own_G p e below (own_E s below Q k n) T g := by
  obtain ⟨fs, hr, hrun, hended, hW, hsame⟩ := X.leave hv hlocks
  exact ⟨_, hst fs hr, _, hrun, hended, _, _, rfl, hq, ⟨_, rfl⟩, hW, hsame.mono hc hn⟩
def own_EW (s : State) (below : List Frame) (Q : Option Value → Heap → List Loc → Prop) (k n : Nat) (t : State) : Prop := ∃ o, t.status = .running ∧ Ended t below o ∧ ∃ v L, o = .returned v ∧ Q v t.heap L ∧ ReturnedEndW s o t L k n
theorem own_retW {vm₁ : Vm} (X : Stand p l e R (s.setVm vm₁) m args below meth c T locs cells slots) {q : Nat} (hS : s.Since vm₁ q) (hq' : q ≤ T.heap.size) {Q : Option Value → Heap → List Loc → Prop} {k n : Nat} {v : Option Value} (hv : meth.sig.returnType = none → v = none) (hlocks : meth.locks = false)
    (hst : ∀ fs, (∀ (f : JFrame) (acts : List Action), f.method = m → f.locked = none → f.entered = [] → (doReturn e (T.setTop f) acts v).1 = T.setFrames fs) → Steps p.tables e below (T.setTop g) (T.setFrames fs))
    (hq : Q v T.heap locs) (hc : cells ≤ k) (hn : slots ≤ n) : own_G p e below (own_EW s below Q k n) T g := by
  obtain ⟨fs, hr, hrun, hended, h1, h2, h3, h4⟩ := X.leaveW hS hq' hv hlocks
  exact ⟨_, hst fs hr, _, hrun, hended, _, _, rfl, hq, h1, h2, h3, h4.mono hc hn⟩
theorem own_lrem_eq (x y : Int64) : x - (x / y) * y = x % y := by
  apply Int64.toInt_inj.mp
  have r := rng64 (x % y)
  have hm : (x % y).toInt = x.toInt - y.toInt * x.toInt.tdiv y.toInt := by rw [Int64.toInt_mod, Int.tmod_def]
  have hs : (x - x / y * y).toInt = (x.toInt - y.toInt * x.toInt.tdiv y.toInt).bmod (2 ^ 64) := by
    rw [Int64.toInt_sub, Int64.toInt_mul, Int64.toInt_div, Int.bmod_mul_bmod, Int.sub_bmod_bmod, Int.mul_comm]
  rw [hs, ← hm]
  exact Int.bmod_eq_of_le (by omega) (by omega)
theorem own_lremM {target : State} (X : Stand p l e R s m args below meth c T locs cells slots) (hx : p.tables.exec = Jvm.exec) (hg : g.method = m) {x y : Int64} {rest : List Value} (hd : decode c.code g.pc = .ok (.lrem, 1)) (hs : g.stack = .long y :: .long x :: rest) (hy : y ≠ 0)
    (hr : Steps p.tables e below (T.setTop { g with pc := g.pc + 1, stack := .long (x % y) :: rest }) target) : Steps p.tables e below (T.setTop g) target :=
  XS.lrem X.here hx hg hd hs hy (by rw [own_lrem_eq]; exact hr)
theorem own_nar {v : Value} {t : FieldType} (h : v.isRef = true) : narrow t v = v := by
  rcases ref_cases h with rfl | ⟨a, rfl⟩ <;> cases t <;> rfl
end Own
end Jvm.RoadKit
namespace Jvm.Pilot.@@N@@
open Jvm Jvm.ClassFile Sem Op Lib Jvm.Free Jvm.Stand Jvm.LawKit Jvm.RoadKit Bundle Jvm.Pilot.@@N@@.Jvm.D

def own_pick (p : Int32) (o b : Int64) : Int64 := if p = 0 then o else if p = 1 then b else if p = 2 then b + 1 else b - 1
def own_newer (va sa vb sb : Int64) : Int32 := if vb < va then 1 else if va = vb then (if sb < sa then 1 else 0) else 0
def own_ref (sa va sb vb : Int64) : Int32 := if vb < va then 1 else if va < vb then 0 else if sb < sa then 1 else 0
theorem own_nr (va sa vb sb : Int64) : own_newer va sa vb sb = own_ref sa va sb vb := by
  unfold own_newer own_ref
  simp only [Int64.lt_iff_toInt_lt, ← Int64.toInt_inj]
  repeat' split
  all_goals first | rfl | omega
theorem own_self (v s : Int64) : own_newer v s v s = 0 := by
  unfold own_newer
  simp only [Int64.lt_iff_toInt_lt, ← Int64.toInt_inj]
  repeat' split
  all_goals first | rfl | omega
theorem own_anti {va sa vb sb : Int64} (h : ¬ own_newer va sa vb sb = 0) : own_newer vb sb va sa = 0 := by
  revert h
  unfold own_newer
  simp only [Int64.lt_iff_toInt_lt, ← Int64.toInt_inj]
  repeat' split
  all_goals first | (intro h; rfl) | (intro h; exact absurd rfl h) | omega
theorem own_tot {va sa vb sb : Int64} (h : own_newer va sa vb sb = 0) (h' : own_newer vb sb va sa = 0) : va = vb ∧ sa = sb := by
  revert h h'
  unfold own_newer
  simp only [Int64.lt_iff_toInt_lt, ← Int64.toInt_inj]
  repeat' split
  all_goals first | (intro h h'; exact absurd h (by decide)) | (intro h h'; exact absurd h' (by decide)) | (intro h h'; omega)

theorem d1_0 : decode method_2_code 0 = .ok (.iload_n 0, 1) := by decide +kernel
theorem d1_1 : decode method_2_code 1 = .ok (.ifCond .ne 5, 3) := by decide +kernel
theorem d1_4 : decode method_2_code 4 = .ok (.lload_n 1, 1) := by decide +kernel
theorem d1_5 : decode method_2_code 5 = .ok (.lreturn, 1) := by decide +kernel
theorem d1_6 : decode method_2_code 6 = .ok (.iload_n 0, 1) := by decide +kernel
theorem d1_7 : decode method_2_code 7 = .ok (.iconst 1, 1) := by decide +kernel
theorem d1_8 : decode method_2_code 8 = .ok (.if_icmp .ne 5, 3) := by decide +kernel
theorem d1_11 : decode method_2_code 11 = .ok (.lload_n 3, 1) := by decide +kernel
theorem d1_12 : decode method_2_code 12 = .ok (.lreturn, 1) := by decide +kernel
theorem d1_13 : decode method_2_code 13 = .ok (.iload_n 0, 1) := by decide +kernel
theorem d1_14 : decode method_2_code 14 = .ok (.iconst 2, 1) := by decide +kernel
theorem d1_15 : decode method_2_code 15 = .ok (.if_icmp .ne 7, 3) := by decide +kernel
theorem d1_18 : decode method_2_code 18 = .ok (.lload_n 3, 1) := by decide +kernel
theorem d1_19 : decode method_2_code 19 = .ok (.lconst 1, 1) := by decide +kernel
theorem d1_20 : decode method_2_code 20 = .ok (.ladd, 1) := by decide +kernel
theorem d1_21 : decode method_2_code 21 = .ok (.lreturn, 1) := by decide +kernel
theorem d1_22 : decode method_2_code 22 = .ok (.lload_n 3, 1) := by decide +kernel
theorem d1_23 : decode method_2_code 23 = .ok (.lconst 1, 1) := by decide +kernel
theorem d1_24 : decode method_2_code 24 = .ok (.lsub, 1) := by decide +kernel
theorem d1_25 : decode method_2_code 25 = .ok (.lreturn, 1) := by decide +kernel
theorem pn_0 : plainName "com/example/brickwork/brickwork/wire/SavedCopyNewerPinLaw" = true := by first | (simp [plainName, overriddenIn]; done) | decide +kernel
theorem ef_rm1 (m : MethodId) (p1 : Int32) (q2 : Int64) (q3 : Int64) : entryFrame m #[(.int p1), (.long q2), (.long q3)] 5 = mkF m 0 #[.val (.int p1), .val (.long q2), .second, .val (.long q3), .second] [] := by first | (simp [entryFrame, mkF, argsToLocals, Value.category]; done) | rfl
def Q_rm1 (Z : State) (p1 : Int32) (q2 : Int64) (q3 : Int64) (h0 : Heap) (n0 : Nat) (v : Option Value) (h : Heap) (L : List Loc) : Prop := v = some (.long (own_pick p1 q2 q3)) ∧ Fr n0 L ∧ h = h0
set_option maxRecDepth 65536 in
set_option maxHeartbeats 40000000 in
theorem rm1 (l : Launch) (Z : State) (a0 : Array Value) (hw : ∀ d ∈ tables_1, d.before a0 Z = true) (ws : List Jvm.Cond) (p1 : Int32) (q2 : Int64) (q3 : Int64) (h0 : Heap) (n0 : Nat) (Z0 : n0 ≤ h0.size)  :
    MetFree l (⟨"com/example/brickwork/brickwork/wire/SavedCopyNewerPinLaw", "pick", "(IJJ)J"⟩ : MethodName) (head1 (Jvm.Cond.code (⟨"com/example/brickwork/brickwork/wire/SavedCopyNewerPinLaw", "pick", "(IJJ)J"⟩ : MethodName) method_2_code 5 (some .long) :: ws) ({ frames := 0, cells := 0, slots := 0, locals := 0 } : Room)) (fun a U => a = #[(.int p1), (.long q2), (.long q3)] ∧ Z.Warmed39 U.vm ∧ U.heap = h0) (fun _ _ _ _ _ => True) (fun _ U o U' => ∃ v L, o = .returned v ∧ Q_rm1 Z p1 q2 q3 h0 n0 v U'.heap L ∧ FrameEnd U o U' L ({ frames := 0, cells := 0, slots := 0, locals := 0 } : Room).cells ({ frames := 0, cells := 0, slots := 0, locals := 0 } : Room).slots) := by
  refine MetFree.of_bodySF (plainFor_of_name pn_0) hisR ?_
  intro p e s m args below meth c s₁ Bd hml0 hP hK
  obtain ⟨rfl, hZ, hh⟩ := hP
  have hx := Bd.exec
  have hby := Bd.bytes
  have hml : c.maxLocals = 5 := hml0
  have hown : s.vm.findClass "com/example/brickwork/brickwork/wire/SavedCopyNewerPinLaw" = some m.cls := findClass_of_methodNamed Bd.named
  have hnm := (name_of_methodNamed Bd.named Bd.method).1
  have X0 : Stand p l e ({ frames := 0, cells := 0, slots := 0, locals := 0 } : Room) s m #[(.int p1), (.long q2), (.long q3)] below meth c s₁ [] 0 0 := Stand.of_body Bd
  have e0 : s₁.heap = h0 := by rw [← hh, Bd.state]; rfl
  have N0 := Fr.nil n0
  suffices G0 : own_G p e below (own_E s below (Q_rm1 Z p1 q2 q3 h0 n0) ({ frames := 0, cells := 0, slots := 0, locals := 0 } : Room).cells ({ frames := 0, cells := 0, slots := 0, locals := 0 } : Room).slots) s₁ (mkF m 0 #[.val (.int p1), .val (.long q2), .second, .val (.long q3), .second] []) by
    obtain ⟨zt, zst, zo, zq1, zq2, zq3⟩ := G0
    exact ⟨zt, zo, castTop (ef_rm1 m p1 q2 q3) zst, zq1, zq2, zq3⟩
  obtain ⟨Φ, hΦ⟩ : ∃ Φ, Φ = own_E s below (Q_rm1 Z p1 q2 q3 h0 n0) ({ frames := 0, cells := 0, slots := 0, locals := 0 } : Room).cells ({ frames := 0, cells := 0, slots := 0, locals := 0 } : Room).slots := ⟨_, rfl⟩
  rw [← hΦ]
  show own_G p e below Φ s₁ (mkF m 0 #[.val (.int p1), .val (.long q2), .second, .val (.long q3), .second] [])
  refine own_go (fun _ => XS.iloadN X0.here hx rfl (hb hby d1_0) rfl) ?_
  show own_G p e below Φ s₁ (mkF m 1 #[.val (.int p1), .val (.long q2), .second, .val (.long q3), .second] [(.int p1)])
  by_cases hc1 : p1 = (0 : Int32)
  · refine own_go (fun _ => XS.ifNo X0.here hx rfl (hb hby d1_1) rfl (Jvm.Free.XT.i0_ne_f hc1)) ?_
    show own_G p e below Φ s₁ (mkF m 4 #[.val (.int p1), .val (.long q2), .second, .val (.long q3), .second] [])
    refine own_go (fun _ => XS.lloadN X0.here hx rfl (hb hby d1_4) rfl) ?_
    show own_G p e below Φ s₁ (mkF m 5 #[.val (.int p1), .val (.long q2), .second, .val (.long q3), .second] [(.long q2)])
    rw [hΦ]
    refine own_ret X0 (v := some (.long q2)) (fun h => by rw [Bd.returns] at h; cases h) (BodyLoose.notSynchronized Bd) (fun fs hr => retOut X0 hx Bd.returns rfl (Or.inr (Or.inl ⟨rfl, rfl, _, rfl⟩)) (hb hby d1_5) hr) ?_ (by decide) (by decide)
    rw [e0]
    exact ⟨(by simp [own_pick, hc1]), N0, rfl⟩
  · refine own_go (fun _ => XS.ifYes X0.here hx rfl (pc0 := 1) (pc' := 6) rfl (hb hby d1_1) rfl (Jvm.Free.XT.i0_ne_t hc1) (by decide) (by decide)) ?_
    show own_G p e below Φ s₁ (mkF m 6 #[.val (.int p1), .val (.long q2), .second, .val (.long q3), .second] [])
    refine own_go (fun _ => XS.iloadN X0.here hx rfl (hb hby d1_6) rfl) ?_
    show own_G p e below Φ s₁ (mkF m 7 #[.val (.int p1), .val (.long q2), .second, .val (.long q3), .second] [(.int p1)])
    refine own_go (fun _ => XS.iconst X0.here hx rfl (hb hby d1_7)) ?_
    show own_G p e below Φ s₁ (mkF m 8 #[.val (.int p1), .val (.long q2), .second, .val (.long q3), .second] [(.int (1 : Int32)), (.int p1)])
    by_cases hc8 : p1 = (1 : Int32)
    · refine own_go (fun _ => XS.icmpNo X0.here hx rfl (hb hby d1_8) rfl (Jvm.Free.XT.ii_ne_f hc8)) ?_
      show own_G p e below Φ s₁ (mkF m 11 #[.val (.int p1), .val (.long q2), .second, .val (.long q3), .second] [])
      refine own_go (fun _ => XS.lloadN X0.here hx rfl (hb hby d1_11) rfl) ?_
      show own_G p e below Φ s₁ (mkF m 12 #[.val (.int p1), .val (.long q2), .second, .val (.long q3), .second] [(.long q3)])
      rw [hΦ]
      refine own_ret X0 (v := some (.long q3)) (fun h => by rw [Bd.returns] at h; cases h) (BodyLoose.notSynchronized Bd) (fun fs hr => retOut X0 hx Bd.returns rfl (Or.inr (Or.inl ⟨rfl, rfl, _, rfl⟩)) (hb hby d1_12) hr) ?_ (by decide) (by decide)
      rw [e0]
      exact ⟨(by simp [own_pick, hc1, hc8]), N0, rfl⟩
    · refine own_go (fun _ => XS.icmpYes X0.here hx rfl (pc0 := 8) (pc' := 13) rfl (hb hby d1_8) rfl (Jvm.Free.XT.ii_ne_t hc8) (by decide) (by decide)) ?_
      show own_G p e below Φ s₁ (mkF m 13 #[.val (.int p1), .val (.long q2), .second, .val (.long q3), .second] [])
      refine own_go (fun _ => XS.iloadN X0.here hx rfl (hb hby d1_13) rfl) ?_
      show own_G p e below Φ s₁ (mkF m 14 #[.val (.int p1), .val (.long q2), .second, .val (.long q3), .second] [(.int p1)])
      refine own_go (fun _ => XS.iconst X0.here hx rfl (hb hby d1_14)) ?_
      show own_G p e below Φ s₁ (mkF m 15 #[.val (.int p1), .val (.long q2), .second, .val (.long q3), .second] [(.int (2 : Int32)), (.int p1)])
      by_cases hc15 : p1 = (2 : Int32)
      · refine own_go (fun _ => XS.icmpNo X0.here hx rfl (hb hby d1_15) rfl (Jvm.Free.XT.ii_ne_f hc15)) ?_
        show own_G p e below Φ s₁ (mkF m 18 #[.val (.int p1), .val (.long q2), .second, .val (.long q3), .second] [])
        refine own_go (fun _ => XS.lloadN X0.here hx rfl (hb hby d1_18) rfl) ?_
        show own_G p e below Φ s₁ (mkF m 19 #[.val (.int p1), .val (.long q2), .second, .val (.long q3), .second] [(.long q3)])
        refine own_go (fun _ => XS.lconst X0.here hx rfl (hb hby d1_19)) ?_
        show own_G p e below Φ s₁ (mkF m 20 #[.val (.int p1), .val (.long q2), .second, .val (.long q3), .second] [(.long (1 : Int64)), (.long q3)])
        refine own_go (fun _ => XS.ladd X0.here hx rfl (hb hby d1_20) rfl) ?_
        show own_G p e below Φ s₁ (mkF m 21 #[.val (.int p1), .val (.long q2), .second, .val (.long q3), .second] [(.long (q3 + (1 : Int64)))])
        rw [hΦ]
        refine own_ret X0 (v := some (.long (q3 + (1 : Int64)))) (fun h => by rw [Bd.returns] at h; cases h) (BodyLoose.notSynchronized Bd) (fun fs hr => retOut X0 hx Bd.returns rfl (Or.inr (Or.inl ⟨rfl, rfl, _, rfl⟩)) (hb hby d1_21) hr) ?_ (by decide) (by decide)
        rw [e0]
        exact ⟨(by simp [own_pick, hc1, hc8, hc15]), N0, rfl⟩
      · refine own_go (fun _ => XS.icmpYes X0.here hx rfl (pc0 := 15) (pc' := 22) rfl (hb hby d1_15) rfl (Jvm.Free.XT.ii_ne_t hc15) (by decide) (by decide)) ?_
        show own_G p e below Φ s₁ (mkF m 22 #[.val (.int p1), .val (.long q2), .second, .val (.long q3), .second] [])
        refine own_go (fun _ => XS.lloadN X0.here hx rfl (hb hby d1_22) rfl) ?_
        show own_G p e below Φ s₁ (mkF m 23 #[.val (.int p1), .val (.long q2), .second, .val (.long q3), .second] [(.long q3)])
        refine own_go (fun _ => XS.lconst X0.here hx rfl (hb hby d1_23)) ?_
        show own_G p e below Φ s₁ (mkF m 24 #[.val (.int p1), .val (.long q2), .second, .val (.long q3), .second] [(.long (1 : Int64)), (.long q3)])
        refine own_go (fun _ => XS.lsub X0.here hx rfl (hb hby d1_24) rfl) ?_
        show own_G p e below Φ s₁ (mkF m 25 #[.val (.int p1), .val (.long q2), .second, .val (.long q3), .second] [(.long (q3 - (1 : Int64)))])
        rw [hΦ]
        refine own_ret X0 (v := some (.long (q3 - (1 : Int64)))) (fun h => by rw [Bd.returns] at h; cases h) (BodyLoose.notSynchronized Bd) (fun fs hr => retOut X0 hx Bd.returns rfl (Or.inr (Or.inl ⟨rfl, rfl, _, rfl⟩)) (hb hby d1_25) hr) ?_ (by decide) (by decide)
        rw [e0]
        exact ⟨(by simp [own_pick, hc1, hc8, hc15]), N0, rfl⟩
theorem d3_0 : decode jdk_30_method_1_code 0 = .ok (.aload_n 0, 1) := by decide +kernel
theorem d3_1 : decode jdk_30_method_1_code 1 = .ok (.invokespecial 1, 3) := by decide +kernel
theorem wd_15 {Z : State} {a0 : Array Value} (hw : ∀ d ∈ tables_1, d.before a0 Z = true) : ((Jvm.Cond.methodLink "java/lang/Record" (1 : Nat) ({ cls := "java/lang/Object", name := "<init>", desc := "()V" } : Jvm.MethodName)) : Jvm.Cond).before a0 Z = true := hw _ (List.mem_of_getElem? (i := 15) rfl)
theorem wd_16 {Z : State} {a0 : Array Value} (hw : ∀ d ∈ tables_1, d.before a0 Z = true) : ((Jvm.Cond.instanceMethod ({ cls := "java/lang/Object", name := "<init>", desc := "()V" } : Jvm.MethodName)) : Jvm.Cond).before a0 Z = true := hw _ (List.mem_of_getElem? (i := 16) rfl)
theorem wd_17 {Z : State} {a0 : Array Value} (hw : ∀ d ∈ tables_1, d.before a0 Z = true) : ((Jvm.Cond.code ({ cls := "java/lang/Object", name := "<init>", desc := "()V" } : Jvm.MethodName) object_method_1_code (1 : Nat) (Option.none : Option Jvm.ClassFile.FieldType)) : Jvm.Cond).before a0 Z = true := hw _ (List.mem_of_getElem? (i := 17) rfl)
theorem d3_4 : decode jdk_30_method_1_code 4 = .ok (.return_, 1) := by decide +kernel
theorem pn_1 : plainName "java/lang/Record" = true := by first | (simp [plainName, overriddenIn]; done) | decide +kernel
theorem ef_rm3 (m : MethodId) (a1 : Addr) : entryFrame m #[(.ref a1)] 1 = mkF m 0 #[.val (.ref a1)] [] := by first | (simp [entryFrame, mkF, argsToLocals, Value.category]; done) | rfl
def Q_rm3 (Z : State) (a1 : Addr) (h0 : Heap) (n0 : Nat) (v : Option Value) (h : Heap) (L : List Loc) : Prop := v = none ∧ Fr n0 L ∧ h = h0
set_option maxRecDepth 65536 in
set_option maxHeartbeats 40000000 in
theorem rm3 (l : Launch) (Z : State) (a0 : Array Value) (hw : ∀ d ∈ tables_1, d.before a0 Z = true) (ws : List Jvm.Cond) (a1 : Addr) (h0 : Heap) (n0 : Nat) (Z0 : n0 ≤ h0.size)  :
    MetFree l (⟨"java/lang/Record", "<init>", "()V"⟩ : MethodName) (head1 (Jvm.Cond.code (⟨"java/lang/Record", "<init>", "()V"⟩ : MethodName) jdk_30_method_1_code 1 none :: ws) ({ frames := 1, cells := 0, slots := 0, locals := 12 } : Room)) (fun a U => a = #[(.ref a1)] ∧ Z.Warmed39 U.vm ∧ U.heap = h0) (fun _ _ _ _ _ => True) (fun _ U o U' => ∃ v L, o = .returned v ∧ Q_rm3 Z a1 h0 n0 v U'.heap L ∧ FrameEnd U o U' L ({ frames := 1, cells := 0, slots := 0, locals := 12 } : Room).cells ({ frames := 1, cells := 0, slots := 0, locals := 12 } : Room).slots) := by
  refine MetFree.of_bodySF (plainFor_of_name pn_1) hisR ?_
  intro p e s m args below meth c s₁ Bd hml0 hP hK
  obtain ⟨rfl, hZ, hh⟩ := hP
  have hx := Bd.exec
  have hby := Bd.bytes
  have hml : c.maxLocals = 1 := hml0
  have hown : s.vm.findClass "java/lang/Record" = some m.cls := findClass_of_methodNamed Bd.named
  have hnm := (name_of_methodNamed Bd.named Bd.method).1
  have X0 : Stand p l e ({ frames := 1, cells := 0, slots := 0, locals := 12 } : Room) s m #[(.ref a1)] below meth c s₁ [] 0 0 := Stand.of_body Bd
  have e0 : s₁.heap = h0 := by rw [← hh, Bd.state]; rfl
  have N0 := Fr.nil n0
  suffices G0 : own_G p e below (own_E s below (Q_rm3 Z a1 h0 n0) ({ frames := 1, cells := 0, slots := 0, locals := 12 } : Room).cells ({ frames := 1, cells := 0, slots := 0, locals := 12 } : Room).slots) s₁ (mkF m 0 #[.val (.ref a1)] []) by
    obtain ⟨zt, zst, zo, zq1, zq2, zq3⟩ := G0
    exact ⟨zt, zo, castTop (ef_rm3 m a1) zst, zq1, zq2, zq3⟩
  obtain ⟨Φ, hΦ⟩ : ∃ Φ, Φ = own_E s below (Q_rm3 Z a1 h0 n0) ({ frames := 1, cells := 0, slots := 0, locals := 12 } : Room).cells ({ frames := 1, cells := 0, slots := 0, locals := 12 } : Room).slots := ⟨_, rfl⟩
  rw [← hΦ]
  show own_G p e below Φ s₁ (mkF m 0 #[.val (.ref a1)] [])
  refine own_go (fun _ => XS.aloadN X0.here hx rfl (hb hby d3_0) rfl rfl) ?_
  show own_G p e below Φ s₁ (mkF m 1 #[.val (.ref a1)] [(.ref a1)])
  obtain ⟨T1, X1, e1, st1⟩ := initO X0 hx hZ hown (wd_15 hw) (wd_16 hw) (wd_17 hw) e0 (g := (mkF m 1 #[.val (.ref a1)] [(.ref a1)])) rfl (by rw [hml]; rfl) rfl (hb hby d3_1) (by decide) (W := 0) (by show 2 * 0 + _ ≤ _; exact Nat.le_of_eq rfl) (by decide)
  refine own_go st1 ?_
  show own_G p e below Φ T1 (mkF m 4 #[.val (.ref a1)] [])
  rw [hΦ]
  refine own_ret X1 (v := none) (fun _ => rfl) (BodyLoose.notSynchronized Bd) (fun fs hr => X1.returnOut hx Bd.returns (hb hby d3_4) hr) ?_ (by decide) (by decide)
  rw [e1]
  exact ⟨rfl, N0, rfl⟩
theorem d2_0 : decode prog_164_method_1_code 0 = .ok (.aload_n 0, 1) := by decide +kernel
theorem d2_1 : decode prog_164_method_1_code 1 = .ok (.invokespecial 1, 3) := by decide +kernel
theorem wd_10 {Z : State} {a0 : Array Value} (hw : ∀ d ∈ tables_1, d.before a0 Z = true) : ((Jvm.Cond.methodLink "com/example/brickwork/brickwork/wire/Protocol$SavedCopy" (1 : Nat) ({ cls := "java/lang/Record", name := "<init>", desc := "()V" } : Jvm.MethodName)) : Jvm.Cond).before a0 Z = true := hw _ (List.mem_of_getElem? (i := 10) rfl)
theorem wd_14 {Z : State} {a0 : Array Value} (hw : ∀ d ∈ tables_1, d.before a0 Z = true) : ((Jvm.Cond.code ({ cls := "java/lang/Record", name := "<init>", desc := "()V" } : Jvm.MethodName) jdk_30_method_1_code (1 : Nat) (Option.none : Option Jvm.ClassFile.FieldType)) : Jvm.Cond).before a0 Z = true := hw _ (List.mem_of_getElem? (i := 14) rfl)
theorem wd_13 {Z : State} {a0 : Array Value} (hw : ∀ d ∈ tables_1, d.before a0 Z = true) : ((Jvm.Cond.initialized "java/lang/Record") : Jvm.Cond).before a0 Z = true := hw _ (List.mem_of_getElem? (i := 13) rfl)
theorem pd_0 : parseMethodDescriptor "()V" = some ⟨[], none⟩ := by decide +kernel
theorem wd_11 {Z : State} {a0 : Array Value} (hw : ∀ d ∈ tables_1, d.before a0 Z = true) : ((Jvm.Cond.instanceMethod ({ cls := "java/lang/Record", name := "<init>", desc := "()V" } : Jvm.MethodName)) : Jvm.Cond).before a0 Z = true := hw _ (List.mem_of_getElem? (i := 11) rfl)
theorem d2_4 : decode prog_164_method_1_code 4 = .ok (.aload_n 0, 1) := by decide +kernel
theorem d2_5 : decode prog_164_method_1_code 5 = .ok (.lload_n 1, 1) := by decide +kernel
theorem d2_6 : decode prog_164_method_1_code 6 = .ok (.putfield 7, 3) := by decide +kernel
theorem wd_18 {Z : State} {a0 : Array Value} (hw : ∀ d ∈ tables_1, d.before a0 Z = true) : ((Jvm.Cond.fieldLink "com/example/brickwork/brickwork/wire/Protocol$SavedCopy" (7 : Nat) "com/example/brickwork/brickwork/wire/Protocol$SavedCopy" "stopped" "J") : Jvm.Cond).before a0 Z = true := hw _ (List.mem_of_getElem? (i := 18) rfl)
theorem wd_19 {Z : State} {a0 : Array Value} (hw : ∀ d ∈ tables_1, d.before a0 Z = true) : ((Jvm.Cond.laysFinal "com/example/brickwork/brickwork/wire/Protocol$SavedCopy" "com/example/brickwork/brickwork/wire/Protocol$SavedCopy" "stopped" "J") : Jvm.Cond).before a0 Z = true := hw _ (List.mem_of_getElem? (i := 19) rfl)
theorem wd_5 {Z : State} {a0 : Array Value} (hw : ∀ d ∈ tables_1, d.before a0 Z = true) : ((Jvm.Cond.instantiable "com/example/brickwork/brickwork/wire/Protocol$SavedCopy" (3 : Nat)) : Jvm.Cond).before a0 Z = true := hw _ (List.mem_of_getElem? (i := 5) rfl)
theorem d2_9 : decode prog_164_method_1_code 9 = .ok (.aload_n 0, 1) := by decide +kernel
theorem d2_10 : decode prog_164_method_1_code 10 = .ok (.lload_n 3, 1) := by decide +kernel
theorem d2_11 : decode prog_164_method_1_code 11 = .ok (.putfield 13, 3) := by decide +kernel
theorem wd_20 {Z : State} {a0 : Array Value} (hw : ∀ d ∈ tables_1, d.before a0 Z = true) : ((Jvm.Cond.fieldLink "com/example/brickwork/brickwork/wire/Protocol$SavedCopy" (13 : Nat) "com/example/brickwork/brickwork/wire/Protocol$SavedCopy" "version" "J") : Jvm.Cond).before a0 Z = true := hw _ (List.mem_of_getElem? (i := 20) rfl)
theorem wd_21 {Z : State} {a0 : Array Value} (hw : ∀ d ∈ tables_1, d.before a0 Z = true) : ((Jvm.Cond.laysFinal "com/example/brickwork/brickwork/wire/Protocol$SavedCopy" "com/example/brickwork/brickwork/wire/Protocol$SavedCopy" "version" "J") : Jvm.Cond).before a0 Z = true := hw _ (List.mem_of_getElem? (i := 21) rfl)
theorem sl_0 {Z : State} {a0 : Array Value} (hw : ∀ d ∈ tables_1, d.before a0 Z = true) : Jvm.RoadKit.slotOf Z "com/example/brickwork/brickwork/wire/Protocol$SavedCopy" "version" "J" ≠ Jvm.RoadKit.slotOf Z "com/example/brickwork/brickwork/wire/Protocol$SavedCopy" "stopped" "J" := slot_ne (C := "com/example/brickwork/brickwork/wire/Protocol$SavedCopy") (Or.inr (wd_21 hw)) (Or.inr (wd_19 hw)) (by decide) (t := .long) (t' := .long) (by decide) (by decide)
theorem d2_14 : decode prog_164_method_1_code 14 = .ok (.aload_n 0, 1) := by decide +kernel
theorem d2_15 : decode prog_164_method_1_code 15 = .ok (.lload 5, 2) := by decide +kernel
theorem d2_17 : decode prog_164_method_1_code 17 = .ok (.putfield 16, 3) := by decide +kernel
theorem wd_22 {Z : State} {a0 : Array Value} (hw : ∀ d ∈ tables_1, d.before a0 Z = true) : ((Jvm.Cond.fieldLink "com/example/brickwork/brickwork/wire/Protocol$SavedCopy" (16 : Nat) "com/example/brickwork/brickwork/wire/Protocol$SavedCopy" "keys" "J") : Jvm.Cond).before a0 Z = true := hw _ (List.mem_of_getElem? (i := 22) rfl)
theorem wd_23 {Z : State} {a0 : Array Value} (hw : ∀ d ∈ tables_1, d.before a0 Z = true) : ((Jvm.Cond.laysFinal "com/example/brickwork/brickwork/wire/Protocol$SavedCopy" "com/example/brickwork/brickwork/wire/Protocol$SavedCopy" "keys" "J") : Jvm.Cond).before a0 Z = true := hw _ (List.mem_of_getElem? (i := 23) rfl)
theorem sl_1 {Z : State} {a0 : Array Value} (hw : ∀ d ∈ tables_1, d.before a0 Z = true) : Jvm.RoadKit.slotOf Z "com/example/brickwork/brickwork/wire/Protocol$SavedCopy" "keys" "J" ≠ Jvm.RoadKit.slotOf Z "com/example/brickwork/brickwork/wire/Protocol$SavedCopy" "stopped" "J" := slot_ne (C := "com/example/brickwork/brickwork/wire/Protocol$SavedCopy") (Or.inr (wd_23 hw)) (Or.inr (wd_19 hw)) (by decide) (t := .long) (t' := .long) (by decide) (by decide)
theorem sl_2 {Z : State} {a0 : Array Value} (hw : ∀ d ∈ tables_1, d.before a0 Z = true) : Jvm.RoadKit.slotOf Z "com/example/brickwork/brickwork/wire/Protocol$SavedCopy" "keys" "J" ≠ Jvm.RoadKit.slotOf Z "com/example/brickwork/brickwork/wire/Protocol$SavedCopy" "version" "J" := slot_ne (C := "com/example/brickwork/brickwork/wire/Protocol$SavedCopy") (Or.inr (wd_23 hw)) (Or.inr (wd_21 hw)) (by decide) (t := .long) (t' := .long) (by decide) (by decide)
theorem d2_20 : decode prog_164_method_1_code 20 = .ok (.return_, 1) := by decide +kernel
theorem sl_3 {Z : State} {a0 : Array Value} (hw : ∀ d ∈ tables_1, d.before a0 Z = true) : Jvm.RoadKit.slotOf Z "com/example/brickwork/brickwork/wire/Protocol$SavedCopy" "stopped" "J" ≠ Jvm.RoadKit.slotOf Z "com/example/brickwork/brickwork/wire/Protocol$SavedCopy" "version" "J" := slot_ne (C := "com/example/brickwork/brickwork/wire/Protocol$SavedCopy") (Or.inr (wd_19 hw)) (Or.inr (wd_21 hw)) (by decide) (t := .long) (t' := .long) (by decide) (by decide)
theorem sl_4 {Z : State} {a0 : Array Value} (hw : ∀ d ∈ tables_1, d.before a0 Z = true) : Jvm.RoadKit.slotOf Z "com/example/brickwork/brickwork/wire/Protocol$SavedCopy" "stopped" "J" ≠ Jvm.RoadKit.slotOf Z "com/example/brickwork/brickwork/wire/Protocol$SavedCopy" "keys" "J" := slot_ne (C := "com/example/brickwork/brickwork/wire/Protocol$SavedCopy") (Or.inr (wd_19 hw)) (Or.inr (wd_23 hw)) (by decide) (t := .long) (t' := .long) (by decide) (by decide)
theorem sl_5 {Z : State} {a0 : Array Value} (hw : ∀ d ∈ tables_1, d.before a0 Z = true) : Jvm.RoadKit.slotOf Z "com/example/brickwork/brickwork/wire/Protocol$SavedCopy" "version" "J" ≠ Jvm.RoadKit.slotOf Z "com/example/brickwork/brickwork/wire/Protocol$SavedCopy" "keys" "J" := slot_ne (C := "com/example/brickwork/brickwork/wire/Protocol$SavedCopy") (Or.inr (wd_21 hw)) (Or.inr (wd_23 hw)) (by decide) (t := .long) (t' := .long) (by decide) (by decide)
theorem pn_2 : plainName "com/example/brickwork/brickwork/wire/Protocol$SavedCopy" = true := by first | (simp [plainName, overriddenIn]; done) | decide +kernel
theorem ef_rm2 (m : MethodId) (a1 : Addr) (q0 : Int64) (q1 : Int64) (q2 : Int64) : entryFrame m #[(.ref a1), (.long q0), (.long q1), (.long q2)] 7 = mkF m 0 #[.val (.ref a1), .val (.long q0), .second, .val (.long q1), .second, .val (.long q2), .second] [] := by first | (simp [entryFrame, mkF, argsToLocals, Value.category]; done) | rfl
def Q_rm2 (Z : State) (a1 : Addr) (q0 : Int64) (q1 : Int64) (q2 : Int64) (u0 : Value) (u1 : Value) (u2 : Value) (h0 : Heap) (n0 : Nat) (v : Option Value) (h : Heap) (L : List Loc) : Prop := v = none ∧ Fr n0 L ∧ Keep h0 h [a1] ∧ Exa Z h a1 "com/example/brickwork/brickwork/wire/Protocol$SavedCopy" ∧ Fld Z h a1 "com/example/brickwork/brickwork/wire/Protocol$SavedCopy" "stopped" "J" (.long q0) ∧ Fld Z h a1 "com/example/brickwork/brickwork/wire/Protocol$SavedCopy" "version" "J" (.long q1) ∧ Fld Z h a1 "com/example/brickwork/brickwork/wire/Protocol$SavedCopy" "keys" "J" (.long q2)
set_option maxRecDepth 65536 in
set_option maxHeartbeats 40000000 in
theorem rm2 (l : Launch) (Z : State) (a0 : Array Value) (hw : ∀ d ∈ tables_1, d.before a0 Z = true) (ws : List Jvm.Cond) (a1 : Addr) (q0 : Int64) (q1 : Int64) (q2 : Int64) (u0 : Value) (u1 : Value) (u2 : Value) (h0 : Heap) (n0 : Nat) (Z0 : n0 ≤ h0.size) (E_a1 : Exa Z h0 a1 "com/example/brickwork/brickwork/wire/Protocol$SavedCopy") (F_stopped_a1 : Fld Z h0 a1 "com/example/brickwork/brickwork/wire/Protocol$SavedCopy" "stopped" "J" u0) (F_version_a1 : Fld Z h0 a1 "com/example/brickwork/brickwork/wire/Protocol$SavedCopy" "version" "J" u1) (F_keys_a1 : Fld Z h0 a1 "com/example/brickwork/brickwork/wire/Protocol$SavedCopy" "keys" "J" u2) (g_a1 : n0 ≤ a1) :
    MetFree l (⟨"com/example/brickwork/brickwork/wire/Protocol$SavedCopy", "<init>", "(JJJ)V"⟩ : MethodName) (head1 (Jvm.Cond.code (⟨"com/example/brickwork/brickwork/wire/Protocol$SavedCopy", "<init>", "(JJJ)V"⟩ : MethodName) prog_164_method_1_code 7 none :: ws) ({ frames := 2, cells := 0, slots := 0, locals := 24 } : Room)) (fun a U => a = #[(.ref a1), (.long q0), (.long q1), (.long q2)] ∧ Z.Warmed39 U.vm ∧ U.heap = h0) (fun _ _ _ _ _ => True) (fun _ U o U' => ∃ v L, o = .returned v ∧ Q_rm2 Z a1 q0 q1 q2 u0 u1 u2 h0 n0 v U'.heap L ∧ FrameEnd U o U' L ({ frames := 2, cells := 0, slots := 0, locals := 24 } : Room).cells ({ frames := 2, cells := 0, slots := 0, locals := 24 } : Room).slots) := by
  refine MetFree.of_bodySF (plainFor_of_name pn_2) hisR ?_
  intro p e s m args below meth c s₁ Bd hml0 hP hK
  obtain ⟨rfl, hZ, hh⟩ := hP
  have hx := Bd.exec
  have hby := Bd.bytes
  have hml : c.maxLocals = 7 := hml0
  have hown : s.vm.findClass "com/example/brickwork/brickwork/wire/Protocol$SavedCopy" = some m.cls := findClass_of_methodNamed Bd.named
  have hnm := (name_of_methodNamed Bd.named Bd.method).1
  have X0 : Stand p l e ({ frames := 2, cells := 0, slots := 0, locals := 24 } : Room) s m #[(.ref a1), (.long q0), (.long q1), (.long q2)] below meth c s₁ [] 0 0 := Stand.of_body Bd
  have e0 : s₁.heap = h0 := by rw [← hh, Bd.state]; rfl
  have N0 := Fr.nil n0
  have K0 : Keep h0 h0 [a1] := Keep.refl _ _
  suffices G0 : own_G p e below (own_E s below (Q_rm2 Z a1 q0 q1 q2 u0 u1 u2 h0 n0) ({ frames := 2, cells := 0, slots := 0, locals := 24 } : Room).cells ({ frames := 2, cells := 0, slots := 0, locals := 24 } : Room).slots) s₁ (mkF m 0 #[.val (.ref a1), .val (.long q0), .second, .val (.long q1), .second, .val (.long q2), .second] []) by
    obtain ⟨zt, zst, zo, zq1, zq2, zq3⟩ := G0
    exact ⟨zt, zo, castTop (ef_rm2 m a1 q0 q1 q2) zst, zq1, zq2, zq3⟩
  obtain ⟨Φ, hΦ⟩ : ∃ Φ, Φ = own_E s below (Q_rm2 Z a1 q0 q1 q2 u0 u1 u2 h0 n0) ({ frames := 2, cells := 0, slots := 0, locals := 24 } : Room).cells ({ frames := 2, cells := 0, slots := 0, locals := 24 } : Room).slots := ⟨_, rfl⟩
  rw [← hΦ]
  show own_G p e below Φ s₁ (mkF m 0 #[.val (.ref a1), .val (.long q0), .second, .val (.long q1), .second, .val (.long q2), .second] [])
  refine own_go (fun _ => XS.aloadN X0.here hx rfl (hb hby d2_0) rfl rfl) ?_
  show own_G p e below Φ s₁ (mkF m 1 #[.val (.ref a1), .val (.long q0), .second, .val (.long q1), .second, .val (.long q2), .second] [(.ref a1)])
  obtain ⟨_, _, ⟨T1, L1, k1, n1⟩, -, X1, ⟨Lc1, hQ1, l1, y1, z1⟩, st1⟩ := X0.specialBack hx (y := (⟨"java/lang/Record", "<init>", "()V"⟩ : MethodName)) rfl hown (mvT hZ (wd_10 hw)) (mvT hZ (wd_11 hw)) (mvT hZ (wd_14 hw)) (by decide) (backOf (W := 0) (rm3 l Z a0 hw [] a1 h0 n0 Z0 ) hZ (wd_14 hw) (wd_13 hw) (by decide) (by decide)) (g := (mkF m 1 #[.val (.ref a1), .val (.long q0), .second, .val (.long q1), .second, .val (.long q2), .second] [(.ref a1)])) rfl (by rw [hml]; rfl) (Steps.refl _) (a := a1) (argsL := []) (rest := []) (lenOf pd_0 rfl) rfl (by show 2 * 0 + _ ≤ _; exact Nat.le_of_eq rfl) (hb hby d2_1) (fun _ _ => ⟨rfl, e0, (by decide : 0 + 0 ≤ _), (by decide : 0 + 0 ≤ _)⟩)
  dsimp only [Pt.U, Pt.locs, Pt.cells, Pt.slots] at X1 l1 y1 z1 st1 hQ1
  subst l1 y1 z1
  obtain ⟨rfl, N1q, hs1⟩ := hQ1
  have N1 := Fr.app N0 N1q
  refine own_on st1 ?_
  show own_G p e below Φ T1 (mkF m 4 #[.val (.ref a1), .val (.long q0), .second, .val (.long q1), .second, .val (.long q2), .second] [])
  refine own_go (fun _ => XS.aloadN X1.here hx rfl (hb hby d2_4) rfl rfl) ?_
  show own_G p e below Φ T1 (mkF m 5 #[.val (.ref a1), .val (.long q0), .second, .val (.long q1), .second, .val (.long q2), .second] [(.ref a1)])
  refine own_go (fun _ => XS.lloadN X1.here hx rfl (hb hby d2_5) rfl) ?_
  show own_G p e below Φ T1 (mkF m 6 #[.val (.ref a1), .val (.long q0), .second, .val (.long q1), .second, .val (.long q2), .second] [(.long q0), (.ref a1)])
  obtain ⟨T2, h2, X2, e2, W2, st2⟩ := putF X1 hx hZ hown (host := "") (Or.inl (wd_18 hw)) Via.refl hs1 F_stopped_a1 E_a1 (Or.inr ⟨(wd_19 hw), rfl, hnm⟩) (wd_5 hw) (ty := .long) (by decide) rfl rfl (g := (mkF m 6 #[.val (.ref a1), .val (.long q0), .second, .val (.long q1), .second, .val (.long q2), .second] [(.long q0), (.ref a1)])) rfl rfl (hb hby d2_6)
  refine own_go st2 ?_
  have N2 := Fr.snoc X2 N1 g_a1
  have K2 := K0.wr W2 (Or.inl (List.mem_of_getElem? (i := 0) rfl))
  have Zp2 : n0 ≤ h2.size := Nat.le_trans Z0 (Keep.of_wr W2).1
  have f2w := F_stopped_a1.same W2
  show own_G p e below Φ T2 (mkF m 9 #[.val (.ref a1), .val (.long q0), .second, .val (.long q1), .second, .val (.long q2), .second] [])
  refine own_go (fun _ => XS.aloadN X2.here hx rfl (hb hby d2_9) rfl rfl) ?_
  show own_G p e below Φ T2 (mkF m 10 #[.val (.ref a1), .val (.long q0), .second, .val (.long q1), .second, .val (.long q2), .second] [(.ref a1)])
  refine own_go (fun _ => XS.lloadN X2.here hx rfl (hb hby d2_10) rfl) ?_
  show own_G p e below Φ T2 (mkF m 11 #[.val (.ref a1), .val (.long q0), .second, .val (.long q1), .second, .val (.long q2), .second] [(.long q1), (.ref a1)])
  have f3 : Exa Z h2 a1 "com/example/brickwork/brickwork/wire/Protocol$SavedCopy" := E_a1.wr W2
  have f4 : Fld Z h2 a1 "com/example/brickwork/brickwork/wire/Protocol$SavedCopy" "version" "J" u1 := F_version_a1.other W2 (Or.inr (sl_0 hw))
  obtain ⟨T5, h5, X5, e5, W5, st5⟩ := putF X2 hx hZ hown (host := "") (Or.inl (wd_20 hw)) Via.refl e2 f4 f3 (Or.inr ⟨(wd_21 hw), rfl, hnm⟩) (wd_5 hw) (ty := .long) (by decide) rfl rfl (g := (mkF m 11 #[.val (.ref a1), .val (.long q0), .second, .val (.long q1), .second, .val (.long q2), .second] [(.long q1), (.ref a1)])) rfl rfl (hb hby d2_11)
  refine own_go st5 ?_
  have N5 := Fr.snoc X5 N2 g_a1
  have K5 := K2.wr W5 (Or.inl (List.mem_of_getElem? (i := 0) rfl))
  have Zp5 : n0 ≤ h5.size := Nat.le_trans Zp2 (Keep.of_wr W5).1
  have f5w := f4.same W5
  show own_G p e below Φ T5 (mkF m 14 #[.val (.ref a1), .val (.long q0), .second, .val (.long q1), .second, .val (.long q2), .second] [])
  refine own_go (fun _ => XS.aloadN X5.here hx rfl (hb hby d2_14) rfl rfl) ?_
  show own_G p e below Φ T5 (mkF m 15 #[.val (.ref a1), .val (.long q0), .second, .val (.long q1), .second, .val (.long q2), .second] [(.ref a1)])
  refine own_go (fun _ => XS.lload X5.here hx rfl (hb hby d2_15) rfl) ?_
  show own_G p e below Φ T5 (mkF m 17 #[.val (.ref a1), .val (.long q0), .second, .val (.long q1), .second, .val (.long q2), .second] [(.long q2), (.ref a1)])
  have f6 : Exa Z h5 a1 "com/example/brickwork/brickwork/wire/Protocol$SavedCopy" := f3.wr W5
  have f7 : Fld Z h2 a1 "com/example/brickwork/brickwork/wire/Protocol$SavedCopy" "keys" "J" u2 := F_keys_a1.other W2 (Or.inr (sl_1 hw))
  have f8 : Fld Z h5 a1 "com/example/brickwork/brickwork/wire/Protocol$SavedCopy" "keys" "J" u2 := f7.other W5 (Or.inr (sl_2 hw))
  obtain ⟨T9, h9, X9, e9, W9, st9⟩ := putF X5 hx hZ hown (host := "") (Or.inl (wd_22 hw)) Via.refl e5 f8 f6 (Or.inr ⟨(wd_23 hw), rfl, hnm⟩) (wd_5 hw) (ty := .long) (by decide) rfl rfl (g := (mkF m 17 #[.val (.ref a1), .val (.long q0), .second, .val (.long q1), .second, .val (.long q2), .second] [(.long q2), (.ref a1)])) rfl rfl (hb hby d2_17)
  refine own_go st9 ?_
  have N9 := Fr.snoc X9 N5 g_a1
  have K9 := K5.wr W9 (Or.inl (List.mem_of_getElem? (i := 0) rfl))
  have Zp9 : n0 ≤ h9.size := Nat.le_trans Zp5 (Keep.of_wr W9).1
  have f9w := f8.same W9
  show own_G p e below Φ T9 (mkF m 20 #[.val (.ref a1), .val (.long q0), .second, .val (.long q1), .second, .val (.long q2), .second] [])
  have f10 : Exa Z h9 a1 "com/example/brickwork/brickwork/wire/Protocol$SavedCopy" := f6.wr W9
  have f11 : Fld Z h5 a1 "com/example/brickwork/brickwork/wire/Protocol$SavedCopy" "stopped" "J" (.long q0) := f2w.other W5 (Or.inr (sl_3 hw))
  have f12 : Fld Z h9 a1 "com/example/brickwork/brickwork/wire/Protocol$SavedCopy" "stopped" "J" (.long q0) := f11.other W9 (Or.inr (sl_4 hw))
  have f13 : Fld Z h9 a1 "com/example/brickwork/brickwork/wire/Protocol$SavedCopy" "version" "J" (.long q1) := f5w.other W9 (Or.inr (sl_5 hw))
  rw [hΦ]
  refine own_ret X9 (v := none) (fun _ => rfl) (BodyLoose.notSynchronized Bd) (fun fs hr => X9.returnOut hx Bd.returns (hb hby d2_20) hr) ?_ (by decide) (by decide)
  rw [e9]
  exact ⟨rfl, N9, K9, f10, f12, f13, f9w⟩
theorem d5_0 : decode prog_164_method_2_code 0 = .ok (.aload_n 0, 1) := by decide +kernel
theorem d5_1 : decode prog_164_method_2_code 1 = .ok (.getfield 13, 3) := by decide +kernel
theorem d5_4 : decode prog_164_method_2_code 4 = .ok (.aload_n 1, 1) := by decide +kernel
theorem d5_5 : decode prog_164_method_2_code 5 = .ok (.getfield 13, 3) := by decide +kernel
theorem d5_8 : decode prog_164_method_2_code 8 = .ok (.lcmp, 1) := by decide +kernel
theorem d5_9 : decode prog_164_method_2_code 9 = .ok (.ifCond .gt 27, 3) := by decide +kernel
theorem d5_36 : decode prog_164_method_2_code 36 = .ok (.iconst 1, 1) := by decide +kernel
theorem d5_37 : decode prog_164_method_2_code 37 = .ok (.goto 4, 3) := by decide +kernel
theorem d5_41 : decode prog_164_method_2_code 41 = .ok (.ireturn, 1) := by decide +kernel
theorem d5_12 : decode prog_164_method_2_code 12 = .ok (.aload_n 0, 1) := by decide +kernel
theorem d5_13 : decode prog_164_method_2_code 13 = .ok (.getfield 13, 3) := by decide +kernel
theorem d5_16 : decode prog_164_method_2_code 16 = .ok (.aload_n 1, 1) := by decide +kernel
theorem d5_17 : decode prog_164_method_2_code 17 = .ok (.getfield 13, 3) := by decide +kernel
theorem d5_20 : decode prog_164_method_2_code 20 = .ok (.lcmp, 1) := by decide +kernel
theorem d5_21 : decode prog_164_method_2_code 21 = .ok (.ifCond .ne 19, 3) := by decide +kernel
theorem d5_24 : decode prog_164_method_2_code 24 = .ok (.aload_n 0, 1) := by decide +kernel
theorem d5_25 : decode prog_164_method_2_code 25 = .ok (.getfield 7, 3) := by decide +kernel
theorem d5_28 : decode prog_164_method_2_code 28 = .ok (.aload_n 1, 1) := by decide +kernel
theorem d5_29 : decode prog_164_method_2_code 29 = .ok (.getfield 7, 3) := by decide +kernel
theorem d5_32 : decode prog_164_method_2_code 32 = .ok (.lcmp, 1) := by decide +kernel
theorem d5_33 : decode prog_164_method_2_code 33 = .ok (.ifCond .le 7, 3) := by decide +kernel
theorem d5_40 : decode prog_164_method_2_code 40 = .ok (.iconst 0, 1) := by decide +kernel
theorem ef_rm5 (m : MethodId) (a1 : Addr) (a2 : Addr) : entryFrame m #[(.ref a1), (.ref a2)] 2 = mkF m 0 #[.val (.ref a1), .val (.ref a2)] [] := by first | (simp [entryFrame, mkF, argsToLocals, Value.category]; done) | rfl
def Q_rm5 (Z : State) (a1 : Addr) (a2 : Addr) (va : Int64) (sa : Int64) (vb : Int64) (sb : Int64) (h0 : Heap) (n0 : Nat) (v : Option Value) (h : Heap) (L : List Loc) : Prop := v = some (.int (own_newer va sa vb sb)) ∧ Fr n0 L ∧ h = h0
set_option maxRecDepth 65536 in
set_option maxHeartbeats 40000000 in
theorem rm5 (l : Launch) (Z : State) (a0 : Array Value) (hw : ∀ d ∈ tables_1, d.before a0 Z = true) (ws : List Jvm.Cond) (a1 : Addr) (a2 : Addr) (va : Int64) (sa : Int64) (vb : Int64) (sb : Int64) (h0 : Heap) (n0 : Nat) (Z0 : n0 ≤ h0.size) (F_version_a1 : Fld Z h0 a1 "com/example/brickwork/brickwork/wire/Protocol$SavedCopy" "version" "J" (.long va)) (F_stopped_a1 : Fld Z h0 a1 "com/example/brickwork/brickwork/wire/Protocol$SavedCopy" "stopped" "J" (.long sa)) (F_version_a2 : Fld Z h0 a2 "com/example/brickwork/brickwork/wire/Protocol$SavedCopy" "version" "J" (.long vb)) (F_stopped_a2 : Fld Z h0 a2 "com/example/brickwork/brickwork/wire/Protocol$SavedCopy" "stopped" "J" (.long sb)) :
    MetFree l (⟨"com/example/brickwork/brickwork/wire/Protocol$SavedCopy", "newer", "(Lcom/example/brickwork/brickwork/wire/Protocol$SavedCopy;)Z"⟩ : MethodName) (head1 (Jvm.Cond.code (⟨"com/example/brickwork/brickwork/wire/Protocol$SavedCopy", "newer", "(Lcom/example/brickwork/brickwork/wire/Protocol$SavedCopy;)Z"⟩ : MethodName) prog_164_method_2_code 2 (some .boolean) :: ws) ({ frames := 0, cells := 0, slots := 0, locals := 0 } : Room)) (fun a U => a = #[(.ref a1), (.ref a2)] ∧ Z.Warmed39 U.vm ∧ U.heap = h0) (fun _ _ _ _ _ => True) (fun _ U o U' => ∃ v L, o = .returned v ∧ Q_rm5 Z a1 a2 va sa vb sb h0 n0 v U'.heap L ∧ FrameEnd U o U' L ({ frames := 0, cells := 0, slots := 0, locals := 0 } : Room).cells ({ frames := 0, cells := 0, slots := 0, locals := 0 } : Room).slots) := by
  refine MetFree.of_bodySF (plainFor_of_name pn_2) hisR ?_
  intro p e s m args below meth c s₁ Bd hml0 hP hK
  obtain ⟨rfl, hZ, hh⟩ := hP
  have hx := Bd.exec
  have hby := Bd.bytes
  have hml : c.maxLocals = 2 := hml0
  have hown : s.vm.findClass "com/example/brickwork/brickwork/wire/Protocol$SavedCopy" = some m.cls := findClass_of_methodNamed Bd.named
  have hnm := (name_of_methodNamed Bd.named Bd.method).1
  have X0 : Stand p l e ({ frames := 0, cells := 0, slots := 0, locals := 0 } : Room) s m #[(.ref a1), (.ref a2)] below meth c s₁ [] 0 0 := Stand.of_body Bd
  have e0 : s₁.heap = h0 := by rw [← hh, Bd.state]; rfl
  have N0 := Fr.nil n0
  suffices G0 : own_G p e below (own_E s below (Q_rm5 Z a1 a2 va sa vb sb h0 n0) ({ frames := 0, cells := 0, slots := 0, locals := 0 } : Room).cells ({ frames := 0, cells := 0, slots := 0, locals := 0 } : Room).slots) s₁ (mkF m 0 #[.val (.ref a1), .val (.ref a2)] []) by
    obtain ⟨zt, zst, zo, zq1, zq2, zq3⟩ := G0
    exact ⟨zt, zo, castTop (ef_rm5 m a1 a2) zst, zq1, zq2, zq3⟩
  obtain ⟨Φ, hΦ⟩ : ∃ Φ, Φ = own_E s below (Q_rm5 Z a1 a2 va sa vb sb h0 n0) ({ frames := 0, cells := 0, slots := 0, locals := 0 } : Room).cells ({ frames := 0, cells := 0, slots := 0, locals := 0 } : Room).slots := ⟨_, rfl⟩
  rw [← hΦ]
  show own_G p e below Φ s₁ (mkF m 0 #[.val (.ref a1), .val (.ref a2)] [])
  refine own_go (fun _ => XS.aloadN X0.here hx rfl (hb hby d5_0) rfl rfl) ?_
  show own_G p e below Φ s₁ (mkF m 1 #[.val (.ref a1), .val (.ref a2)] [(.ref a1)])
  obtain ⟨T1, X1, e1, st1⟩ := getF X0 hx hZ hown (host := "") (Or.inl (wd_20 hw)) Via.refl e0 F_version_a1 (g := (mkF m 1 #[.val (.ref a1), .val (.ref a2)] [(.ref a1)])) rfl rfl (hb hby d5_1)
  refine own_go st1 ?_
  show own_G p e below Φ T1 (mkF m 4 #[.val (.ref a1), .val (.ref a2)] [(.long va)])
  refine own_go (fun _ => XS.aloadN X1.here hx rfl (hb hby d5_4) rfl rfl) ?_
  show own_G p e below Φ T1 (mkF m 5 #[.val (.ref a1), .val (.ref a2)] [(.ref a2), (.long va)])
  obtain ⟨T2, X2, e2, st2⟩ := getF X1 hx hZ hown (host := "") (Or.inl (wd_20 hw)) Via.refl e1 F_version_a2 (g := (mkF m 5 #[.val (.ref a1), .val (.ref a2)] [(.ref a2), (.long va)])) rfl rfl (hb hby d5_5)
  refine own_go st2 ?_
  show own_G p e below Φ T2 (mkF m 8 #[.val (.ref a1), .val (.ref a2)] [(.long vb), (.long va)])
  refine own_go (fun _ => XS.lcmp X2.here hx rfl (hb hby d5_8) rfl) ?_
  show own_G p e below Φ T2 (mkF m 9 #[.val (.ref a1), .val (.ref a2)] [(.int (lcmpW va vb))])
  by_cases hc9 : vb < va
  · refine own_go (fun _ => XS.ifYes X2.here hx rfl (pc0 := 9) (pc' := 36) rfl (hb hby d5_9) rfl (Jvm.Free.XT.ll_gt_t hc9) (by decide) (by decide)) ?_
    show own_G p e below Φ T2 (mkF m 36 #[.val (.ref a1), .val (.ref a2)] [])
    refine own_go (fun _ => XS.iconst X2.here hx rfl (hb hby d5_36)) ?_
    show own_G p e below Φ T2 (mkF m 37 #[.val (.ref a1), .val (.ref a2)] [(.int (1 : Int32))])
    refine own_go (fun _ => XS.goto X2.here hx rfl (pc0 := 37) (pc' := 41) rfl (hb hby d5_37) (by decide) (by decide)) ?_
    show own_G p e below Φ T2 (mkF m 41 #[.val (.ref a1), .val (.ref a2)] [(.int (1 : Int32))])
    rw [hΦ]
    refine own_ret X2 (v := some (.int (1 : Int32))) (fun h => by rw [Bd.returns] at h; cases h) (BodyLoose.notSynchronized Bd) (fun fs hr => retN X2 hx (t := .boolean) Bd.returns (by simp) (hb hby d5_41) hr) ?_ (by decide) (by decide)
    rw [e2]
    exact ⟨(by simp [own_newer, hc9]), N0, rfl⟩
  · refine own_go (fun _ => XS.ifNo X2.here hx rfl (hb hby d5_9) rfl (Jvm.Free.XT.ll_gt_f hc9)) ?_
    show own_G p e below Φ T2 (mkF m 12 #[.val (.ref a1), .val (.ref a2)] [])
    refine own_go (fun _ => XS.aloadN X2.here hx rfl (hb hby d5_12) rfl rfl) ?_
    show own_G p e below Φ T2 (mkF m 13 #[.val (.ref a1), .val (.ref a2)] [(.ref a1)])
    obtain ⟨T3, X3, e3, st3⟩ := getF X2 hx hZ hown (host := "") (Or.inl (wd_20 hw)) Via.refl e2 F_version_a1 (g := (mkF m 13 #[.val (.ref a1), .val (.ref a2)] [(.ref a1)])) rfl rfl (hb hby d5_13)
    refine own_go st3 ?_
    show own_G p e below Φ T3 (mkF m 16 #[.val (.ref a1), .val (.ref a2)] [(.long va)])
    refine own_go (fun _ => XS.aloadN X3.here hx rfl (hb hby d5_16) rfl rfl) ?_
    show own_G p e below Φ T3 (mkF m 17 #[.val (.ref a1), .val (.ref a2)] [(.ref a2), (.long va)])
    obtain ⟨T4, X4, e4, st4⟩ := getF X3 hx hZ hown (host := "") (Or.inl (wd_20 hw)) Via.refl e3 F_version_a2 (g := (mkF m 17 #[.val (.ref a1), .val (.ref a2)] [(.ref a2), (.long va)])) rfl rfl (hb hby d5_17)
    refine own_go st4 ?_
    show own_G p e below Φ T4 (mkF m 20 #[.val (.ref a1), .val (.ref a2)] [(.long vb), (.long va)])
    refine own_go (fun _ => XS.lcmp X4.here hx rfl (hb hby d5_20) rfl) ?_
    show own_G p e below Φ T4 (mkF m 21 #[.val (.ref a1), .val (.ref a2)] [(.int (lcmpW va vb))])
    by_cases hc21 : va = vb
    · refine own_go (fun _ => XS.ifNo X4.here hx rfl (hb hby d5_21) rfl (Jvm.Free.XT.ll_ne_f hc21)) ?_
      show own_G p e below Φ T4 (mkF m 24 #[.val (.ref a1), .val (.ref a2)] [])
      refine own_go (fun _ => XS.aloadN X4.here hx rfl (hb hby d5_24) rfl rfl) ?_
      show own_G p e below Φ T4 (mkF m 25 #[.val (.ref a1), .val (.ref a2)] [(.ref a1)])
      obtain ⟨T5, X5, e5, st5⟩ := getF X4 hx hZ hown (host := "") (Or.inl (wd_18 hw)) Via.refl e4 F_stopped_a1 (g := (mkF m 25 #[.val (.ref a1), .val (.ref a2)] [(.ref a1)])) rfl rfl (hb hby d5_25)
      refine own_go st5 ?_
      show own_G p e below Φ T5 (mkF m 28 #[.val (.ref a1), .val (.ref a2)] [(.long sa)])
      refine own_go (fun _ => XS.aloadN X5.here hx rfl (hb hby d5_28) rfl rfl) ?_
      show own_G p e below Φ T5 (mkF m 29 #[.val (.ref a1), .val (.ref a2)] [(.ref a2), (.long sa)])
      obtain ⟨T6, X6, e6, st6⟩ := getF X5 hx hZ hown (host := "") (Or.inl (wd_18 hw)) Via.refl e5 F_stopped_a2 (g := (mkF m 29 #[.val (.ref a1), .val (.ref a2)] [(.ref a2), (.long sa)])) rfl rfl (hb hby d5_29)
      refine own_go st6 ?_
      show own_G p e below Φ T6 (mkF m 32 #[.val (.ref a1), .val (.ref a2)] [(.long sb), (.long sa)])
      refine own_go (fun _ => XS.lcmp X6.here hx rfl (hb hby d5_32) rfl) ?_
      show own_G p e below Φ T6 (mkF m 33 #[.val (.ref a1), .val (.ref a2)] [(.int (lcmpW sa sb))])
      by_cases hc33 : sb < sa
      · refine own_go (fun _ => XS.ifNo X6.here hx rfl (hb hby d5_33) rfl (Jvm.Free.XT.ll_le_f hc33)) ?_
        show own_G p e below Φ T6 (mkF m 36 #[.val (.ref a1), .val (.ref a2)] [])
        refine own_go (fun _ => XS.iconst X6.here hx rfl (hb hby d5_36)) ?_
        show own_G p e below Φ T6 (mkF m 37 #[.val (.ref a1), .val (.ref a2)] [(.int (1 : Int32))])
        refine own_go (fun _ => XS.goto X6.here hx rfl (pc0 := 37) (pc' := 41) rfl (hb hby d5_37) (by decide) (by decide)) ?_
        show own_G p e below Φ T6 (mkF m 41 #[.val (.ref a1), .val (.ref a2)] [(.int (1 : Int32))])
        rw [hΦ]
        refine own_ret X6 (v := some (.int (1 : Int32))) (fun h => by rw [Bd.returns] at h; cases h) (BodyLoose.notSynchronized Bd) (fun fs hr => retN X6 hx (t := .boolean) Bd.returns (by simp) (hb hby d5_41) hr) ?_ (by decide) (by decide)
        rw [e6]
        exact ⟨(by simp [own_newer, hc9, hc21, hc33]), N0, rfl⟩
      · refine own_go (fun _ => XS.ifYes X6.here hx rfl (pc0 := 33) (pc' := 40) rfl (hb hby d5_33) rfl (Jvm.Free.XT.ll_le_t hc33) (by decide) (by decide)) ?_
        show own_G p e below Φ T6 (mkF m 40 #[.val (.ref a1), .val (.ref a2)] [])
        refine own_go (fun _ => XS.iconst X6.here hx rfl (hb hby d5_40)) ?_
        show own_G p e below Φ T6 (mkF m 41 #[.val (.ref a1), .val (.ref a2)] [(.int (0 : Int32))])
        rw [hΦ]
        refine own_ret X6 (v := some (.int (0 : Int32))) (fun h => by rw [Bd.returns] at h; cases h) (BodyLoose.notSynchronized Bd) (fun fs hr => retN X6 hx (t := .boolean) Bd.returns (by simp) (hb hby d5_41) hr) ?_ (by decide) (by decide)
        rw [e6]
        exact ⟨(by simp [own_newer, hc9, hc21, hc33]), N0, rfl⟩
    · refine own_go (fun _ => XS.ifYes X4.here hx rfl (pc0 := 21) (pc' := 40) rfl (hb hby d5_21) rfl (Jvm.Free.XT.ll_ne_t hc21) (by decide) (by decide)) ?_
      show own_G p e below Φ T4 (mkF m 40 #[.val (.ref a1), .val (.ref a2)] [])
      refine own_go (fun _ => XS.iconst X4.here hx rfl (hb hby d5_40)) ?_
      show own_G p e below Φ T4 (mkF m 41 #[.val (.ref a1), .val (.ref a2)] [(.int (0 : Int32))])
      rw [hΦ]
      refine own_ret X4 (v := some (.int (0 : Int32))) (fun h => by rw [Bd.returns] at h; cases h) (BodyLoose.notSynchronized Bd) (fun fs hr => retN X4 hx (t := .boolean) Bd.returns (by simp) (hb hby d5_41) hr) ?_ (by decide) (by decide)
      rw [e4]
      exact ⟨(by simp [own_newer, hc9, hc21]), N0, rfl⟩
theorem d6_0 : decode method_3_code 0 = .ok (.lload_n 2, 1) := by decide +kernel
theorem d6_1 : decode method_3_code 1 = .ok (.lload 6, 2) := by decide +kernel
theorem d6_3 : decode method_3_code 3 = .ok (.lcmp, 1) := by decide +kernel
theorem d6_4 : decode method_3_code 4 = .ok (.ifCond .le 5, 3) := by decide +kernel
theorem d6_7 : decode method_3_code 7 = .ok (.iconst 1, 1) := by decide +kernel
theorem d6_8 : decode method_3_code 8 = .ok (.ireturn, 1) := by decide +kernel
theorem d6_9 : decode method_3_code 9 = .ok (.lload_n 2, 1) := by decide +kernel
theorem d6_10 : decode method_3_code 10 = .ok (.lload 6, 2) := by decide +kernel
theorem d6_12 : decode method_3_code 12 = .ok (.lcmp, 1) := by decide +kernel
theorem d6_13 : decode method_3_code 13 = .ok (.ifCond .ge 5, 3) := by decide +kernel
theorem d6_16 : decode method_3_code 16 = .ok (.iconst 0, 1) := by decide +kernel
theorem d6_17 : decode method_3_code 17 = .ok (.ireturn, 1) := by decide +kernel
theorem d6_18 : decode method_3_code 18 = .ok (.lload_n 0, 1) := by decide +kernel
theorem d6_19 : decode method_3_code 19 = .ok (.lload 4, 2) := by decide +kernel
theorem d6_21 : decode method_3_code 21 = .ok (.lcmp, 1) := by decide +kernel
theorem d6_22 : decode method_3_code 22 = .ok (.ifCond .le 7, 3) := by decide +kernel
theorem d6_25 : decode method_3_code 25 = .ok (.iconst 1, 1) := by decide +kernel
theorem d6_26 : decode method_3_code 26 = .ok (.goto 4, 3) := by decide +kernel
theorem d6_30 : decode method_3_code 30 = .ok (.ireturn, 1) := by decide +kernel
theorem d6_29 : decode method_3_code 29 = .ok (.iconst 0, 1) := by decide +kernel
theorem ef_rm6 (m : MethodId) (sa : Int64) (va : Int64) (sb : Int64) (vb : Int64) : entryFrame m #[(.long sa), (.long va), (.long sb), (.long vb)] 8 = mkF m 0 #[.val (.long sa), .second, .val (.long va), .second, .val (.long sb), .second, .val (.long vb), .second] [] := by first | (simp [entryFrame, mkF, argsToLocals, Value.category]; done) | rfl
def Q_rm6 (Z : State) (sa : Int64) (va : Int64) (sb : Int64) (vb : Int64) (h0 : Heap) (n0 : Nat) (v : Option Value) (h : Heap) (L : List Loc) : Prop := v = some (.int (own_ref sa va sb vb)) ∧ Fr n0 L ∧ h = h0
set_option maxRecDepth 65536 in
set_option maxHeartbeats 40000000 in
theorem rm6 (l : Launch) (Z : State) (a0 : Array Value) (hw : ∀ d ∈ tables_1, d.before a0 Z = true) (ws : List Jvm.Cond) (sa : Int64) (va : Int64) (sb : Int64) (vb : Int64) (h0 : Heap) (n0 : Nat) (Z0 : n0 ≤ h0.size)  :
    MetFree l (⟨"com/example/brickwork/brickwork/wire/SavedCopyNewerPinLaw", "ref", "(JJJJ)Z"⟩ : MethodName) (head1 (Jvm.Cond.code (⟨"com/example/brickwork/brickwork/wire/SavedCopyNewerPinLaw", "ref", "(JJJJ)Z"⟩ : MethodName) method_3_code 8 (some .boolean) :: ws) ({ frames := 0, cells := 0, slots := 0, locals := 0 } : Room)) (fun a U => a = #[(.long sa), (.long va), (.long sb), (.long vb)] ∧ Z.Warmed39 U.vm ∧ U.heap = h0) (fun _ _ _ _ _ => True) (fun _ U o U' => ∃ v L, o = .returned v ∧ Q_rm6 Z sa va sb vb h0 n0 v U'.heap L ∧ FrameEnd U o U' L ({ frames := 0, cells := 0, slots := 0, locals := 0 } : Room).cells ({ frames := 0, cells := 0, slots := 0, locals := 0 } : Room).slots) := by
  refine MetFree.of_bodySF (plainFor_of_name pn_0) hisR ?_
  intro p e s m args below meth c s₁ Bd hml0 hP hK
  obtain ⟨rfl, hZ, hh⟩ := hP
  have hx := Bd.exec
  have hby := Bd.bytes
  have hml : c.maxLocals = 8 := hml0
  have hown : s.vm.findClass "com/example/brickwork/brickwork/wire/SavedCopyNewerPinLaw" = some m.cls := findClass_of_methodNamed Bd.named
  have hnm := (name_of_methodNamed Bd.named Bd.method).1
  have X0 : Stand p l e ({ frames := 0, cells := 0, slots := 0, locals := 0 } : Room) s m #[(.long sa), (.long va), (.long sb), (.long vb)] below meth c s₁ [] 0 0 := Stand.of_body Bd
  have e0 : s₁.heap = h0 := by rw [← hh, Bd.state]; rfl
  have N0 := Fr.nil n0
  suffices G0 : own_G p e below (own_E s below (Q_rm6 Z sa va sb vb h0 n0) ({ frames := 0, cells := 0, slots := 0, locals := 0 } : Room).cells ({ frames := 0, cells := 0, slots := 0, locals := 0 } : Room).slots) s₁ (mkF m 0 #[.val (.long sa), .second, .val (.long va), .second, .val (.long sb), .second, .val (.long vb), .second] []) by
    obtain ⟨zt, zst, zo, zq1, zq2, zq3⟩ := G0
    exact ⟨zt, zo, castTop (ef_rm6 m sa va sb vb) zst, zq1, zq2, zq3⟩
  obtain ⟨Φ, hΦ⟩ : ∃ Φ, Φ = own_E s below (Q_rm6 Z sa va sb vb h0 n0) ({ frames := 0, cells := 0, slots := 0, locals := 0 } : Room).cells ({ frames := 0, cells := 0, slots := 0, locals := 0 } : Room).slots := ⟨_, rfl⟩
  rw [← hΦ]
  show own_G p e below Φ s₁ (mkF m 0 #[.val (.long sa), .second, .val (.long va), .second, .val (.long sb), .second, .val (.long vb), .second] [])
  refine own_go (fun _ => XS.lloadN X0.here hx rfl (hb hby d6_0) rfl) ?_
  show own_G p e below Φ s₁ (mkF m 1 #[.val (.long sa), .second, .val (.long va), .second, .val (.long sb), .second, .val (.long vb), .second] [(.long va)])
  refine own_go (fun _ => XS.lload X0.here hx rfl (hb hby d6_1) rfl) ?_
  show own_G p e below Φ s₁ (mkF m 3 #[.val (.long sa), .second, .val (.long va), .second, .val (.long sb), .second, .val (.long vb), .second] [(.long vb), (.long va)])
  refine own_go (fun _ => XS.lcmp X0.here hx rfl (hb hby d6_3) rfl) ?_
  show own_G p e below Φ s₁ (mkF m 4 #[.val (.long sa), .second, .val (.long va), .second, .val (.long sb), .second, .val (.long vb), .second] [(.int (lcmpW va vb))])
  by_cases hc4 : vb < va
  · refine own_go (fun _ => XS.ifNo X0.here hx rfl (hb hby d6_4) rfl (Jvm.Free.XT.ll_le_f hc4)) ?_
    show own_G p e below Φ s₁ (mkF m 7 #[.val (.long sa), .second, .val (.long va), .second, .val (.long sb), .second, .val (.long vb), .second] [])
    refine own_go (fun _ => XS.iconst X0.here hx rfl (hb hby d6_7)) ?_
    show own_G p e below Φ s₁ (mkF m 8 #[.val (.long sa), .second, .val (.long va), .second, .val (.long sb), .second, .val (.long vb), .second] [(.int (1 : Int32))])
    rw [hΦ]
    refine own_ret X0 (v := some (.int (1 : Int32))) (fun h => by rw [Bd.returns] at h; cases h) (BodyLoose.notSynchronized Bd) (fun fs hr => retN X0 hx (t := .boolean) Bd.returns (by simp) (hb hby d6_8) hr) ?_ (by decide) (by decide)
    rw [e0]
    exact ⟨(by simp [own_ref, hc4]), N0, rfl⟩
  · refine own_go (fun _ => XS.ifYes X0.here hx rfl (pc0 := 4) (pc' := 9) rfl (hb hby d6_4) rfl (Jvm.Free.XT.ll_le_t hc4) (by decide) (by decide)) ?_
    show own_G p e below Φ s₁ (mkF m 9 #[.val (.long sa), .second, .val (.long va), .second, .val (.long sb), .second, .val (.long vb), .second] [])
    refine own_go (fun _ => XS.lloadN X0.here hx rfl (hb hby d6_9) rfl) ?_
    show own_G p e below Φ s₁ (mkF m 10 #[.val (.long sa), .second, .val (.long va), .second, .val (.long sb), .second, .val (.long vb), .second] [(.long va)])
    refine own_go (fun _ => XS.lload X0.here hx rfl (hb hby d6_10) rfl) ?_
    show own_G p e below Φ s₁ (mkF m 12 #[.val (.long sa), .second, .val (.long va), .second, .val (.long sb), .second, .val (.long vb), .second] [(.long vb), (.long va)])
    refine own_go (fun _ => XS.lcmp X0.here hx rfl (hb hby d6_12) rfl) ?_
    show own_G p e below Φ s₁ (mkF m 13 #[.val (.long sa), .second, .val (.long va), .second, .val (.long sb), .second, .val (.long vb), .second] [(.int (lcmpW va vb))])
    by_cases hc13 : va < vb
    · refine own_go (fun _ => XS.ifNo X0.here hx rfl (hb hby d6_13) rfl (Jvm.Free.XT.ll_ge_f hc13)) ?_
      show own_G p e below Φ s₁ (mkF m 16 #[.val (.long sa), .second, .val (.long va), .second, .val (.long sb), .second, .val (.long vb), .second] [])
      refine own_go (fun _ => XS.iconst X0.here hx rfl (hb hby d6_16)) ?_
      show own_G p e below Φ s₁ (mkF m 17 #[.val (.long sa), .second, .val (.long va), .second, .val (.long sb), .second, .val (.long vb), .second] [(.int (0 : Int32))])
      rw [hΦ]
      refine own_ret X0 (v := some (.int (0 : Int32))) (fun h => by rw [Bd.returns] at h; cases h) (BodyLoose.notSynchronized Bd) (fun fs hr => retN X0 hx (t := .boolean) Bd.returns (by simp) (hb hby d6_17) hr) ?_ (by decide) (by decide)
      rw [e0]
      exact ⟨(by simp [own_ref, hc4, hc13]), N0, rfl⟩
    · refine own_go (fun _ => XS.ifYes X0.here hx rfl (pc0 := 13) (pc' := 18) rfl (hb hby d6_13) rfl (Jvm.Free.XT.ll_ge_t hc13) (by decide) (by decide)) ?_
      show own_G p e below Φ s₁ (mkF m 18 #[.val (.long sa), .second, .val (.long va), .second, .val (.long sb), .second, .val (.long vb), .second] [])
      refine own_go (fun _ => XS.lloadN X0.here hx rfl (hb hby d6_18) rfl) ?_
      show own_G p e below Φ s₁ (mkF m 19 #[.val (.long sa), .second, .val (.long va), .second, .val (.long sb), .second, .val (.long vb), .second] [(.long sa)])
      refine own_go (fun _ => XS.lload X0.here hx rfl (hb hby d6_19) rfl) ?_
      show own_G p e below Φ s₁ (mkF m 21 #[.val (.long sa), .second, .val (.long va), .second, .val (.long sb), .second, .val (.long vb), .second] [(.long sb), (.long sa)])
      refine own_go (fun _ => XS.lcmp X0.here hx rfl (hb hby d6_21) rfl) ?_
      show own_G p e below Φ s₁ (mkF m 22 #[.val (.long sa), .second, .val (.long va), .second, .val (.long sb), .second, .val (.long vb), .second] [(.int (lcmpW sa sb))])
      by_cases hc22 : sb < sa
      · refine own_go (fun _ => XS.ifNo X0.here hx rfl (hb hby d6_22) rfl (Jvm.Free.XT.ll_le_f hc22)) ?_
        show own_G p e below Φ s₁ (mkF m 25 #[.val (.long sa), .second, .val (.long va), .second, .val (.long sb), .second, .val (.long vb), .second] [])
        refine own_go (fun _ => XS.iconst X0.here hx rfl (hb hby d6_25)) ?_
        show own_G p e below Φ s₁ (mkF m 26 #[.val (.long sa), .second, .val (.long va), .second, .val (.long sb), .second, .val (.long vb), .second] [(.int (1 : Int32))])
        refine own_go (fun _ => XS.goto X0.here hx rfl (pc0 := 26) (pc' := 30) rfl (hb hby d6_26) (by decide) (by decide)) ?_
        show own_G p e below Φ s₁ (mkF m 30 #[.val (.long sa), .second, .val (.long va), .second, .val (.long sb), .second, .val (.long vb), .second] [(.int (1 : Int32))])
        rw [hΦ]
        refine own_ret X0 (v := some (.int (1 : Int32))) (fun h => by rw [Bd.returns] at h; cases h) (BodyLoose.notSynchronized Bd) (fun fs hr => retN X0 hx (t := .boolean) Bd.returns (by simp) (hb hby d6_30) hr) ?_ (by decide) (by decide)
        rw [e0]
        exact ⟨(by simp [own_ref, hc4, hc13, hc22]), N0, rfl⟩
      · refine own_go (fun _ => XS.ifYes X0.here hx rfl (pc0 := 22) (pc' := 29) rfl (hb hby d6_22) rfl (Jvm.Free.XT.ll_le_t hc22) (by decide) (by decide)) ?_
        show own_G p e below Φ s₁ (mkF m 29 #[.val (.long sa), .second, .val (.long va), .second, .val (.long sb), .second, .val (.long vb), .second] [])
        refine own_go (fun _ => XS.iconst X0.here hx rfl (hb hby d6_29)) ?_
        show own_G p e below Φ s₁ (mkF m 30 #[.val (.long sa), .second, .val (.long va), .second, .val (.long sb), .second, .val (.long vb), .second] [(.int (0 : Int32))])
        rw [hΦ]
        refine own_ret X0 (v := some (.int (0 : Int32))) (fun h => by rw [Bd.returns] at h; cases h) (BodyLoose.notSynchronized Bd) (fun fs hr => retN X0 hx (t := .boolean) Bd.returns (by simp) (hb hby d6_30) hr) ?_ (by decide) (by decide)
        rw [e0]
        exact ⟨(by simp [own_ref, hc4, hc13, hc22]), N0, rfl⟩
theorem wd_0 {Z : State} {a0 : Array Value} (hw : ∀ d ∈ tables_1, d.before a0 Z = true) : ((Jvm.Cond.methodLink "com/example/brickwork/brickwork/wire/SavedCopyNewerPinLaw" (7 : Nat) ({ cls := "com/example/brickwork/brickwork/wire/SavedCopyNewerPinLaw", name := "pick", desc := "(IJJ)J" } : Jvm.MethodName)) : Jvm.Cond).before a0 Z = true := hw _ (List.mem_of_getElem? (i := 0) rfl)
theorem wd_3 {Z : State} {a0 : Array Value} (hw : ∀ d ∈ tables_1, d.before a0 Z = true) : ((Jvm.Cond.code ({ cls := "com/example/brickwork/brickwork/wire/SavedCopyNewerPinLaw", name := "pick", desc := "(IJJ)J" } : Jvm.MethodName) method_2_code (5 : Nat) (Option.some Jvm.ClassFile.FieldType.long)) : Jvm.Cond).before a0 Z = true := hw _ (List.mem_of_getElem? (i := 3) rfl)
theorem wd_2 {Z : State} {a0 : Array Value} (hw : ∀ d ∈ tables_1, d.before a0 Z = true) : ((Jvm.Cond.initialized "com/example/brickwork/brickwork/wire/SavedCopyNewerPinLaw") : Jvm.Cond).before a0 Z = true := hw _ (List.mem_of_getElem? (i := 2) rfl)
theorem pd_1 : parseMethodDescriptor "(IJJ)J" = some ⟨[.int, .long, .long], some .long⟩ := by decide +kernel
theorem wd_1 {Z : State} {a0 : Array Value} (hw : ∀ d ∈ tables_1, d.before a0 Z = true) : ((Jvm.Cond.static ({ cls := "com/example/brickwork/brickwork/wire/SavedCopyNewerPinLaw", name := "pick", desc := "(IJJ)J" } : Jvm.MethodName)) : Jvm.Cond).before a0 Z = true := hw _ (List.mem_of_getElem? (i := 1) rfl)
theorem wd_4 {Z : State} {a0 : Array Value} (hw : ∀ d ∈ tables_1, d.before a0 Z = true) : ((Jvm.Cond.classLink "com/example/brickwork/brickwork/wire/SavedCopyNewerPinLaw" (13 : Nat) "com/example/brickwork/brickwork/wire/Protocol$SavedCopy") : Jvm.Cond).before a0 Z = true := hw _ (List.mem_of_getElem? (i := 4) rfl)
theorem wd_6 {Z : State} {a0 : Array Value} (hw : ∀ d ∈ tables_1, d.before a0 Z = true) : ((Jvm.Cond.initialized "com/example/brickwork/brickwork/wire/Protocol$SavedCopy") : Jvm.Cond).before a0 Z = true := hw _ (List.mem_of_getElem? (i := 6) rfl)
theorem wd_7 {Z : State} {a0 : Array Value} (hw : ∀ d ∈ tables_1, d.before a0 Z = true) : ((Jvm.Cond.methodLink "com/example/brickwork/brickwork/wire/SavedCopyNewerPinLaw" (15 : Nat) ({ cls := "com/example/brickwork/brickwork/wire/Protocol$SavedCopy", name := "<init>", desc := "(JJJ)V" } : Jvm.MethodName)) : Jvm.Cond).before a0 Z = true := hw _ (List.mem_of_getElem? (i := 7) rfl)
theorem wd_9 {Z : State} {a0 : Array Value} (hw : ∀ d ∈ tables_1, d.before a0 Z = true) : ((Jvm.Cond.code ({ cls := "com/example/brickwork/brickwork/wire/Protocol$SavedCopy", name := "<init>", desc := "(JJJ)V" } : Jvm.MethodName) prog_164_method_1_code (7 : Nat) (Option.none : Option Jvm.ClassFile.FieldType)) : Jvm.Cond).before a0 Z = true := hw _ (List.mem_of_getElem? (i := 9) rfl)
theorem pd_2 : parseMethodDescriptor "(JJJ)V" = some ⟨[.long, .long, .long], none⟩ := by decide +kernel
theorem wd_8 {Z : State} {a0 : Array Value} (hw : ∀ d ∈ tables_1, d.before a0 Z = true) : ((Jvm.Cond.instanceMethod ({ cls := "com/example/brickwork/brickwork/wire/Protocol$SavedCopy", name := "<init>", desc := "(JJJ)V" } : Jvm.MethodName)) : Jvm.Cond).before a0 Z = true := hw _ (List.mem_of_getElem? (i := 8) rfl)
theorem wd_24 {Z : State} {a0 : Array Value} (hw : ∀ d ∈ tables_1, d.before a0 Z = true) : ((Jvm.Cond.constantLong "com/example/brickwork/brickwork/wire/SavedCopyNewerPinLaw" (18 : Nat) (-1 : Int64)) : Jvm.Cond).before a0 Z = true := hw _ (List.mem_of_getElem? (i := 24) rfl)
theorem wd_25 {Z : State} {a0 : Array Value} (hw : ∀ d ∈ tables_1, d.before a0 Z = true) : ((Jvm.Cond.methodLink "com/example/brickwork/brickwork/wire/SavedCopyNewerPinLaw" (20 : Nat) ({ cls := "com/example/brickwork/brickwork/wire/Protocol$SavedCopy", name := "newer", desc := "(Lcom/example/brickwork/brickwork/wire/Protocol$SavedCopy;)Z" } : Jvm.MethodName)) : Jvm.Cond).before a0 Z = true := hw _ (List.mem_of_getElem? (i := 25) rfl)
theorem wd_29 {Z : State} {a0 : Array Value} (hw : ∀ d ∈ tables_1, d.before a0 Z = true) : ((Jvm.Cond.code ({ cls := "com/example/brickwork/brickwork/wire/Protocol$SavedCopy", name := "newer", desc := "(Lcom/example/brickwork/brickwork/wire/Protocol$SavedCopy;)Z" } : Jvm.MethodName) prog_164_method_2_code (2 : Nat) (Option.some Jvm.ClassFile.FieldType.boolean)) : Jvm.Cond).before a0 Z = true := hw _ (List.mem_of_getElem? (i := 29) rfl)
theorem pd_3 : parseMethodDescriptor "(Lcom/example/brickwork/brickwork/wire/Protocol$SavedCopy;)Z" = some ⟨[(.object "com/example/brickwork/brickwork/wire/Protocol$SavedCopy")], some .boolean⟩ := by decide +kernel
theorem wd_28 {Z : State} {a0 : Array Value} (hw : ∀ d ∈ tables_1, d.before a0 Z = true) : ((Jvm.Cond.selects "com/example/brickwork/brickwork/wire/Protocol$SavedCopy" ({ cls := "com/example/brickwork/brickwork/wire/Protocol$SavedCopy", name := "newer", desc := "(Lcom/example/brickwork/brickwork/wire/Protocol$SavedCopy;)Z" } : Jvm.MethodName) ({ cls := "com/example/brickwork/brickwork/wire/Protocol$SavedCopy", name := "newer", desc := "(Lcom/example/brickwork/brickwork/wire/Protocol$SavedCopy;)Z" } : Jvm.MethodName)) : Jvm.Cond).before a0 Z = true := hw _ (List.mem_of_getElem? (i := 28) rfl)
theorem wd_26 {Z : State} {a0 : Array Value} (hw : ∀ d ∈ tables_1, d.before a0 Z = true) : ((Jvm.Cond.declares ({ cls := "com/example/brickwork/brickwork/wire/Protocol$SavedCopy", name := "newer", desc := "(Lcom/example/brickwork/brickwork/wire/Protocol$SavedCopy;)Z" } : Jvm.MethodName)) : Jvm.Cond).before a0 Z = true := hw _ (List.mem_of_getElem? (i := 26) rfl)
theorem wd_27 {Z : State} {a0 : Array Value} (hw : ∀ d ∈ tables_1, d.before a0 Z = true) : ((Jvm.Cond.instanceMethod ({ cls := "com/example/brickwork/brickwork/wire/Protocol$SavedCopy", name := "newer", desc := "(Lcom/example/brickwork/brickwork/wire/Protocol$SavedCopy;)Z" } : Jvm.MethodName)) : Jvm.Cond).before a0 Z = true := hw _ (List.mem_of_getElem? (i := 27) rfl)
theorem wd_30 {Z : State} {a0 : Array Value} (hw : ∀ d ∈ tables_1, d.before a0 Z = true) : ((Jvm.Cond.methodLink "com/example/brickwork/brickwork/wire/SavedCopyNewerPinLaw" (24 : Nat) ({ cls := "com/example/brickwork/brickwork/wire/SavedCopyNewerPinLaw", name := "ref", desc := "(JJJJ)Z" } : Jvm.MethodName)) : Jvm.Cond).before a0 Z = true := hw _ (List.mem_of_getElem? (i := 30) rfl)
theorem wd_32 {Z : State} {a0 : Array Value} (hw : ∀ d ∈ tables_1, d.before a0 Z = true) : ((Jvm.Cond.code ({ cls := "com/example/brickwork/brickwork/wire/SavedCopyNewerPinLaw", name := "ref", desc := "(JJJJ)Z" } : Jvm.MethodName) method_3_code (8 : Nat) (Option.some Jvm.ClassFile.FieldType.boolean)) : Jvm.Cond).before a0 Z = true := hw _ (List.mem_of_getElem? (i := 32) rfl)
theorem pd_4 : parseMethodDescriptor "(JJJJ)Z" = some ⟨[.long, .long, .long, .long], some .boolean⟩ := by decide +kernel
theorem wd_31 {Z : State} {a0 : Array Value} (hw : ∀ d ∈ tables_1, d.before a0 Z = true) : ((Jvm.Cond.static ({ cls := "com/example/brickwork/brickwork/wire/SavedCopyNewerPinLaw", name := "ref", desc := "(JJJJ)Z" } : Jvm.MethodName)) : Jvm.Cond).before a0 Z = true := hw _ (List.mem_of_getElem? (i := 31) rfl)
theorem ef_rm0 (m : MethodId) (s1 : Int64) (v1 : Int64) (s2 : Int64) (v2 : Int64) (k : Int64) (md : Int32) : entryFrame m #[(.long s1), (.long v1), (.long s2), (.long v2), (.long k), (.int md)] maxLocals = mkF m 0 #[.val (.long s1), .second, .val (.long v1), .second, .val (.long s2), .second, .val (.long v2), .second, .val (.long k), .second, .val (.int md), .unset, .unset, .unset, .unset, .unset, .unset, .unset, .unset, .unset, .unset, .unset] [] := by first | (simp [entryFrame, mkF, argsToLocals, Value.category, maxLocals]; done) | rfl
def Q_rm0 (Z : State) (s1 : Int64) (v1 : Int64) (s2 : Int64) (v2 : Int64) (k : Int64) (md : Int32) (h0 : Heap) (n0 : Nat) (v : Option Value) (h : Heap) (L : List Loc) : Prop := v = some (.int (1 : Int32)) ∧ Fr n0 L
set_option maxRecDepth 65536 in
set_option maxHeartbeats 40000000 in
theorem rm0 (l : Launch) (Z : State) (a0 : Array Value) (hw : ∀ d ∈ tables_1, d.before a0 Z = true) (ws : List Jvm.Cond) (s1 : Int64) (v1 : Int64) (s2 : Int64) (v2 : Int64) (k : Int64) (md : Int32) (h0 : Heap) (n0 : Nat) (Z0 : n0 ≤ h0.size)  :
    MetFree l x (head1 (Jvm.Cond.code x code maxLocals ret :: ws) room_1) (fun a U => a = #[(.long s1), (.long v1), (.long s2), (.long v2), (.long k), (.int md)] ∧ Z.Warmed39 U.vm ∧ U.heap = h0) (fun _ _ _ _ _ => True) (fun _ U o U' => ∃ v L, o = .returned v ∧ Q_rm0 Z s1 v1 s2 v2 k md h0 n0 v U'.heap L ∧ FrameEnd U o U' L room_1.cells room_1.slots) := by
  refine MetFree.of_bodySF (plainFor_of_name pn_0) hisR ?_
  intro p e s m args below meth c s₁ Bd hml0 hP hK
  obtain ⟨rfl, hZ, hh⟩ := hP
  have hx := Bd.exec
  have hby := Bd.bytes
  have hml : c.maxLocals = 22 := hml0
  have hown : s.vm.findClass "com/example/brickwork/brickwork/wire/SavedCopyNewerPinLaw" = some m.cls := findClass_of_methodNamed Bd.named
  have hnm := (name_of_methodNamed Bd.named Bd.method).1
  have X0 : Stand p l e room_1 s m #[(.long s1), (.long v1), (.long s2), (.long v2), (.long k), (.int md)] below meth c s₁ [] 0 0 := Stand.of_body Bd
  have e0 : s₁.heap = h0 := by rw [← hh, Bd.state]; rfl
  have N0 := Fr.nil n0
  suffices G0 : own_G p e below (own_E s below (Q_rm0 Z s1 v1 s2 v2 k md h0 n0) room_1.cells room_1.slots) s₁ (mkF m 0 #[.val (.long s1), .second, .val (.long v1), .second, .val (.long s2), .second, .val (.long v2), .second, .val (.long k), .second, .val (.int md), .unset, .unset, .unset, .unset, .unset, .unset, .unset, .unset, .unset, .unset, .unset] []) by
    obtain ⟨zt, zst, zo, zq1, zq2, zq3⟩ := G0
    exact ⟨zt, zo, castTop (ef_rm0 m s1 v1 s2 v2 k md) zst, zq1, zq2, zq3⟩
  obtain ⟨Φ, hΦ⟩ : ∃ Φ, Φ = own_E s below (Q_rm0 Z s1 v1 s2 v2 k md h0 n0) room_1.cells room_1.slots := ⟨_, rfl⟩
  rw [← hΦ]
  show own_G p e below Φ s₁ (mkF m 0 #[.val (.long s1), .second, .val (.long v1), .second, .val (.long s2), .second, .val (.long v2), .second, .val (.long k), .second, .val (.int md), .unset, .unset, .unset, .unset, .unset, .unset, .unset, .unset, .unset, .unset, .unset] [])
  refine own_go (fun _ => XS.iload X0.here hx rfl (hb hby at_0) rfl) ?_
  show own_G p e below Φ s₁ (mkF m 2 #[.val (.long s1), .second, .val (.long v1), .second, .val (.long s2), .second, .val (.long v2), .second, .val (.long k), .second, .val (.int md), .unset, .unset, .unset, .unset, .unset, .unset, .unset, .unset, .unset, .unset, .unset] [(.int md)])
  refine own_go (fun _ => XS.iconst X0.here hx rfl (hb hby at_2)) ?_
  show own_G p e below Φ s₁ (mkF m 3 #[.val (.long s1), .second, .val (.long v1), .second, .val (.long s2), .second, .val (.long v2), .second, .val (.long k), .second, .val (.int md), .unset, .unset, .unset, .unset, .unset, .unset, .unset, .unset, .unset, .unset, .unset] [(.int (3 : Int32)), (.int md)])
  refine own_go (fun _ => XS.iand X0.here hx rfl (hb hby at_3) rfl) ?_
  show own_G p e below Φ s₁ (mkF m 4 #[.val (.long s1), .second, .val (.long v1), .second, .val (.long s2), .second, .val (.long v2), .second, .val (.long k), .second, .val (.int md), .unset, .unset, .unset, .unset, .unset, .unset, .unset, .unset, .unset, .unset, .unset] [(.int (md &&& (3 : Int32)))])
  refine own_go (fun _ => XS.lload X0.here hx rfl (hb hby at_4) rfl) ?_
  show own_G p e below Φ s₁ (mkF m 6 #[.val (.long s1), .second, .val (.long v1), .second, .val (.long s2), .second, .val (.long v2), .second, .val (.long k), .second, .val (.int md), .unset, .unset, .unset, .unset, .unset, .unset, .unset, .unset, .unset, .unset, .unset] [(.long v2), (.int (md &&& (3 : Int32)))])
  refine own_go (fun _ => XS.lloadN X0.here hx rfl (hb hby at_6) rfl) ?_
  show own_G p e below Φ s₁ (mkF m 7 #[.val (.long s1), .second, .val (.long v1), .second, .val (.long s2), .second, .val (.long v2), .second, .val (.long k), .second, .val (.int md), .unset, .unset, .unset, .unset, .unset, .unset, .unset, .unset, .unset, .unset, .unset] [(.long v1), (.long v2), (.int (md &&& (3 : Int32)))])
  obtain ⟨_, _, ⟨T1, L1, k1, n1⟩, -, X1, ⟨Lc1, hQ1, l1, y1, z1⟩, st1⟩ := Jvm.LawKit.callS X0 hx (y := (⟨"com/example/brickwork/brickwork/wire/SavedCopyNewerPinLaw", "pick", "(IJJ)J"⟩ : MethodName)) hown (mvT hZ (wd_0 hw)) (mvT hZ (wd_1 hw)) (mvT hZ (wd_2 hw)) (mvT hZ (wd_3 hw)) (by decide) (backOf (W := 0) (rm1 l Z a0 hw [] (md &&& (3 : Int32)) v2 v1 h0 n0 Z0 ) hZ (wd_3 hw) (wd_2 hw) (by decide) (by decide)) (g := (mkF m 7 #[.val (.long s1), .second, .val (.long v1), .second, .val (.long s2), .second, .val (.long v2), .second, .val (.long k), .second, .val (.int md), .unset, .unset, .unset, .unset, .unset, .unset, .unset, .unset, .unset, .unset, .unset] [(.long v1), (.long v2), (.int (md &&& (3 : Int32)))])) rfl (by rw [hml]; rfl) (argsL := [(.int (md &&& (3 : Int32))), (.long v2), (.long v1)]) (rest := []) (lenOf pd_1 rfl) rfl (by show 2 * 0 + _ ≤ _; exact Nat.le_of_eq rfl) (hb hby at_7) (fun _ _ => ⟨rfl, e0, (by decide : 0 + 0 ≤ _), (by decide : 0 + 0 ≤ _)⟩)
  dsimp only [Pt.U, Pt.locs, Pt.cells, Pt.slots] at X1 l1 y1 z1 st1 hQ1
  subst l1 y1 z1
  obtain ⟨rfl, N1q, hs1⟩ := hQ1
  have N1 := Fr.app N0 N1q
  refine own_go st1 ?_
  show own_G p e below Φ T1 (mkF m 10 #[.val (.long s1), .second, .val (.long v1), .second, .val (.long s2), .second, .val (.long v2), .second, .val (.long k), .second, .val (.int md), .unset, .unset, .unset, .unset, .unset, .unset, .unset, .unset, .unset, .unset, .unset] [(.long (own_pick (md &&& (3 : Int32)) v2 v1))])
  generalize hxvb : (own_pick (md &&& (3 : Int32)) v2 v1) = xvb
  show own_G p e below Φ T1 (mkF m 10 #[.val (.long s1), .second, .val (.long v1), .second, .val (.long s2), .second, .val (.long v2), .second, .val (.long k), .second, .val (.int md), .unset, .unset, .unset, .unset, .unset, .unset, .unset, .unset, .unset, .unset, .unset] [(.long xvb)])
  refine own_go (fun _ => XS.lstore X1.here hx rfl (hb hby at_10) rfl (l' := #[.val (.long s1), .second, .val (.long v1), .second, .val (.long s2), .second, .val (.long v2), .second, .val (.long k), .second, .val (.int md), .val (.long xvb), .second, .unset, .unset, .unset, .unset, .unset, .unset, .unset, .unset, .unset]) rfl) ?_
  show own_G p e below Φ T1 (mkF m 12 #[.val (.long s1), .second, .val (.long v1), .second, .val (.long s2), .second, .val (.long v2), .second, .val (.long k), .second, .val (.int md), .val (.long xvb), .second, .unset, .unset, .unset, .unset, .unset, .unset, .unset, .unset, .unset] [])
  refine own_go (fun _ => XS.iload X1.here hx rfl (hb hby at_12) rfl) ?_
  show own_G p e below Φ T1 (mkF m 14 #[.val (.long s1), .second, .val (.long v1), .second, .val (.long s2), .second, .val (.long v2), .second, .val (.long k), .second, .val (.int md), .val (.long xvb), .second, .unset, .unset, .unset, .unset, .unset, .unset, .unset, .unset, .unset] [(.int md)])
  refine own_go (fun _ => XS.iconst X1.here hx rfl (hb hby at_14)) ?_
  show own_G p e below Φ T1 (mkF m 15 #[.val (.long s1), .second, .val (.long v1), .second, .val (.long s2), .second, .val (.long v2), .second, .val (.long k), .second, .val (.int md), .val (.long xvb), .second, .unset, .unset, .unset, .unset, .unset, .unset, .unset, .unset, .unset] [(.int (2 : Int32)), (.int md)])
  refine own_go (fun _ => XS.iushr X1.here hx rfl (hb hby at_15) rfl) ?_
  show own_G p e below Φ T1 (mkF m 16 #[.val (.long s1), .second, .val (.long v1), .second, .val (.long s2), .second, .val (.long v2), .second, .val (.long k), .second, .val (.int md), .val (.long xvb), .second, .unset, .unset, .unset, .unset, .unset, .unset, .unset, .unset, .unset] [(.int ((md.toUInt32 >>> ((2 : Int32) &&& 31).toUInt32).toInt32))])
  refine own_go (fun _ => XS.iconst X1.here hx rfl (hb hby at_16)) ?_
  show own_G p e below Φ T1 (mkF m 17 #[.val (.long s1), .second, .val (.long v1), .second, .val (.long s2), .second, .val (.long v2), .second, .val (.long k), .second, .val (.int md), .val (.long xvb), .second, .unset, .unset, .unset, .unset, .unset, .unset, .unset, .unset, .unset] [(.int (3 : Int32)), (.int ((md.toUInt32 >>> ((2 : Int32) &&& 31).toUInt32).toInt32))])
  refine own_go (fun _ => XS.iand X1.here hx rfl (hb hby at_17) rfl) ?_
  show own_G p e below Φ T1 (mkF m 18 #[.val (.long s1), .second, .val (.long v1), .second, .val (.long s2), .second, .val (.long v2), .second, .val (.long k), .second, .val (.int md), .val (.long xvb), .second, .unset, .unset, .unset, .unset, .unset, .unset, .unset, .unset, .unset] [(.int (((md.toUInt32 >>> ((2 : Int32) &&& 31).toUInt32).toInt32) &&& (3 : Int32)))])
  refine own_go (fun _ => XS.lload X1.here hx rfl (hb hby at_18) rfl) ?_
  show own_G p e below Φ T1 (mkF m 20 #[.val (.long s1), .second, .val (.long v1), .second, .val (.long s2), .second, .val (.long v2), .second, .val (.long k), .second, .val (.int md), .val (.long xvb), .second, .unset, .unset, .unset, .unset, .unset, .unset, .unset, .unset, .unset] [(.long s2), (.int (((md.toUInt32 >>> ((2 : Int32) &&& 31).toUInt32).toInt32) &&& (3 : Int32)))])
  refine own_go (fun _ => XS.lloadN X1.here hx rfl (hb hby at_20) rfl) ?_
  show own_G p e below Φ T1 (mkF m 21 #[.val (.long s1), .second, .val (.long v1), .second, .val (.long s2), .second, .val (.long v2), .second, .val (.long k), .second, .val (.int md), .val (.long xvb), .second, .unset, .unset, .unset, .unset, .unset, .unset, .unset, .unset, .unset] [(.long s1), (.long s2), (.int (((md.toUInt32 >>> ((2 : Int32) &&& 31).toUInt32).toInt32) &&& (3 : Int32)))])
  obtain ⟨_, _, ⟨T2, L2, k2, n2⟩, -, X2, ⟨Lc2, hQ2, l2, y2, z2⟩, st2⟩ := Jvm.LawKit.callS X1 hx (y := (⟨"com/example/brickwork/brickwork/wire/SavedCopyNewerPinLaw", "pick", "(IJJ)J"⟩ : MethodName)) hown (mvT hZ (wd_0 hw)) (mvT hZ (wd_1 hw)) (mvT hZ (wd_2 hw)) (mvT hZ (wd_3 hw)) (by decide) (backOf (W := 0) (rm1 l Z a0 hw [] (((md.toUInt32 >>> ((2 : Int32) &&& 31).toUInt32).toInt32) &&& (3 : Int32)) s2 s1 h0 n0 Z0 ) hZ (wd_3 hw) (wd_2 hw) (by decide) (by decide)) (g := (mkF m 21 #[.val (.long s1), .second, .val (.long v1), .second, .val (.long s2), .second, .val (.long v2), .second, .val (.long k), .second, .val (.int md), .val (.long xvb), .second, .unset, .unset, .unset, .unset, .unset, .unset, .unset, .unset, .unset] [(.long s1), (.long s2), (.int (((md.toUInt32 >>> ((2 : Int32) &&& 31).toUInt32).toInt32) &&& (3 : Int32)))])) rfl (by rw [hml]; rfl) (argsL := [(.int (((md.toUInt32 >>> ((2 : Int32) &&& 31).toUInt32).toInt32) &&& (3 : Int32))), (.long s2), (.long s1)]) (rest := []) (lenOf pd_1 rfl) rfl (by show 2 * 0 + _ ≤ _; exact Nat.le_of_eq rfl) (hb hby at_21) (fun _ _ => ⟨rfl, hs1, (by decide : 0 + 0 ≤ _), (by decide : 0 + 0 ≤ _)⟩)
  dsimp only [Pt.U, Pt.locs, Pt.cells, Pt.slots] at X2 l2 y2 z2 st2 hQ2
  subst l2 y2 z2
  obtain ⟨rfl, N2q, hs2⟩ := hQ2
  have N2 := Fr.app N1 N2q
  refine own_go st2 ?_
  show own_G p e below Φ T2 (mkF m 24 #[.val (.long s1), .second, .val (.long v1), .second, .val (.long s2), .second, .val (.long v2), .second, .val (.long k), .second, .val (.int md), .val (.long xvb), .second, .unset, .unset, .unset, .unset, .unset, .unset, .unset, .unset, .unset] [(.long (own_pick (((md.toUInt32 >>> ((2 : Int32) &&& 31).toUInt32).toInt32) &&& (3 : Int32)) s2 s1))])
  generalize hxsb : (own_pick (((md.toUInt32 >>> ((2 : Int32) &&& 31).toUInt32).toInt32) &&& (3 : Int32)) s2 s1) = xsb
  show own_G p e below Φ T2 (mkF m 24 #[.val (.long s1), .second, .val (.long v1), .second, .val (.long s2), .second, .val (.long v2), .second, .val (.long k), .second, .val (.int md), .val (.long xvb), .second, .unset, .unset, .unset, .unset, .unset, .unset, .unset, .unset, .unset] [(.long xsb)])
  refine own_go (fun _ => XS.lstore X2.here hx rfl (hb hby at_24) rfl (l' := #[.val (.long s1), .second, .val (.long v1), .second, .val (.long s2), .second, .val (.long v2), .second, .val (.long k), .second, .val (.int md), .val (.long xvb), .second, .val (.long xsb), .second, .unset, .unset, .unset, .unset, .unset, .unset, .unset]) rfl) ?_
  show own_G p e below Φ T2 (mkF m 26 #[.val (.long s1), .second, .val (.long v1), .second, .val (.long s2), .second, .val (.long v2), .second, .val (.long k), .second, .val (.int md), .val (.long xvb), .second, .val (.long xsb), .second, .unset, .unset, .unset, .unset, .unset, .unset, .unset] [])
  obtain ⟨T3, h3, X3, e3, E3, A3, D3, -, st3⟩ := newO X2 hx hZ hown (wd_4 hw) (wd_5 hw) (wd_6 hw) hs2 (g := (mkF m 26 #[.val (.long s1), .second, .val (.long v1), .second, .val (.long s2), .second, .val (.long v2), .second, .val (.long k), .second, .val (.int md), .val (.long xvb), .second, .val (.long xsb), .second, .unset, .unset, .unset, .unset, .unset, .unset, .unset] [])) rfl (hb hby at_26) (by decide) (by decide)
  obtain ⟨b3, g3⟩ : ∃ z, z = h0.size := ⟨_, rfl⟩
  rw [← g3] at A3 D3 st3
  have g_b3 : n0 ≤ b3 := Nat.le_trans Z0 (Nat.le_of_eq g3.symm)
  have Zp3 : n0 ≤ h3.size := Nat.le_trans Z0 E3.1
  refine own_go st3 ?_
  have F_stopped_b3 : Fld Z h3 b3 "com/example/brickwork/brickwork/wire/Protocol$SavedCopy" "stopped" "J" (.long (0 : Int64)) := D3 (Or.inr (wd_19 hw)) (ty := .long) (by decide)
  have F_version_b3 : Fld Z h3 b3 "com/example/brickwork/brickwork/wire/Protocol$SavedCopy" "version" "J" (.long (0 : Int64)) := D3 (Or.inr (wd_21 hw)) (ty := .long) (by decide)
  have F_keys_b3 : Fld Z h3 b3 "com/example/brickwork/brickwork/wire/Protocol$SavedCopy" "keys" "J" (.long (0 : Int64)) := D3 (Or.inr (wd_23 hw)) (ty := .long) (by decide)
  show own_G p e below Φ T3 (mkF m 29 #[.val (.long s1), .second, .val (.long v1), .second, .val (.long s2), .second, .val (.long v2), .second, .val (.long k), .second, .val (.int md), .val (.long xvb), .second, .val (.long xsb), .second, .unset, .unset, .unset, .unset, .unset, .unset, .unset] [(.ref b3)])
  refine own_go (fun _ => XS.dup X3.here hx rfl (hb hby at_29) rfl rfl) ?_
  show own_G p e below Φ T3 (mkF m 30 #[.val (.long s1), .second, .val (.long v1), .second, .val (.long s2), .second, .val (.long v2), .second, .val (.long k), .second, .val (.int md), .val (.long xvb), .second, .val (.long xsb), .second, .unset, .unset, .unset, .unset, .unset, .unset, .unset] [(.ref b3), (.ref b3)])
  refine own_go (fun _ => XS.lloadN X3.here hx rfl (hb hby at_30) rfl) ?_
  show own_G p e below Φ T3 (mkF m 31 #[.val (.long s1), .second, .val (.long v1), .second, .val (.long s2), .second, .val (.long v2), .second, .val (.long k), .second, .val (.int md), .val (.long xvb), .second, .val (.long xsb), .second, .unset, .unset, .unset, .unset, .unset, .unset, .unset] [(.long s1), (.ref b3), (.ref b3)])
  refine own_go (fun _ => XS.lloadN X3.here hx rfl (hb hby at_31) rfl) ?_
  show own_G p e below Φ T3 (mkF m 32 #[.val (.long s1), .second, .val (.long v1), .second, .val (.long s2), .second, .val (.long v2), .second, .val (.long k), .second, .val (.int md), .val (.long xvb), .second, .val (.long xsb), .second, .unset, .unset, .unset, .unset, .unset, .unset, .unset] [(.long v1), (.long s1), (.ref b3), (.ref b3)])
  refine own_go (fun _ => XS.lload X3.here hx rfl (hb hby at_32) rfl) ?_
  show own_G p e below Φ T3 (mkF m 34 #[.val (.long s1), .second, .val (.long v1), .second, .val (.long s2), .second, .val (.long v2), .second, .val (.long k), .second, .val (.int md), .val (.long xvb), .second, .val (.long xsb), .second, .unset, .unset, .unset, .unset, .unset, .unset, .unset] [(.long k), (.long v1), (.long s1), (.ref b3), (.ref b3)])
  obtain ⟨_, _, ⟨T4, L4, k4, n4⟩, -, X4, ⟨Lc4, hQ4, l4, y4, z4⟩, st4⟩ := X3.specialBack hx (y := (⟨"com/example/brickwork/brickwork/wire/Protocol$SavedCopy", "<init>", "(JJJ)V"⟩ : MethodName)) rfl hown (mvT hZ (wd_7 hw)) (mvT hZ (wd_8 hw)) (mvT hZ (wd_9 hw)) (by decide) (backOf (W := 1) (rm2 l Z a0 hw [] b3 s1 v1 k (.long (0 : Int64)) (.long (0 : Int64)) (.long (0 : Int64)) h3 n0 Zp3 A3 F_stopped_b3 F_version_b3 F_keys_b3 g_b3) hZ (wd_9 hw) (wd_6 hw) (by decide) (by decide)) (g := (mkF m 34 #[.val (.long s1), .second, .val (.long v1), .second, .val (.long s2), .second, .val (.long v2), .second, .val (.long k), .second, .val (.int md), .val (.long xvb), .second, .val (.long xsb), .second, .unset, .unset, .unset, .unset, .unset, .unset, .unset] [(.long k), (.long v1), (.long s1), (.ref b3), (.ref b3)])) rfl (by rw [hml]; rfl) (Steps.refl _) (a := b3) (argsL := [(.long s1), (.long v1), (.long k)]) (rest := [(.ref b3)]) (lenOf pd_2 rfl) rfl (by show 2 * 0 + _ ≤ _; exact Nat.le_of_eq rfl) (hb hby at_34) (fun _ _ => ⟨rfl, e3, (by decide : 1 + 0 ≤ _), (by decide : 3 + 0 ≤ _)⟩)
  dsimp only [Pt.U, Pt.locs, Pt.cells, Pt.slots] at X4 l4 y4 z4 st4 hQ4
  subst l4 y4 z4
  obtain ⟨rfl, N4q, Kq4, p4_0, p4_1, p4_2, p4_3⟩ := hQ4
  have N4 := Fr.app N2 N4q
  refine own_on st4 ?_
  have Zp4 : n0 ≤ T4.heap.size := Nat.le_trans Zp3 Kq4.1
  show own_G p e below Φ T4 (mkF m 37 #[.val (.long s1), .second, .val (.long v1), .second, .val (.long s2), .second, .val (.long v2), .second, .val (.long k), .second, .val (.int md), .val (.long xvb), .second, .val (.long xsb), .second, .unset, .unset, .unset, .unset, .unset, .unset, .unset] [(.ref b3)])
  refine own_go (fun _ => XS.astore X4.here hx rfl (hb hby at_37) rfl rfl (l' := #[.val (.long s1), .second, .val (.long v1), .second, .val (.long s2), .second, .val (.long v2), .second, .val (.long k), .second, .val (.int md), .val (.long xvb), .second, .val (.long xsb), .second, .val (.ref b3), .unset, .unset, .unset, .unset, .unset, .unset]) rfl) ?_
  show own_G p e below Φ T4 (mkF m 39 #[.val (.long s1), .second, .val (.long v1), .second, .val (.long s2), .second, .val (.long v2), .second, .val (.long k), .second, .val (.int md), .val (.long xvb), .second, .val (.long xsb), .second, .val (.ref b3), .unset, .unset, .unset, .unset, .unset, .unset] [])
  obtain ⟨T5, h5, X5, e5, E5, A5, D5, -, st5⟩ := newO X4 hx hZ hown (wd_4 hw) (wd_5 hw) (wd_6 hw) rfl (g := (mkF m 39 #[.val (.long s1), .second, .val (.long v1), .second, .val (.long s2), .second, .val (.long v2), .second, .val (.long k), .second, .val (.int md), .val (.long xvb), .second, .val (.long xsb), .second, .val (.ref b3), .unset, .unset, .unset, .unset, .unset, .unset] [])) rfl (hb hby at_39) (by decide) (by decide)
  obtain ⟨b5, g5⟩ : ∃ z, z = T4.heap.size := ⟨_, rfl⟩
  rw [← g5] at A5 D5 st5
  have ne_b3_b5 : b3 ≠ b5 := Nat.ne_of_lt (Nat.lt_of_lt_of_le p4_0.lt (Nat.le_of_eq g5.symm))
  have g_b5 : n0 ≤ b5 := Nat.le_trans Zp4 (Nat.le_of_eq g5.symm)
  have Zp5 : n0 ≤ h5.size := Nat.le_trans Zp4 E5.1
  refine own_go st5 ?_
  have F_stopped_b5 : Fld Z h5 b5 "com/example/brickwork/brickwork/wire/Protocol$SavedCopy" "stopped" "J" (.long (0 : Int64)) := D5 (Or.inr (wd_19 hw)) (ty := .long) (by decide)
  have F_version_b5 : Fld Z h5 b5 "com/example/brickwork/brickwork/wire/Protocol$SavedCopy" "version" "J" (.long (0 : Int64)) := D5 (Or.inr (wd_21 hw)) (ty := .long) (by decide)
  have F_keys_b5 : Fld Z h5 b5 "com/example/brickwork/brickwork/wire/Protocol$SavedCopy" "keys" "J" (.long (0 : Int64)) := D5 (Or.inr (wd_23 hw)) (ty := .long) (by decide)
  show own_G p e below Φ T5 (mkF m 42 #[.val (.long s1), .second, .val (.long v1), .second, .val (.long s2), .second, .val (.long v2), .second, .val (.long k), .second, .val (.int md), .val (.long xvb), .second, .val (.long xsb), .second, .val (.ref b3), .unset, .unset, .unset, .unset, .unset, .unset] [(.ref b5)])
  refine own_go (fun _ => XS.dup X5.here hx rfl (hb hby at_42) rfl rfl) ?_
  show own_G p e below Φ T5 (mkF m 43 #[.val (.long s1), .second, .val (.long v1), .second, .val (.long s2), .second, .val (.long v2), .second, .val (.long k), .second, .val (.int md), .val (.long xvb), .second, .val (.long xsb), .second, .val (.ref b3), .unset, .unset, .unset, .unset, .unset, .unset] [(.ref b5), (.ref b5)])
  refine own_go (fun _ => XS.lload X5.here hx rfl (hb hby at_43) rfl) ?_
  show own_G p e below Φ T5 (mkF m 45 #[.val (.long s1), .second, .val (.long v1), .second, .val (.long s2), .second, .val (.long v2), .second, .val (.long k), .second, .val (.int md), .val (.long xvb), .second, .val (.long xsb), .second, .val (.ref b3), .unset, .unset, .unset, .unset, .unset, .unset] [(.long xsb), (.ref b5), (.ref b5)])
  refine own_go (fun _ => XS.lload X5.here hx rfl (hb hby at_45) rfl) ?_
  show own_G p e below Φ T5 (mkF m 47 #[.val (.long s1), .second, .val (.long v1), .second, .val (.long s2), .second, .val (.long v2), .second, .val (.long k), .second, .val (.int md), .val (.long xvb), .second, .val (.long xsb), .second, .val (.ref b3), .unset, .unset, .unset, .unset, .unset, .unset] [(.long xvb), (.long xsb), (.ref b5), (.ref b5)])
  refine own_go (fun _ => XS.lload X5.here hx rfl (hb hby at_47) rfl) ?_
  show own_G p e below Φ T5 (mkF m 49 #[.val (.long s1), .second, .val (.long v1), .second, .val (.long s2), .second, .val (.long v2), .second, .val (.long k), .second, .val (.int md), .val (.long xvb), .second, .val (.long xsb), .second, .val (.ref b3), .unset, .unset, .unset, .unset, .unset, .unset] [(.long k), (.long xvb), (.long xsb), (.ref b5), (.ref b5)])
  refine own_go (fun _ => X5.ldc2Long hx hown (mvT hZ (wd_24 hw)) (g := (mkF m 49 #[.val (.long s1), .second, .val (.long v1), .second, .val (.long s2), .second, .val (.long v2), .second, .val (.long k), .second, .val (.int md), .val (.long xvb), .second, .val (.long xsb), .second, .val (.ref b3), .unset, .unset, .unset, .unset, .unset, .unset] [(.long k), (.long xvb), (.long xsb), (.ref b5), (.ref b5)])) rfl (hb hby at_49) _) ?_
  show own_G p e below Φ T5 (mkF m 52 #[.val (.long s1), .second, .val (.long v1), .second, .val (.long s2), .second, .val (.long v2), .second, .val (.long k), .second, .val (.int md), .val (.long xvb), .second, .val (.long xsb), .second, .val (.ref b3), .unset, .unset, .unset, .unset, .unset, .unset] [(.long (-1 : Int64)), (.long k), (.long xvb), (.long xsb), (.ref b5), (.ref b5)])
  refine own_go (fun _ => XS.lxor X5.here hx rfl (hb hby at_52) rfl) ?_
  show own_G p e below Φ T5 (mkF m 53 #[.val (.long s1), .second, .val (.long v1), .second, .val (.long s2), .second, .val (.long v2), .second, .val (.long k), .second, .val (.int md), .val (.long xvb), .second, .val (.long xsb), .second, .val (.ref b3), .unset, .unset, .unset, .unset, .unset, .unset] [(.long (k ^^^ (-1 : Int64))), (.long xvb), (.long xsb), (.ref b5), (.ref b5)])
  obtain ⟨_, _, ⟨T6, L6, k6, n6⟩, -, X6, ⟨Lc6, hQ6, l6, y6, z6⟩, st6⟩ := X5.specialBack hx (y := (⟨"com/example/brickwork/brickwork/wire/Protocol$SavedCopy", "<init>", "(JJJ)V"⟩ : MethodName)) rfl hown (mvT hZ (wd_7 hw)) (mvT hZ (wd_8 hw)) (mvT hZ (wd_9 hw)) (by decide) (backOf (W := 1) (rm2 l Z a0 hw [] b5 xsb xvb (k ^^^ (-1 : Int64)) (.long (0 : Int64)) (.long (0 : Int64)) (.long (0 : Int64)) h5 n0 Zp5 A5 F_stopped_b5 F_version_b5 F_keys_b5 g_b5) hZ (wd_9 hw) (wd_6 hw) (by decide) (by decide)) (g := (mkF m 53 #[.val (.long s1), .second, .val (.long v1), .second, .val (.long s2), .second, .val (.long v2), .second, .val (.long k), .second, .val (.int md), .val (.long xvb), .second, .val (.long xsb), .second, .val (.ref b3), .unset, .unset, .unset, .unset, .unset, .unset] [(.long (k ^^^ (-1 : Int64))), (.long xvb), (.long xsb), (.ref b5), (.ref b5)])) rfl (by rw [hml]; rfl) (Steps.refl _) (a := b5) (argsL := [(.long xsb), (.long xvb), (.long (k ^^^ (-1 : Int64)))]) (rest := [(.ref b5)]) (lenOf pd_2 rfl) rfl (by show 2 * 0 + _ ≤ _; exact Nat.le_of_eq rfl) (hb hby at_53) (fun _ _ => ⟨rfl, e5, (by decide : 2 + 0 ≤ _), (by decide : 6 + 0 ≤ _)⟩)
  dsimp only [Pt.U, Pt.locs, Pt.cells, Pt.slots] at X6 l6 y6 z6 st6 hQ6
  subst l6 y6 z6
  obtain ⟨rfl, N6q, Kq6, p6_0, p6_1, p6_2, p6_3⟩ := hQ6
  have N6 := Fr.app N4 N6q
  refine own_on st6 ?_
  have Zp6 : n0 ≤ T6.heap.size := Nat.le_trans Zp5 Kq6.1
  show own_G p e below Φ T6 (mkF m 56 #[.val (.long s1), .second, .val (.long v1), .second, .val (.long s2), .second, .val (.long v2), .second, .val (.long k), .second, .val (.int md), .val (.long xvb), .second, .val (.long xsb), .second, .val (.ref b3), .unset, .unset, .unset, .unset, .unset, .unset] [(.ref b5)])
  refine own_go (fun _ => XS.astore X6.here hx rfl (hb hby at_56) rfl rfl (l' := #[.val (.long s1), .second, .val (.long v1), .second, .val (.long s2), .second, .val (.long v2), .second, .val (.long k), .second, .val (.int md), .val (.long xvb), .second, .val (.long xsb), .second, .val (.ref b3), .val (.ref b5), .unset, .unset, .unset, .unset, .unset]) rfl) ?_
  show own_G p e below Φ T6 (mkF m 58 #[.val (.long s1), .second, .val (.long v1), .second, .val (.long s2), .second, .val (.long v2), .second, .val (.long k), .second, .val (.int md), .val (.long xvb), .second, .val (.long xsb), .second, .val (.ref b3), .val (.ref b5), .unset, .unset, .unset, .unset, .unset] [])
  refine own_go (fun _ => XS.aload X6.here hx rfl (hb hby at_58) rfl rfl) ?_
  show own_G p e below Φ T6 (mkF m 60 #[.val (.long s1), .second, .val (.long v1), .second, .val (.long s2), .second, .val (.long v2), .second, .val (.long k), .second, .val (.int md), .val (.long xvb), .second, .val (.long xsb), .second, .val (.ref b3), .val (.ref b5), .unset, .unset, .unset, .unset, .unset] [(.ref b3)])
  refine own_go (fun _ => XS.aload X6.here hx rfl (hb hby at_60) rfl rfl) ?_
  show own_G p e below Φ T6 (mkF m 62 #[.val (.long s1), .second, .val (.long v1), .second, .val (.long s2), .second, .val (.long v2), .second, .val (.long k), .second, .val (.int md), .val (.long xvb), .second, .val (.long xsb), .second, .val (.ref b3), .val (.ref b5), .unset, .unset, .unset, .unset, .unset] [(.ref b5), (.ref b3)])
  have f7 : Fld Z h5 b3 "com/example/brickwork/brickwork/wire/Protocol$SavedCopy" "version" "J" (.long v1) := p4_2.ext E5
  have f8 : Fld Z T6.heap b3 "com/example/brickwork/brickwork/wire/Protocol$SavedCopy" "version" "J" (.long v1) := f7.keep Kq6 (ninS ne_b3_b5 nin0)
  have f9 : Fld Z h5 b3 "com/example/brickwork/brickwork/wire/Protocol$SavedCopy" "stopped" "J" (.long s1) := p4_1.ext E5
  have f10 : Fld Z T6.heap b3 "com/example/brickwork/brickwork/wire/Protocol$SavedCopy" "stopped" "J" (.long s1) := f9.keep Kq6 (ninS ne_b3_b5 nin0)
  have f12 : Exa Z h5 b3 "com/example/brickwork/brickwork/wire/Protocol$SavedCopy" := p4_0.ext E5
  have f13 : Exa Z T6.heap b3 "com/example/brickwork/brickwork/wire/Protocol$SavedCopy" := f12.keep Kq6
  obtain ⟨cq11, kq11, q11a, q11b, q11c⟩ := isOf hZ rfl f13
  obtain ⟨_, _, ⟨T11, L11, k11, n11⟩, -, X11, ⟨Lc11, hQ11, l11, y11, z11⟩, st11⟩ := X6.virtualBack hx (y := (⟨"com/example/brickwork/brickwork/wire/Protocol$SavedCopy", "newer", "(Lcom/example/brickwork/brickwork/wire/Protocol$SavedCopy;)Z"⟩ : MethodName)) (z := (⟨"com/example/brickwork/brickwork/wire/Protocol$SavedCopy", "newer", "(Lcom/example/brickwork/brickwork/wire/Protocol$SavedCopy;)Z"⟩ : MethodName)) hown (mvT hZ (wd_25 hw)) (mvT hZ (wd_26 hw)) (notFace_of_selects (args := #[]) (mvT hZ (wd_28 hw))) (mvT hZ (wd_28 hw)) (mvT hZ (wd_27 hw)) (by decide) (backOf (W := 0) (rm5 l Z a0 hw [] b3 b5 v1 s1 xvb xsb T6.heap n0 Zp6 f8 f10 p6_2 p6_1) hZ (wd_29 hw) (wd_6 hw) (by decide) (by decide)) q11a q11c (g := (mkF m 62 #[.val (.long s1), .second, .val (.long v1), .second, .val (.long s2), .second, .val (.long v2), .second, .val (.long k), .second, .val (.int md), .val (.long xvb), .second, .val (.long xsb), .second, .val (.ref b3), .val (.ref b5), .unset, .unset, .unset, .unset, .unset] [(.ref b5), (.ref b3)])) rfl (by rw [hml]; rfl) (Steps.refl _) (argsL := [(.ref b5)]) (rest := []) (lenOf pd_3 rfl) rfl (by show 2 * 0 + _ ≤ _; exact Nat.le_of_eq rfl) (hb hby at_62) (fun _ _ => ⟨rfl, rfl, (by decide : 2 + 0 ≤ _), (by decide : 6 + 0 ≤ _)⟩)
  dsimp only [Pt.U, Pt.locs, Pt.cells, Pt.slots] at X11 l11 y11 z11 st11 hQ11
  subst l11 y11 z11
  obtain ⟨rfl, N11q, hs11⟩ := hQ11
  have N11 := Fr.app N6 N11q
  refine own_on st11 ?_
  show own_G p e below Φ T11 (mkF m 65 #[.val (.long s1), .second, .val (.long v1), .second, .val (.long s2), .second, .val (.long v2), .second, .val (.long k), .second, .val (.int md), .val (.long xvb), .second, .val (.long xsb), .second, .val (.ref b3), .val (.ref b5), .unset, .unset, .unset, .unset, .unset] [(.int (own_newer v1 s1 xvb xsb))])
  refine own_go (fun _ => XS.istore X11.here hx rfl (hb hby at_65) rfl (l' := #[.val (.long s1), .second, .val (.long v1), .second, .val (.long s2), .second, .val (.long v2), .second, .val (.long k), .second, .val (.int md), .val (.long xvb), .second, .val (.long xsb), .second, .val (.ref b3), .val (.ref b5), .val (.int (own_newer v1 s1 xvb xsb)), .unset, .unset, .unset, .unset]) rfl) ?_
  show own_G p e below Φ T11 (mkF m 67 #[.val (.long s1), .second, .val (.long v1), .second, .val (.long s2), .second, .val (.long v2), .second, .val (.long k), .second, .val (.int md), .val (.long xvb), .second, .val (.long xsb), .second, .val (.ref b3), .val (.ref b5), .val (.int (own_newer v1 s1 xvb xsb)), .unset, .unset, .unset, .unset] [])
  refine own_go (fun _ => XS.aload X11.here hx rfl (hb hby at_67) rfl rfl) ?_
  show own_G p e below Φ T11 (mkF m 69 #[.val (.long s1), .second, .val (.long v1), .second, .val (.long s2), .second, .val (.long v2), .second, .val (.long k), .second, .val (.int md), .val (.long xvb), .second, .val (.long xsb), .second, .val (.ref b3), .val (.ref b5), .val (.int (own_newer v1 s1 xvb xsb)), .unset, .unset, .unset, .unset] [(.ref b5)])
  refine own_go (fun _ => XS.aload X11.here hx rfl (hb hby at_69) rfl rfl) ?_
  show own_G p e below Φ T11 (mkF m 71 #[.val (.long s1), .second, .val (.long v1), .second, .val (.long s2), .second, .val (.long v2), .second, .val (.long k), .second, .val (.int md), .val (.long xvb), .second, .val (.long xsb), .second, .val (.ref b3), .val (.ref b5), .val (.int (own_newer v1 s1 xvb xsb)), .unset, .unset, .unset, .unset] [(.ref b3), (.ref b5)])
  obtain ⟨cq14, kq14, q14a, q14b, q14c⟩ := isOf hZ hs11 p6_0
  obtain ⟨_, _, ⟨T14, L14, k14, n14⟩, -, X14, ⟨Lc14, hQ14, l14, y14, z14⟩, st14⟩ := X11.virtualBack hx (y := (⟨"com/example/brickwork/brickwork/wire/Protocol$SavedCopy", "newer", "(Lcom/example/brickwork/brickwork/wire/Protocol$SavedCopy;)Z"⟩ : MethodName)) (z := (⟨"com/example/brickwork/brickwork/wire/Protocol$SavedCopy", "newer", "(Lcom/example/brickwork/brickwork/wire/Protocol$SavedCopy;)Z"⟩ : MethodName)) hown (mvT hZ (wd_25 hw)) (mvT hZ (wd_26 hw)) (notFace_of_selects (args := #[]) (mvT hZ (wd_28 hw))) (mvT hZ (wd_28 hw)) (mvT hZ (wd_27 hw)) (by decide) (backOf (W := 0) (rm5 l Z a0 hw [] b5 b3 xvb xsb v1 s1 T6.heap n0 Zp6 p6_2 p6_1 f8 f10) hZ (wd_29 hw) (wd_6 hw) (by decide) (by decide)) q14a q14c (g := (mkF m 71 #[.val (.long s1), .second, .val (.long v1), .second, .val (.long s2), .second, .val (.long v2), .second, .val (.long k), .second, .val (.int md), .val (.long xvb), .second, .val (.long xsb), .second, .val (.ref b3), .val (.ref b5), .val (.int (own_newer v1 s1 xvb xsb)), .unset, .unset, .unset, .unset] [(.ref b3), (.ref b5)])) rfl (by rw [hml]; rfl) (Steps.refl _) (argsL := [(.ref b3)]) (rest := []) (lenOf pd_3 rfl) rfl (by show 2 * 0 + _ ≤ _; exact Nat.le_of_eq rfl) (hb hby at_71) (fun _ _ => ⟨rfl, hs11, (by decide : 2 + 0 ≤ _), (by decide : 6 + 0 ≤ _)⟩)
  dsimp only [Pt.U, Pt.locs, Pt.cells, Pt.slots] at X14 l14 y14 z14 st14 hQ14
  subst l14 y14 z14
  obtain ⟨rfl, N14q, hs14⟩ := hQ14
  have N14 := Fr.app N11 N14q
  refine own_on st14 ?_
  show own_G p e below Φ T14 (mkF m 74 #[.val (.long s1), .second, .val (.long v1), .second, .val (.long s2), .second, .val (.long v2), .second, .val (.long k), .second, .val (.int md), .val (.long xvb), .second, .val (.long xsb), .second, .val (.ref b3), .val (.ref b5), .val (.int (own_newer v1 s1 xvb xsb)), .unset, .unset, .unset, .unset] [(.int (own_newer xvb xsb v1 s1))])
  refine own_go (fun _ => XS.istore X14.here hx rfl (hb hby at_74) rfl (l' := #[.val (.long s1), .second, .val (.long v1), .second, .val (.long s2), .second, .val (.long v2), .second, .val (.long k), .second, .val (.int md), .val (.long xvb), .second, .val (.long xsb), .second, .val (.ref b3), .val (.ref b5), .val (.int (own_newer v1 s1 xvb xsb)), .val (.int (own_newer xvb xsb v1 s1)), .unset, .unset, .unset]) rfl) ?_
  show own_G p e below Φ T14 (mkF m 76 #[.val (.long s1), .second, .val (.long v1), .second, .val (.long s2), .second, .val (.long v2), .second, .val (.long k), .second, .val (.int md), .val (.long xvb), .second, .val (.long xsb), .second, .val (.ref b3), .val (.ref b5), .val (.int (own_newer v1 s1 xvb xsb)), .val (.int (own_newer xvb xsb v1 s1)), .unset, .unset, .unset] [])
  refine own_go (fun _ => XS.aload X14.here hx rfl (hb hby at_76) rfl rfl) ?_
  show own_G p e below Φ T14 (mkF m 78 #[.val (.long s1), .second, .val (.long v1), .second, .val (.long s2), .second, .val (.long v2), .second, .val (.long k), .second, .val (.int md), .val (.long xvb), .second, .val (.long xsb), .second, .val (.ref b3), .val (.ref b5), .val (.int (own_newer v1 s1 xvb xsb)), .val (.int (own_newer xvb xsb v1 s1)), .unset, .unset, .unset] [(.ref b3)])
  refine own_go (fun _ => XS.aload X14.here hx rfl (hb hby at_78) rfl rfl) ?_
  show own_G p e below Φ T14 (mkF m 80 #[.val (.long s1), .second, .val (.long v1), .second, .val (.long s2), .second, .val (.long v2), .second, .val (.long k), .second, .val (.int md), .val (.long xvb), .second, .val (.long xsb), .second, .val (.ref b3), .val (.ref b5), .val (.int (own_newer v1 s1 xvb xsb)), .val (.int (own_newer xvb xsb v1 s1)), .unset, .unset, .unset] [(.ref b3), (.ref b3)])
  obtain ⟨cq15, kq15, q15a, q15b, q15c⟩ := isOf hZ hs14 f13
  obtain ⟨_, _, ⟨T15, L15, k15, n15⟩, -, X15, ⟨Lc15, hQ15, l15, y15, z15⟩, st15⟩ := X14.virtualBack hx (y := (⟨"com/example/brickwork/brickwork/wire/Protocol$SavedCopy", "newer", "(Lcom/example/brickwork/brickwork/wire/Protocol$SavedCopy;)Z"⟩ : MethodName)) (z := (⟨"com/example/brickwork/brickwork/wire/Protocol$SavedCopy", "newer", "(Lcom/example/brickwork/brickwork/wire/Protocol$SavedCopy;)Z"⟩ : MethodName)) hown (mvT hZ (wd_25 hw)) (mvT hZ (wd_26 hw)) (notFace_of_selects (args := #[]) (mvT hZ (wd_28 hw))) (mvT hZ (wd_28 hw)) (mvT hZ (wd_27 hw)) (by decide) (backOf (W := 0) (rm5 l Z a0 hw [] b3 b3 v1 s1 v1 s1 T6.heap n0 Zp6 f8 f10 f8 f10) hZ (wd_29 hw) (wd_6 hw) (by decide) (by decide)) q15a q15c (g := (mkF m 80 #[.val (.long s1), .second, .val (.long v1), .second, .val (.long s2), .second, .val (.long v2), .second, .val (.long k), .second, .val (.int md), .val (.long xvb), .second, .val (.long xsb), .second, .val (.ref b3), .val (.ref b5), .val (.int (own_newer v1 s1 xvb xsb)), .val (.int (own_newer xvb xsb v1 s1)), .unset, .unset, .unset] [(.ref b3), (.ref b3)])) rfl (by rw [hml]; rfl) (Steps.refl _) (argsL := [(.ref b3)]) (rest := []) (lenOf pd_3 rfl) rfl (by show 2 * 0 + _ ≤ _; exact Nat.le_of_eq rfl) (hb hby at_80) (fun _ _ => ⟨rfl, hs14, (by decide : 2 + 0 ≤ _), (by decide : 6 + 0 ≤ _)⟩)
  dsimp only [Pt.U, Pt.locs, Pt.cells, Pt.slots] at X15 l15 y15 z15 st15 hQ15
  subst l15 y15 z15
  obtain ⟨rfl, N15q, hs15⟩ := hQ15
  have N15 := Fr.app N14 N15q
  refine own_on st15 ?_
  show own_G p e below Φ T15 (mkF m 83 #[.val (.long s1), .second, .val (.long v1), .second, .val (.long s2), .second, .val (.long v2), .second, .val (.long k), .second, .val (.int md), .val (.long xvb), .second, .val (.long xsb), .second, .val (.ref b3), .val (.ref b5), .val (.int (own_newer v1 s1 xvb xsb)), .val (.int (own_newer xvb xsb v1 s1)), .unset, .unset, .unset] [(.int (own_newer v1 s1 v1 s1))])
  refine own_go (fun _ => XS.istore X15.here hx rfl (hb hby at_83) rfl (l' := #[.val (.long s1), .second, .val (.long v1), .second, .val (.long s2), .second, .val (.long v2), .second, .val (.long k), .second, .val (.int md), .val (.long xvb), .second, .val (.long xsb), .second, .val (.ref b3), .val (.ref b5), .val (.int (own_newer v1 s1 xvb xsb)), .val (.int (own_newer xvb xsb v1 s1)), .val (.int (own_newer v1 s1 v1 s1)), .unset, .unset]) rfl) ?_
  show own_G p e below Φ T15 (mkF m 85 #[.val (.long s1), .second, .val (.long v1), .second, .val (.long s2), .second, .val (.long v2), .second, .val (.long k), .second, .val (.int md), .val (.long xvb), .second, .val (.long xsb), .second, .val (.ref b3), .val (.ref b5), .val (.int (own_newer v1 s1 xvb xsb)), .val (.int (own_newer xvb xsb v1 s1)), .val (.int (own_newer v1 s1 v1 s1)), .unset, .unset] [])
  refine own_go (fun _ => XS.lloadN X15.here hx rfl (hb hby at_85) rfl) ?_
  show own_G p e below Φ T15 (mkF m 86 #[.val (.long s1), .second, .val (.long v1), .second, .val (.long s2), .second, .val (.long v2), .second, .val (.long k), .second, .val (.int md), .val (.long xvb), .second, .val (.long xsb), .second, .val (.ref b3), .val (.ref b5), .val (.int (own_newer v1 s1 xvb xsb)), .val (.int (own_newer xvb xsb v1 s1)), .val (.int (own_newer v1 s1 v1 s1)), .unset, .unset] [(.long v1)])
  refine own_go (fun _ => XS.lload X15.here hx rfl (hb hby at_86) rfl) ?_
  show own_G p e below Φ T15 (mkF m 88 #[.val (.long s1), .second, .val (.long v1), .second, .val (.long s2), .second, .val (.long v2), .second, .val (.long k), .second, .val (.int md), .val (.long xvb), .second, .val (.long xsb), .second, .val (.ref b3), .val (.ref b5), .val (.int (own_newer v1 s1 xvb xsb)), .val (.int (own_newer xvb xsb v1 s1)), .val (.int (own_newer v1 s1 v1 s1)), .unset, .unset] [(.long xvb), (.long v1)])
  refine own_go (fun _ => XS.lcmp X15.here hx rfl (hb hby at_88) rfl) ?_
  show own_G p e below Φ T15 (mkF m 89 #[.val (.long s1), .second, .val (.long v1), .second, .val (.long s2), .second, .val (.long v2), .second, .val (.long k), .second, .val (.int md), .val (.long xvb), .second, .val (.long xsb), .second, .val (.ref b3), .val (.ref b5), .val (.int (own_newer v1 s1 xvb xsb)), .val (.int (own_newer xvb xsb v1 s1)), .val (.int (own_newer v1 s1 v1 s1)), .unset, .unset] [(.int (lcmpW v1 xvb))])
  have hJ104_16 : ∀ (T' : State), own_Al X15 T' → T'.heap = T6.heap → ∀ (z20 : Int32), ((v1 = xvb ∧ s1 = xsb) → z20 = 1) → own_G p e below Φ T' (mkF m 104 #[.val (.long s1), .second, .val (.long v1), .second, .val (.long s2), .second, .val (.long v2), .second, .val (.long k), .second, .val (.int md), .val (.long xvb), .second, .val (.long xsb), .second, .val (.ref b3), .val (.ref b5), .val (.int (own_newer v1 s1 xvb xsb)), .val (.int (own_newer xvb xsb v1 s1)), .val (.int (own_newer v1 s1 v1 s1)), .unset, .unset] [(.int z20)]) := by
    intro T16 X16' e16 z20 h_z20
    have X16 : Stand _ _ _ _ _ _ _ _ _ _ T16 _ _ _ := X16'
    show own_G p e below Φ T16 (mkF m 104 #[.val (.long s1), .second, .val (.long v1), .second, .val (.long s2), .second, .val (.long v2), .second, .val (.long k), .second, .val (.int md), .val (.long xvb), .second, .val (.long xsb), .second, .val (.ref b3), .val (.ref b5), .val (.int (own_newer v1 s1 xvb xsb)), .val (.int (own_newer xvb xsb v1 s1)), .val (.int (own_newer v1 s1 v1 s1)), .unset, .unset] [(.int z20)])
    refine own_go (fun _ => XS.istore X16.here hx rfl (hb hby at_104) rfl (l' := #[.val (.long s1), .second, .val (.long v1), .second, .val (.long s2), .second, .val (.long v2), .second, .val (.long k), .second, .val (.int md), .val (.long xvb), .second, .val (.long xsb), .second, .val (.ref b3), .val (.ref b5), .val (.int (own_newer v1 s1 xvb xsb)), .val (.int (own_newer xvb xsb v1 s1)), .val (.int (own_newer v1 s1 v1 s1)), .val (.int z20), .unset]) rfl) ?_
    show own_G p e below Φ T16 (mkF m 106 #[.val (.long s1), .second, .val (.long v1), .second, .val (.long s2), .second, .val (.long v2), .second, .val (.long k), .second, .val (.int md), .val (.long xvb), .second, .val (.long xsb), .second, .val (.ref b3), .val (.ref b5), .val (.int (own_newer v1 s1 xvb xsb)), .val (.int (own_newer xvb xsb v1 s1)), .val (.int (own_newer v1 s1 v1 s1)), .val (.int z20), .unset] [])
    refine own_go (fun _ => XS.iload X16.here hx rfl (hb hby at_106) rfl) ?_
    show own_G p e below Φ T16 (mkF m 108 #[.val (.long s1), .second, .val (.long v1), .second, .val (.long s2), .second, .val (.long v2), .second, .val (.long k), .second, .val (.int md), .val (.long xvb), .second, .val (.long xsb), .second, .val (.ref b3), .val (.ref b5), .val (.int (own_newer v1 s1 xvb xsb)), .val (.int (own_newer xvb xsb v1 s1)), .val (.int (own_newer v1 s1 v1 s1)), .val (.int z20), .unset] [(.int (own_newer v1 s1 v1 s1))])
    refine own_go (fun _ => XS.ifNo X16.here hx rfl (hb hby at_108) rfl (Jvm.Free.XT.i0_ne_f (own_self _ _))) ?_
    show own_G p e below Φ T16 (mkF m 111 #[.val (.long s1), .second, .val (.long v1), .second, .val (.long s2), .second, .val (.long v2), .second, .val (.long k), .second, .val (.int md), .val (.long xvb), .second, .val (.long xsb), .second, .val (.ref b3), .val (.ref b5), .val (.int (own_newer v1 s1 xvb xsb)), .val (.int (own_newer xvb xsb v1 s1)), .val (.int (own_newer v1 s1 v1 s1)), .val (.int z20), .unset] [])
    refine own_go (fun _ => XS.iload X16.here hx rfl (hb hby at_111) rfl) ?_
    show own_G p e below Φ T16 (mkF m 113 #[.val (.long s1), .second, .val (.long v1), .second, .val (.long s2), .second, .val (.long v2), .second, .val (.long k), .second, .val (.int md), .val (.long xvb), .second, .val (.long xsb), .second, .val (.ref b3), .val (.ref b5), .val (.int (own_newer v1 s1 xvb xsb)), .val (.int (own_newer xvb xsb v1 s1)), .val (.int (own_newer v1 s1 v1 s1)), .val (.int z20), .unset] [(.int (own_newer v1 s1 xvb xsb))])
    have hJ141_17 : ∀ (T' : State), own_Al X16 T' → T'.heap = T6.heap → ∀ (_ : True), own_G p e below Φ T' (mkF m 141 #[.val (.long s1), .second, .val (.long v1), .second, .val (.long s2), .second, .val (.long v2), .second, .val (.long k), .second, .val (.int md), .val (.long xvb), .second, .val (.long xsb), .second, .val (.ref b3), .val (.ref b5), .val (.int (own_newer v1 s1 xvb xsb)), .val (.int (own_newer xvb xsb v1 s1)), .val (.int (own_newer v1 s1 v1 s1)), .val (.int z20), .unset] [(.int (1 : Int32))]) := by
      intro T17 X17' e17 _
      have X17 : Stand _ _ _ _ _ _ _ _ _ _ T17 _ _ _ := X17'
      show own_G p e below Φ T17 (mkF m 141 #[.val (.long s1), .second, .val (.long v1), .second, .val (.long s2), .second, .val (.long v2), .second, .val (.long k), .second, .val (.int md), .val (.long xvb), .second, .val (.long xsb), .second, .val (.ref b3), .val (.ref b5), .val (.int (own_newer v1 s1 xvb xsb)), .val (.int (own_newer xvb xsb v1 s1)), .val (.int (own_newer v1 s1 v1 s1)), .val (.int z20), .unset] [(.int (1 : Int32))])
      refine own_go (fun _ => XS.istore X17.here hx rfl (hb hby at_141) rfl (l' := #[.val (.long s1), .second, .val (.long v1), .second, .val (.long s2), .second, .val (.long v2), .second, .val (.long k), .second, .val (.int md), .val (.long xvb), .second, .val (.long xsb), .second, .val (.ref b3), .val (.ref b5), .val (.int (own_newer v1 s1 xvb xsb)), .val (.int (own_newer xvb xsb v1 s1)), .val (.int (own_newer v1 s1 v1 s1)), .val (.int z20), .val (.int (1 : Int32))]) rfl) ?_
      show own_G p e below Φ T17 (mkF m 143 #[.val (.long s1), .second, .val (.long v1), .second, .val (.long s2), .second, .val (.long v2), .second, .val (.long k), .second, .val (.int md), .val (.long xvb), .second, .val (.long xsb), .second, .val (.ref b3), .val (.ref b5), .val (.int (own_newer v1 s1 xvb xsb)), .val (.int (own_newer xvb xsb v1 s1)), .val (.int (own_newer v1 s1 v1 s1)), .val (.int z20), .val (.int (1 : Int32))] [])
      refine own_go (fun _ => XS.iload X17.here hx rfl (hb hby at_143) rfl) ?_
      show own_G p e below Φ T17 (mkF m 145 #[.val (.long s1), .second, .val (.long v1), .second, .val (.long s2), .second, .val (.long v2), .second, .val (.long k), .second, .val (.int md), .val (.long xvb), .second, .val (.long xsb), .second, .val (.ref b3), .val (.ref b5), .val (.int (own_newer v1 s1 xvb xsb)), .val (.int (own_newer xvb xsb v1 s1)), .val (.int (own_newer v1 s1 v1 s1)), .val (.int z20), .val (.int (1 : Int32))] [(.int (own_newer v1 s1 xvb xsb))])
      refine own_go (fun _ => XS.lloadN X17.here hx rfl (hb hby at_145) rfl) ?_
      show own_G p e below Φ T17 (mkF m 146 #[.val (.long s1), .second, .val (.long v1), .second, .val (.long s2), .second, .val (.long v2), .second, .val (.long k), .second, .val (.int md), .val (.long xvb), .second, .val (.long xsb), .second, .val (.ref b3), .val (.ref b5), .val (.int (own_newer v1 s1 xvb xsb)), .val (.int (own_newer xvb xsb v1 s1)), .val (.int (own_newer v1 s1 v1 s1)), .val (.int z20), .val (.int (1 : Int32))] [(.long s1), (.int (own_newer v1 s1 xvb xsb))])
      refine own_go (fun _ => XS.lloadN X17.here hx rfl (hb hby at_146) rfl) ?_
      show own_G p e below Φ T17 (mkF m 147 #[.val (.long s1), .second, .val (.long v1), .second, .val (.long s2), .second, .val (.long v2), .second, .val (.long k), .second, .val (.int md), .val (.long xvb), .second, .val (.long xsb), .second, .val (.ref b3), .val (.ref b5), .val (.int (own_newer v1 s1 xvb xsb)), .val (.int (own_newer xvb xsb v1 s1)), .val (.int (own_newer v1 s1 v1 s1)), .val (.int z20), .val (.int (1 : Int32))] [(.long v1), (.long s1), (.int (own_newer v1 s1 xvb xsb))])
      refine own_go (fun _ => XS.lload X17.here hx rfl (hb hby at_147) rfl) ?_
      show own_G p e below Φ T17 (mkF m 149 #[.val (.long s1), .second, .val (.long v1), .second, .val (.long s2), .second, .val (.long v2), .second, .val (.long k), .second, .val (.int md), .val (.long xvb), .second, .val (.long xsb), .second, .val (.ref b3), .val (.ref b5), .val (.int (own_newer v1 s1 xvb xsb)), .val (.int (own_newer xvb xsb v1 s1)), .val (.int (own_newer v1 s1 v1 s1)), .val (.int z20), .val (.int (1 : Int32))] [(.long xsb), (.long v1), (.long s1), (.int (own_newer v1 s1 xvb xsb))])
      refine own_go (fun _ => XS.lload X17.here hx rfl (hb hby at_149) rfl) ?_
      show own_G p e below Φ T17 (mkF m 151 #[.val (.long s1), .second, .val (.long v1), .second, .val (.long s2), .second, .val (.long v2), .second, .val (.long k), .second, .val (.int md), .val (.long xvb), .second, .val (.long xsb), .second, .val (.ref b3), .val (.ref b5), .val (.int (own_newer v1 s1 xvb xsb)), .val (.int (own_newer xvb xsb v1 s1)), .val (.int (own_newer v1 s1 v1 s1)), .val (.int z20), .val (.int (1 : Int32))] [(.long xvb), (.long xsb), (.long v1), (.long s1), (.int (own_newer v1 s1 xvb xsb))])
      obtain ⟨_, _, ⟨T18, L18, k18, n18⟩, -, X18, ⟨Lc18, hQ18, l18, y18, z18⟩, st18⟩ := Jvm.LawKit.callS X17 hx (y := (⟨"com/example/brickwork/brickwork/wire/SavedCopyNewerPinLaw", "ref", "(JJJJ)Z"⟩ : MethodName)) hown (mvT hZ (wd_30 hw)) (mvT hZ (wd_31 hw)) (mvT hZ (wd_2 hw)) (mvT hZ (wd_32 hw)) (by decide) (backOf (W := 1) (rm6 l Z a0 hw [] s1 v1 xsb xvb T6.heap n0 Zp6 ) hZ (wd_32 hw) (wd_2 hw) (by decide) (by decide)) (g := (mkF m 151 #[.val (.long s1), .second, .val (.long v1), .second, .val (.long s2), .second, .val (.long v2), .second, .val (.long k), .second, .val (.int md), .val (.long xvb), .second, .val (.long xsb), .second, .val (.ref b3), .val (.ref b5), .val (.int (own_newer v1 s1 xvb xsb)), .val (.int (own_newer xvb xsb v1 s1)), .val (.int (own_newer v1 s1 v1 s1)), .val (.int z20), .val (.int (1 : Int32))] [(.long xvb), (.long xsb), (.long v1), (.long s1), (.int (own_newer v1 s1 xvb xsb))])) rfl (by rw [hml]; rfl) (argsL := [(.long s1), (.long v1), (.long xsb), (.long xvb)]) (rest := [(.int (own_newer v1 s1 xvb xsb))]) (lenOf pd_4 rfl) rfl (by show 2 * 0 + _ ≤ _; exact Nat.le_of_eq rfl) (hb hby at_151) (fun _ _ => ⟨rfl, e17, (by decide : 2 + 0 ≤ _), (by decide : 6 + 0 ≤ _)⟩)
      dsimp only [Pt.U, Pt.locs, Pt.cells, Pt.slots] at X18 l18 y18 z18 st18 hQ18
      subst l18 y18 z18
      obtain ⟨rfl, N18q, hs18⟩ := hQ18
      have N18 := Fr.app N15 N18q
      refine own_go st18 ?_
      show own_G p e below Φ T18 (mkF m 154 #[.val (.long s1), .second, .val (.long v1), .second, .val (.long s2), .second, .val (.long v2), .second, .val (.long k), .second, .val (.int md), .val (.long xvb), .second, .val (.long xsb), .second, .val (.ref b3), .val (.ref b5), .val (.int (own_newer v1 s1 xvb xsb)), .val (.int (own_newer xvb xsb v1 s1)), .val (.int (own_newer v1 s1 v1 s1)), .val (.int z20), .val (.int (1 : Int32))] [(.int (own_ref s1 v1 xsb xvb)), (.int (own_newer v1 s1 xvb xsb))])
      refine own_go (fun _ => XS.icmpNo X18.here hx rfl (hb hby at_154) rfl (Jvm.Free.XT.ii_ne_f (own_nr _ _ _ _))) ?_
      show own_G p e below Φ T18 (mkF m 157 #[.val (.long s1), .second, .val (.long v1), .second, .val (.long s2), .second, .val (.long v2), .second, .val (.long k), .second, .val (.int md), .val (.long xvb), .second, .val (.long xsb), .second, .val (.ref b3), .val (.ref b5), .val (.int (own_newer v1 s1 xvb xsb)), .val (.int (own_newer xvb xsb v1 s1)), .val (.int (own_newer v1 s1 v1 s1)), .val (.int z20), .val (.int (1 : Int32))] [])
      refine own_go (fun _ => XS.iload X18.here hx rfl (hb hby at_157) rfl) ?_
      show own_G p e below Φ T18 (mkF m 159 #[.val (.long s1), .second, .val (.long v1), .second, .val (.long s2), .second, .val (.long v2), .second, .val (.long k), .second, .val (.int md), .val (.long xvb), .second, .val (.long xsb), .second, .val (.ref b3), .val (.ref b5), .val (.int (own_newer v1 s1 xvb xsb)), .val (.int (own_newer xvb xsb v1 s1)), .val (.int (own_newer v1 s1 v1 s1)), .val (.int z20), .val (.int (1 : Int32))] [(.int (own_newer xvb xsb v1 s1))])
      refine own_go (fun _ => XS.lload X18.here hx rfl (hb hby at_159) rfl) ?_
      show own_G p e below Φ T18 (mkF m 161 #[.val (.long s1), .second, .val (.long v1), .second, .val (.long s2), .second, .val (.long v2), .second, .val (.long k), .second, .val (.int md), .val (.long xvb), .second, .val (.long xsb), .second, .val (.ref b3), .val (.ref b5), .val (.int (own_newer v1 s1 xvb xsb)), .val (.int (own_newer xvb xsb v1 s1)), .val (.int (own_newer v1 s1 v1 s1)), .val (.int z20), .val (.int (1 : Int32))] [(.long xsb), (.int (own_newer xvb xsb v1 s1))])
      refine own_go (fun _ => XS.lload X18.here hx rfl (hb hby at_161) rfl) ?_
      show own_G p e below Φ T18 (mkF m 163 #[.val (.long s1), .second, .val (.long v1), .second, .val (.long s2), .second, .val (.long v2), .second, .val (.long k), .second, .val (.int md), .val (.long xvb), .second, .val (.long xsb), .second, .val (.ref b3), .val (.ref b5), .val (.int (own_newer v1 s1 xvb xsb)), .val (.int (own_newer xvb xsb v1 s1)), .val (.int (own_newer v1 s1 v1 s1)), .val (.int z20), .val (.int (1 : Int32))] [(.long xvb), (.long xsb), (.int (own_newer xvb xsb v1 s1))])
      refine own_go (fun _ => XS.lloadN X18.here hx rfl (hb hby at_163) rfl) ?_
      show own_G p e below Φ T18 (mkF m 164 #[.val (.long s1), .second, .val (.long v1), .second, .val (.long s2), .second, .val (.long v2), .second, .val (.long k), .second, .val (.int md), .val (.long xvb), .second, .val (.long xsb), .second, .val (.ref b3), .val (.ref b5), .val (.int (own_newer v1 s1 xvb xsb)), .val (.int (own_newer xvb xsb v1 s1)), .val (.int (own_newer v1 s1 v1 s1)), .val (.int z20), .val (.int (1 : Int32))] [(.long s1), (.long xvb), (.long xsb), (.int (own_newer xvb xsb v1 s1))])
      refine own_go (fun _ => XS.lloadN X18.here hx rfl (hb hby at_164) rfl) ?_
      show own_G p e below Φ T18 (mkF m 165 #[.val (.long s1), .second, .val (.long v1), .second, .val (.long s2), .second, .val (.long v2), .second, .val (.long k), .second, .val (.int md), .val (.long xvb), .second, .val (.long xsb), .second, .val (.ref b3), .val (.ref b5), .val (.int (own_newer v1 s1 xvb xsb)), .val (.int (own_newer xvb xsb v1 s1)), .val (.int (own_newer v1 s1 v1 s1)), .val (.int z20), .val (.int (1 : Int32))] [(.long v1), (.long s1), (.long xvb), (.long xsb), (.int (own_newer xvb xsb v1 s1))])
      obtain ⟨_, _, ⟨T19, L19, k19, n19⟩, -, X19, ⟨Lc19, hQ19, l19, y19, z19⟩, st19⟩ := Jvm.LawKit.callS X18 hx (y := (⟨"com/example/brickwork/brickwork/wire/SavedCopyNewerPinLaw", "ref", "(JJJJ)Z"⟩ : MethodName)) hown (mvT hZ (wd_30 hw)) (mvT hZ (wd_31 hw)) (mvT hZ (wd_2 hw)) (mvT hZ (wd_32 hw)) (by decide) (backOf (W := 1) (rm6 l Z a0 hw [] xsb xvb s1 v1 T6.heap n0 Zp6 ) hZ (wd_32 hw) (wd_2 hw) (by decide) (by decide)) (g := (mkF m 165 #[.val (.long s1), .second, .val (.long v1), .second, .val (.long s2), .second, .val (.long v2), .second, .val (.long k), .second, .val (.int md), .val (.long xvb), .second, .val (.long xsb), .second, .val (.ref b3), .val (.ref b5), .val (.int (own_newer v1 s1 xvb xsb)), .val (.int (own_newer xvb xsb v1 s1)), .val (.int (own_newer v1 s1 v1 s1)), .val (.int z20), .val (.int (1 : Int32))] [(.long v1), (.long s1), (.long xvb), (.long xsb), (.int (own_newer xvb xsb v1 s1))])) rfl (by rw [hml]; rfl) (argsL := [(.long xsb), (.long xvb), (.long s1), (.long v1)]) (rest := [(.int (own_newer xvb xsb v1 s1))]) (lenOf pd_4 rfl) rfl (by show 2 * 0 + _ ≤ _; exact Nat.le_of_eq rfl) (hb hby at_165) (fun _ _ => ⟨rfl, hs18, (by decide : 2 + 0 ≤ _), (by decide : 6 + 0 ≤ _)⟩)
      dsimp only [Pt.U, Pt.locs, Pt.cells, Pt.slots] at X19 l19 y19 z19 st19 hQ19
      subst l19 y19 z19
      obtain ⟨rfl, N19q, hs19⟩ := hQ19
      have N19 := Fr.app N18 N19q
      refine own_go st19 ?_
      show own_G p e below Φ T19 (mkF m 168 #[.val (.long s1), .second, .val (.long v1), .second, .val (.long s2), .second, .val (.long v2), .second, .val (.long k), .second, .val (.int md), .val (.long xvb), .second, .val (.long xsb), .second, .val (.ref b3), .val (.ref b5), .val (.int (own_newer v1 s1 xvb xsb)), .val (.int (own_newer xvb xsb v1 s1)), .val (.int (own_newer v1 s1 v1 s1)), .val (.int z20), .val (.int (1 : Int32))] [(.int (own_ref xsb xvb s1 v1)), (.int (own_newer xvb xsb v1 s1))])
      refine own_go (fun _ => XS.icmpNo X19.here hx rfl (hb hby at_168) rfl (Jvm.Free.XT.ii_ne_f (own_nr _ _ _ _))) ?_
      show own_G p e below Φ T19 (mkF m 171 #[.val (.long s1), .second, .val (.long v1), .second, .val (.long s2), .second, .val (.long v2), .second, .val (.long k), .second, .val (.int md), .val (.long xvb), .second, .val (.long xsb), .second, .val (.ref b3), .val (.ref b5), .val (.int (own_newer v1 s1 xvb xsb)), .val (.int (own_newer xvb xsb v1 s1)), .val (.int (own_newer v1 s1 v1 s1)), .val (.int z20), .val (.int (1 : Int32))] [])
      refine own_go (fun _ => XS.iload X19.here hx rfl (hb hby at_171) rfl) ?_
      show own_G p e below Φ T19 (mkF m 173 #[.val (.long s1), .second, .val (.long v1), .second, .val (.long s2), .second, .val (.long v2), .second, .val (.long k), .second, .val (.int md), .val (.long xvb), .second, .val (.long xsb), .second, .val (.ref b3), .val (.ref b5), .val (.int (own_newer v1 s1 xvb xsb)), .val (.int (own_newer xvb xsb v1 s1)), .val (.int (own_newer v1 s1 v1 s1)), .val (.int z20), .val (.int (1 : Int32))] [(.int (1 : Int32))])
      refine own_go (fun _ => XS.ifNo X19.here hx rfl (hb hby at_173) rfl (Jvm.Free.XT.i0_eq_f (by decide : ¬ ((1 : Int32) = (0 : Int32))))) ?_
      show own_G p e below Φ T19 (mkF m 176 #[.val (.long s1), .second, .val (.long v1), .second, .val (.long s2), .second, .val (.long v2), .second, .val (.long k), .second, .val (.int md), .val (.long xvb), .second, .val (.long xsb), .second, .val (.ref b3), .val (.ref b5), .val (.int (own_newer v1 s1 xvb xsb)), .val (.int (own_newer xvb xsb v1 s1)), .val (.int (own_newer v1 s1 v1 s1)), .val (.int z20), .val (.int (1 : Int32))] [])
      refine own_go (fun _ => XS.iconst X19.here hx rfl (hb hby at_176)) ?_
      show own_G p e below Φ T19 (mkF m 177 #[.val (.long s1), .second, .val (.long v1), .second, .val (.long s2), .second, .val (.long v2), .second, .val (.long k), .second, .val (.int md), .val (.long xvb), .second, .val (.long xsb), .second, .val (.ref b3), .val (.ref b5), .val (.int (own_newer v1 s1 xvb xsb)), .val (.int (own_newer xvb xsb v1 s1)), .val (.int (own_newer v1 s1 v1 s1)), .val (.int z20), .val (.int (1 : Int32))] [(.int (1 : Int32))])
      refine own_go (fun _ => XS.goto X19.here hx rfl (pc0 := 177) (pc' := 181) rfl (hb hby at_177) (by decide) (by decide)) ?_
      show own_G p e below Φ T19 (mkF m 181 #[.val (.long s1), .second, .val (.long v1), .second, .val (.long s2), .second, .val (.long v2), .second, .val (.long k), .second, .val (.int md), .val (.long xvb), .second, .val (.long xsb), .second, .val (.ref b3), .val (.ref b5), .val (.int (own_newer v1 s1 xvb xsb)), .val (.int (own_newer xvb xsb v1 s1)), .val (.int (own_newer v1 s1 v1 s1)), .val (.int z20), .val (.int (1 : Int32))] [(.int (1 : Int32))])
      rw [hΦ]
      refine own_ret X19 (v := some (.int (1 : Int32))) (fun h => by rw [Bd.returns] at h; cases h) (BodyLoose.notSynchronized Bd) (fun fs hr => retN X19 hx (t := .boolean) Bd.returns (by simp) (hb hby at_181) hr) ?_ (by decide) (by decide)
      rw [hs19]
      exact ⟨rfl, N19⟩
    by_cases hc113 : (own_newer v1 s1 xvb xsb) = (0 : Int32)
    · refine own_go (fun _ => XS.ifYes X16.here hx rfl (pc0 := 113) (pc' := 121) rfl (hb hby at_113) rfl (Jvm.Free.XT.i0_eq_t hc113) (by decide) (by decide)) ?_
      show own_G p e below Φ T16 (mkF m 121 #[.val (.long s1), .second, .val (.long v1), .second, .val (.long s2), .second, .val (.long v2), .second, .val (.long k), .second, .val (.int md), .val (.long xvb), .second, .val (.long xsb), .second, .val (.ref b3), .val (.ref b5), .val (.int (own_newer v1 s1 xvb xsb)), .val (.int (own_newer xvb xsb v1 s1)), .val (.int (own_newer v1 s1 v1 s1)), .val (.int z20), .unset] [])
      refine own_go (fun _ => XS.iload X16.here hx rfl (hb hby at_121) rfl) ?_
      show own_G p e below Φ T16 (mkF m 123 #[.val (.long s1), .second, .val (.long v1), .second, .val (.long s2), .second, .val (.long v2), .second, .val (.long k), .second, .val (.int md), .val (.long xvb), .second, .val (.long xsb), .second, .val (.ref b3), .val (.ref b5), .val (.int (own_newer v1 s1 xvb xsb)), .val (.int (own_newer xvb xsb v1 s1)), .val (.int (own_newer v1 s1 v1 s1)), .val (.int z20), .unset] [(.int (own_newer v1 s1 xvb xsb))])
      refine own_go (fun _ => XS.ifNo X16.here hx rfl (hb hby at_123) rfl (Jvm.Free.XT.i0_ne_f hc113)) ?_
      show own_G p e below Φ T16 (mkF m 126 #[.val (.long s1), .second, .val (.long v1), .second, .val (.long s2), .second, .val (.long v2), .second, .val (.long k), .second, .val (.int md), .val (.long xvb), .second, .val (.long xsb), .second, .val (.ref b3), .val (.ref b5), .val (.int (own_newer v1 s1 xvb xsb)), .val (.int (own_newer xvb xsb v1 s1)), .val (.int (own_newer v1 s1 v1 s1)), .val (.int z20), .unset] [])
      refine own_go (fun _ => XS.iload X16.here hx rfl (hb hby at_126) rfl) ?_
      show own_G p e below Φ T16 (mkF m 128 #[.val (.long s1), .second, .val (.long v1), .second, .val (.long s2), .second, .val (.long v2), .second, .val (.long k), .second, .val (.int md), .val (.long xvb), .second, .val (.long xsb), .second, .val (.ref b3), .val (.ref b5), .val (.int (own_newer v1 s1 xvb xsb)), .val (.int (own_newer xvb xsb v1 s1)), .val (.int (own_newer v1 s1 v1 s1)), .val (.int z20), .unset] [(.int (own_newer xvb xsb v1 s1))])
      by_cases hc128 : (own_newer xvb xsb v1 s1) = (0 : Int32)
      · refine own_go (fun _ => XS.ifNo X16.here hx rfl (hb hby at_128) rfl (Jvm.Free.XT.i0_ne_f hc128)) ?_
        show own_G p e below Φ T16 (mkF m 131 #[.val (.long s1), .second, .val (.long v1), .second, .val (.long s2), .second, .val (.long v2), .second, .val (.long k), .second, .val (.int md), .val (.long xvb), .second, .val (.long xsb), .second, .val (.ref b3), .val (.ref b5), .val (.int (own_newer v1 s1 xvb xsb)), .val (.int (own_newer xvb xsb v1 s1)), .val (.int (own_newer v1 s1 v1 s1)), .val (.int z20), .unset] [])
        refine own_go (fun _ => XS.iload X16.here hx rfl (hb hby at_131) rfl) ?_
        show own_G p e below Φ T16 (mkF m 133 #[.val (.long s1), .second, .val (.long v1), .second, .val (.long s2), .second, .val (.long v2), .second, .val (.long k), .second, .val (.int md), .val (.long xvb), .second, .val (.long xsb), .second, .val (.ref b3), .val (.ref b5), .val (.int (own_newer v1 s1 xvb xsb)), .val (.int (own_newer xvb xsb v1 s1)), .val (.int (own_newer v1 s1 v1 s1)), .val (.int z20), .unset] [(.int z20)])
        refine own_go (fun _ => XS.ifNo X16.here hx rfl (hb hby at_133) rfl (Jvm.Free.XT.i0_eq_f (fun q => by rw [h_z20 (own_tot hc113 hc128)] at q; exact absurd q (by decide)))) ?_
        show own_G p e below Φ T16 (mkF m 136 #[.val (.long s1), .second, .val (.long v1), .second, .val (.long s2), .second, .val (.long v2), .second, .val (.long k), .second, .val (.int md), .val (.long xvb), .second, .val (.long xsb), .second, .val (.ref b3), .val (.ref b5), .val (.int (own_newer v1 s1 xvb xsb)), .val (.int (own_newer xvb xsb v1 s1)), .val (.int (own_newer v1 s1 v1 s1)), .val (.int z20), .unset] [])
        refine own_go (fun _ => XS.iconst X16.here hx rfl (hb hby at_136)) ?_
        show own_G p e below Φ T16 (mkF m 137 #[.val (.long s1), .second, .val (.long v1), .second, .val (.long s2), .second, .val (.long v2), .second, .val (.long k), .second, .val (.int md), .val (.long xvb), .second, .val (.long xsb), .second, .val (.ref b3), .val (.ref b5), .val (.int (own_newer v1 s1 xvb xsb)), .val (.int (own_newer xvb xsb v1 s1)), .val (.int (own_newer v1 s1 v1 s1)), .val (.int z20), .unset] [(.int (1 : Int32))])
        refine own_go (fun _ => XS.goto X16.here hx rfl (pc0 := 137) (pc' := 141) rfl (hb hby at_137) (by decide) (by decide)) ?_
        exact hJ141_17 _ X16 e16 trivial 
      · refine own_go (fun _ => XS.ifYes X16.here hx rfl (pc0 := 128) (pc' := 136) rfl (hb hby at_128) rfl (Jvm.Free.XT.i0_ne_t hc128) (by decide) (by decide)) ?_
        show own_G p e below Φ T16 (mkF m 136 #[.val (.long s1), .second, .val (.long v1), .second, .val (.long s2), .second, .val (.long v2), .second, .val (.long k), .second, .val (.int md), .val (.long xvb), .second, .val (.long xsb), .second, .val (.ref b3), .val (.ref b5), .val (.int (own_newer v1 s1 xvb xsb)), .val (.int (own_newer xvb xsb v1 s1)), .val (.int (own_newer v1 s1 v1 s1)), .val (.int z20), .unset] [])
        refine own_go (fun _ => XS.iconst X16.here hx rfl (hb hby at_136)) ?_
        show own_G p e below Φ T16 (mkF m 137 #[.val (.long s1), .second, .val (.long v1), .second, .val (.long s2), .second, .val (.long v2), .second, .val (.long k), .second, .val (.int md), .val (.long xvb), .second, .val (.long xsb), .second, .val (.ref b3), .val (.ref b5), .val (.int (own_newer v1 s1 xvb xsb)), .val (.int (own_newer xvb xsb v1 s1)), .val (.int (own_newer v1 s1 v1 s1)), .val (.int z20), .unset] [(.int (1 : Int32))])
        refine own_go (fun _ => XS.goto X16.here hx rfl (pc0 := 137) (pc' := 141) rfl (hb hby at_137) (by decide) (by decide)) ?_
        exact hJ141_17 _ X16 e16 trivial 
    · refine own_go (fun _ => XS.ifNo X16.here hx rfl (hb hby at_113) rfl (Jvm.Free.XT.i0_eq_f hc113)) ?_
      show own_G p e below Φ T16 (mkF m 116 #[.val (.long s1), .second, .val (.long v1), .second, .val (.long s2), .second, .val (.long v2), .second, .val (.long k), .second, .val (.int md), .val (.long xvb), .second, .val (.long xsb), .second, .val (.ref b3), .val (.ref b5), .val (.int (own_newer v1 s1 xvb xsb)), .val (.int (own_newer xvb xsb v1 s1)), .val (.int (own_newer v1 s1 v1 s1)), .val (.int z20), .unset] [])
      refine own_go (fun _ => XS.iload X16.here hx rfl (hb hby at_116) rfl) ?_
      show own_G p e below Φ T16 (mkF m 118 #[.val (.long s1), .second, .val (.long v1), .second, .val (.long s2), .second, .val (.long v2), .second, .val (.long k), .second, .val (.int md), .val (.long xvb), .second, .val (.long xsb), .second, .val (.ref b3), .val (.ref b5), .val (.int (own_newer v1 s1 xvb xsb)), .val (.int (own_newer xvb xsb v1 s1)), .val (.int (own_newer v1 s1 v1 s1)), .val (.int z20), .unset] [(.int (own_newer xvb xsb v1 s1))])
      refine own_go (fun _ => XS.ifNo X16.here hx rfl (hb hby at_118) rfl (Jvm.Free.XT.i0_ne_f (own_anti hc113))) ?_
      show own_G p e below Φ T16 (mkF m 121 #[.val (.long s1), .second, .val (.long v1), .second, .val (.long s2), .second, .val (.long v2), .second, .val (.long k), .second, .val (.int md), .val (.long xvb), .second, .val (.long xsb), .second, .val (.ref b3), .val (.ref b5), .val (.int (own_newer v1 s1 xvb xsb)), .val (.int (own_newer xvb xsb v1 s1)), .val (.int (own_newer v1 s1 v1 s1)), .val (.int z20), .unset] [])
      refine own_go (fun _ => XS.iload X16.here hx rfl (hb hby at_121) rfl) ?_
      show own_G p e below Φ T16 (mkF m 123 #[.val (.long s1), .second, .val (.long v1), .second, .val (.long s2), .second, .val (.long v2), .second, .val (.long k), .second, .val (.int md), .val (.long xvb), .second, .val (.long xsb), .second, .val (.ref b3), .val (.ref b5), .val (.int (own_newer v1 s1 xvb xsb)), .val (.int (own_newer xvb xsb v1 s1)), .val (.int (own_newer v1 s1 v1 s1)), .val (.int z20), .unset] [(.int (own_newer v1 s1 xvb xsb))])
      refine own_go (fun _ => XS.ifYes X16.here hx rfl (pc0 := 123) (pc' := 136) rfl (hb hby at_123) rfl (Jvm.Free.XT.i0_ne_t hc113) (by decide) (by decide)) ?_
      show own_G p e below Φ T16 (mkF m 136 #[.val (.long s1), .second, .val (.long v1), .second, .val (.long s2), .second, .val (.long v2), .second, .val (.long k), .second, .val (.int md), .val (.long xvb), .second, .val (.long xsb), .second, .val (.ref b3), .val (.ref b5), .val (.int (own_newer v1 s1 xvb xsb)), .val (.int (own_newer xvb xsb v1 s1)), .val (.int (own_newer v1 s1 v1 s1)), .val (.int z20), .unset] [])
      refine own_go (fun _ => XS.iconst X16.here hx rfl (hb hby at_136)) ?_
      show own_G p e below Φ T16 (mkF m 137 #[.val (.long s1), .second, .val (.long v1), .second, .val (.long s2), .second, .val (.long v2), .second, .val (.long k), .second, .val (.int md), .val (.long xvb), .second, .val (.long xsb), .second, .val (.ref b3), .val (.ref b5), .val (.int (own_newer v1 s1 xvb xsb)), .val (.int (own_newer xvb xsb v1 s1)), .val (.int (own_newer v1 s1 v1 s1)), .val (.int z20), .unset] [(.int (1 : Int32))])
      refine own_go (fun _ => XS.goto X16.here hx rfl (pc0 := 137) (pc' := 141) rfl (hb hby at_137) (by decide) (by decide)) ?_
      exact hJ141_17 _ X16 e16 trivial 
  by_cases hc89 : v1 = xvb
  · refine own_go (fun _ => XS.ifNo X15.here hx rfl (hb hby at_89) rfl (Jvm.Free.XT.ll_ne_f hc89)) ?_
    show own_G p e below Φ T15 (mkF m 92 #[.val (.long s1), .second, .val (.long v1), .second, .val (.long s2), .second, .val (.long v2), .second, .val (.long k), .second, .val (.int md), .val (.long xvb), .second, .val (.long xsb), .second, .val (.ref b3), .val (.ref b5), .val (.int (own_newer v1 s1 xvb xsb)), .val (.int (own_newer xvb xsb v1 s1)), .val (.int (own_newer v1 s1 v1 s1)), .unset, .unset] [])
    refine own_go (fun _ => XS.lloadN X15.here hx rfl (hb hby at_92) rfl) ?_
    show own_G p e below Φ T15 (mkF m 93 #[.val (.long s1), .second, .val (.long v1), .second, .val (.long s2), .second, .val (.long v2), .second, .val (.long k), .second, .val (.int md), .val (.long xvb), .second, .val (.long xsb), .second, .val (.ref b3), .val (.ref b5), .val (.int (own_newer v1 s1 xvb xsb)), .val (.int (own_newer xvb xsb v1 s1)), .val (.int (own_newer v1 s1 v1 s1)), .unset, .unset] [(.long s1)])
    refine own_go (fun _ => XS.lload X15.here hx rfl (hb hby at_93) rfl) ?_
    show own_G p e below Φ T15 (mkF m 95 #[.val (.long s1), .second, .val (.long v1), .second, .val (.long s2), .second, .val (.long v2), .second, .val (.long k), .second, .val (.int md), .val (.long xvb), .second, .val (.long xsb), .second, .val (.ref b3), .val (.ref b5), .val (.int (own_newer v1 s1 xvb xsb)), .val (.int (own_newer xvb xsb v1 s1)), .val (.int (own_newer v1 s1 v1 s1)), .unset, .unset] [(.long xsb), (.long s1)])
    refine own_go (fun _ => XS.lcmp X15.here hx rfl (hb hby at_95) rfl) ?_
    show own_G p e below Φ T15 (mkF m 96 #[.val (.long s1), .second, .val (.long v1), .second, .val (.long s2), .second, .val (.long v2), .second, .val (.long k), .second, .val (.int md), .val (.long xvb), .second, .val (.long xsb), .second, .val (.ref b3), .val (.ref b5), .val (.int (own_newer v1 s1 xvb xsb)), .val (.int (own_newer xvb xsb v1 s1)), .val (.int (own_newer v1 s1 v1 s1)), .unset, .unset] [(.int (lcmpW s1 xsb))])
    by_cases hc96 : s1 = xsb
    · refine own_go (fun _ => XS.ifNo X15.here hx rfl (hb hby at_96) rfl (Jvm.Free.XT.ll_ne_f hc96)) ?_
      show own_G p e below Φ T15 (mkF m 99 #[.val (.long s1), .second, .val (.long v1), .second, .val (.long s2), .second, .val (.long v2), .second, .val (.long k), .second, .val (.int md), .val (.long xvb), .second, .val (.long xsb), .second, .val (.ref b3), .val (.ref b5), .val (.int (own_newer v1 s1 xvb xsb)), .val (.int (own_newer xvb xsb v1 s1)), .val (.int (own_newer v1 s1 v1 s1)), .unset, .unset] [])
      refine own_go (fun _ => XS.iconst X15.here hx rfl (hb hby at_99)) ?_
      show own_G p e below Φ T15 (mkF m 100 #[.val (.long s1), .second, .val (.long v1), .second, .val (.long s2), .second, .val (.long v2), .second, .val (.long k), .second, .val (.int md), .val (.long xvb), .second, .val (.long xsb), .second, .val (.ref b3), .val (.ref b5), .val (.int (own_newer v1 s1 xvb xsb)), .val (.int (own_newer xvb xsb v1 s1)), .val (.int (own_newer v1 s1 v1 s1)), .unset, .unset] [(.int (1 : Int32))])
      refine own_go (fun _ => XS.goto X15.here hx rfl (pc0 := 100) (pc' := 104) rfl (hb hby at_100) (by decide) (by decide)) ?_
      exact hJ104_16 _ X15 hs15 _ (by first | exact fun _ => rfl | exact fun q => absurd q.2 hc96 | exact fun q => absurd q.1 hc89)
    · refine own_go (fun _ => XS.ifYes X15.here hx rfl (pc0 := 96) (pc' := 103) rfl (hb hby at_96) rfl (Jvm.Free.XT.ll_ne_t hc96) (by decide) (by decide)) ?_
      show own_G p e below Φ T15 (mkF m 103 #[.val (.long s1), .second, .val (.long v1), .second, .val (.long s2), .second, .val (.long v2), .second, .val (.long k), .second, .val (.int md), .val (.long xvb), .second, .val (.long xsb), .second, .val (.ref b3), .val (.ref b5), .val (.int (own_newer v1 s1 xvb xsb)), .val (.int (own_newer xvb xsb v1 s1)), .val (.int (own_newer v1 s1 v1 s1)), .unset, .unset] [])
      refine own_go (fun _ => XS.iconst X15.here hx rfl (hb hby at_103)) ?_
      exact hJ104_16 _ X15 hs15 _ (by first | exact fun _ => rfl | exact fun q => absurd q.2 hc96 | exact fun q => absurd q.1 hc89)
  · refine own_go (fun _ => XS.ifYes X15.here hx rfl (pc0 := 89) (pc' := 103) rfl (hb hby at_89) rfl (Jvm.Free.XT.ll_ne_t hc89) (by decide) (by decide)) ?_
    show own_G p e below Φ T15 (mkF m 103 #[.val (.long s1), .second, .val (.long v1), .second, .val (.long s2), .second, .val (.long v2), .second, .val (.long k), .second, .val (.int md), .val (.long xvb), .second, .val (.long xsb), .second, .val (.ref b3), .val (.ref b5), .val (.int (own_newer v1 s1 xvb xsb)), .val (.int (own_newer xvb xsb v1 s1)), .val (.int (own_newer v1 s1 v1 s1)), .unset, .unset] [])
    refine own_go (fun _ => XS.iconst X15.here hx rfl (hb hby at_103)) ?_
    exact hJ104_16 _ X15 hs15 _ (by first | exact fun _ => rfl | exact fun q => absurd q.2 hc96 | exact fun q => absurd q.1 hc89)
set_option maxRecDepth 65536 in
set_option maxHeartbeats 40000000 in
theorem comes_1 {Post : Tables → Env → Array Value → State → Outcome → State → Prop} (hpost : ∀ tb e args s v u, (limb_1_1.after args s (.returned v) u = true ∧ limb_1_2.after args s (.returned v) u = true ∧ True) → FrameEnd s (.returned v) u (Jvm.fieldLocs frame_1_writes args s ++ Jvm.arrayLocs frame_1_arrays args s ++ Jvm.staticLocs frame_1_statics s) 16 128 → Post tb e args s (.returned v) u) :
    ArmFor flags0 classFile x code maxLocals ret World_1 tables_1 room_1 Calls_1 rest_1 Pre_1 Post := by
  intro l hfl _ _ p e ha hc hk s m args below hf hA hF happ hP
  obtain ⟨hcalls, hrest, hpre⟩ := hP
  obtain ⟨-, -, -, hnamed, -, -, -, hat⟩ := (Spec.applies_iff hf).mp happ
  obtain ⟨hg, hn⟩ := and_e (Cond.before_iff.mp (show (Jvm.Cond.and given_1 narrow_1).before args s = true from hpre))
  obtain ⟨g1, g2⟩ := and_e hg
  obtain ⟨g3, g4⟩ := and_e g2
  obtain ⟨g5, g6⟩ := and_e g4
  obtain ⟨g7, g8⟩ := and_e g6
  obtain ⟨g9, g10⟩ := and_e g8
  obtain ⟨g11, g12⟩ := and_e g10
  obtain ⟨w0, w1, w2, w3, w4, w5, rfl⟩ : ∃ w0 w1 w2 w3 w4 w5 : Value, args = #[w0, w1, w2, w3, w4, w5] := by
    have hs : args.size = 6 := by simpa [Cond.value, given_1] using g1
    obtain ⟨L⟩ := args
    match L, hs with
    | [w0, w1, w2, w3, w4, w5], _ => exact ⟨w0, w1, w2, w3, w4, w5, rfl⟩
  have hw := fun d (hd : d ∈ tables_1) => atoms_spec (ws := Jvm.Cond.code x code maxLocals ret :: tables_1) hat d (List.mem_cons_of_mem _ hd)
  obtain ⟨i0, ei0⟩ := isL_v g3
  obtain rfl : w0 = (.long i0) := Option.some.inj ei0
  obtain ⟨i1, ei1⟩ := isL_v g5
  obtain rfl : w1 = (.long i1) := Option.some.inj ei1
  obtain ⟨i2, ei2⟩ := isL_v g7
  obtain rfl : w2 = (.long i2) := Option.some.inj ei2
  obtain ⟨i3, ei3⟩ := isL_v g9
  obtain rfl : w3 = (.long i3) := Option.some.inj ei3
  obtain ⟨i4, ei4⟩ := isL_v g11
  obtain rfl : w4 = (.long i4) := Option.some.inj ei4
  obtain ⟨i5, ei5⟩ := is_v g12
  obtain rfl : w5 = (.int i5) := Option.some.inj ei5
  obtain ⟨n, o, h1, h2, h3, _, L, rfl, ⟨rfl, N⟩, hq⟩ := rm0 l s _ hw tables_1 i0 i1 i2 i3 i4 i5 s.heap s.heap.size (Nat.le_refl _)  p e ha hc hk s m _ below hf ((Spec.applies_iff_loose hf).mp happ).1 ⟨rfl, State.Warmed39.refl s, rfl⟩ trivial
  refine ⟨n, _, h1, h2, h3, hpost _ _ _ _ _ _ ⟨Cond.after_iff.mpr rfl, Cond.after_iff.mpr (eq_i res_at (Term.int_eval (1)) rfl), trivial⟩ ⟨hq.1, hq.2.1, (hq.2.2.sift fun y hy => Or.inr (N y hy)).mono (by decide) (by decide)⟩⟩
theorem main_1_1 : Claimed_1_1 := comes_1 fun _ _ _ _ _ _ h hF => ⟨h.1, hF⟩
theorem main_1_2 : Claimed_1_2 := comes_1 fun _ _ _ _ _ _ h hF => ⟨h.2.1, hF⟩
end Jvm.Pilot.@@N@@
namespace Jvm.Pilot.@@N@@
open Jvm Jvm.ClassFile Sem Op Lib Jvm.Free Jvm.Stand Jvm.Pilot.@@N@@.Jvm.D
/-! MADE BY PROGRAM (witnessworld.py) out of the Statement's table words and the real class files: 10 classes; the members and pool entries that the words name. The judged class is class 1, her method 3. -/
namespace start1
open Jvm.ClassFile
def u (s : String) : CpInfo := .utf8 (stringToUtf16 s)
/-- a pool by its gaps: so many unusable entries, then the entry; so many at the end -/
def gap : Nat → List CpInfo → List CpInfo
  | 0, r => r
  | n + 1, r => .unusable :: gap n r
def poolList (es : List (Nat × CpInfo)) (last : Nat) : List CpInfo := es.foldr (fun e r => gap e.1 (e.2 :: r)) (gap last [])
def pool (es : List (Nat × CpInfo)) (last : Nat) : Array CpInfo := ⟨poolList es last⟩
def fileOf (pool : Array CpInfo) (this : Nat) (attrs : Array Attribute := #[]) (ms : Array MethodInfo := #[]) (fl : Nat := 33) (sup : Nat := 0) (ifs : Array Nat := #[]) (fds : Array FieldInfo := #[]) : ClassFile where
  minorVersion := 0
  majorVersion := 65
  constantPool := pool
  accessFlags := fl
  thisClass := this
  superClass := sup
  interfaces := ifs
  fields := fds
  methods := ms
  attributes := attrs
def plain (name : String) (sup : Option ClassId) : Class where
  name := name
  kind := .ordinary
  loader := none
  accessFlags := 33
  super := sup
  interfaces := #[]
  cf := none
  fields := #[]
  methods := #[]
  instanceTypes := #[]
  staticTypes := #[]
  resolved := #[]
  callSites := []
  init := .initialized
  statics := none
  mirror := none

def pool0 : Array CpInfo := pool [(5, u "<init>"), (0, u "()V"), (1, .class_ 10), (1, u "java/lang/Object")] 113

def k0c0 : Code := { maxStack := 0, maxLocals := 1, code := object_method_1_code, exceptionTable := #[], attributes := #[] }
def k0m0 : Method := { name := "<init>", desc := "()V", sig := { parameters := [], returnType := none }, accessFlags := 1, code := some k0c0 }
/-- java/lang/Object -/
def k0 : Class := { plain "java/lang/Object" none with
  accessFlags := 33
  interfaces := #[]
  cf := some (fileOf pool0 8 #[] #[{ accessFlags := 1, nameIndex := 5, descriptorIndex := 6, attributes := #[] }] 33 0 #[] #[])
  fields := #[]
  methods := #[k0m0]
  instanceTypes := #[]
  staticTypes := #[]
  resolved := Array.replicate 124 none
  statics := none }

def pool1 : Array CpInfo := pool [(2, .class_ 4), (1, u "java/lang/Object"), (0, u "<init>"), (0, u "()V"), (0, .methodref 8 9), (0, .class_ 10), (0, .nameAndType 11 12), (0, u "com/example/brickwork/brickwork/wire/SavedCopyNewerPinLaw"), (0, u "pick"), (0, u "(IJJ)J"), (0, .class_ 14), (0, u "com/example/brickwork/brickwork/wire/Protocol$SavedCopy"), (0, .methodref 13 16), (0, .nameAndType 5 17), (0, u "(JJJ)V"), (0, .long 18446744073709551615), (1, .methodref 13 21), (0, .nameAndType 22 23), (0, u "newer"), (0, u "(Lcom/example/brickwork/brickwork/wire/Protocol$SavedCopy;)Z"), (0, .methodref 8 25), (0, .nameAndType 26 27), (0, u "ref"), (0, u "(JJJJ)Z"), (3, u "law"), (0, u "(JJJJJI)Z")] 6

def k1m0 : Method := { name := "<init>", desc := "()V", sig := { parameters := [], returnType := none }, accessFlags := 2, code := none }
def k1c1 : Code := { maxStack := 4, maxLocals := 5, code := method_2_code, exceptionTable := #[], attributes := #[] }
def k1m1 : Method := { name := "pick", desc := "(IJJ)J", sig := { parameters := [.int, .long, .long], returnType := some .long }, accessFlags := 10, code := some k1c1 }
def k1c2 : Code := { maxStack := 4, maxLocals := 8, code := method_3_code, exceptionTable := #[], attributes := #[] }
def k1m2 : Method := { name := "ref", desc := "(JJJJ)Z", sig := { parameters := [.long, .long, .long, .long], returnType := some .boolean }, accessFlags := 10, code := some k1c2 }
def k1c3 : Code := { maxStack := 10, maxLocals := 22, code := code, exceptionTable := #[], attributes := #[] }
def k1m3 : Method := { name := "law", desc := "(JJJJJI)Z", sig := { parameters := [.long, .long, .long, .long, .long, .int], returnType := some .boolean }, accessFlags := 9, code := some k1c3 }
/-- com/example/brickwork/brickwork/wire/SavedCopyNewerPinLaw -/
def k1 : Class := { plain "com/example/brickwork/brickwork/wire/SavedCopyNewerPinLaw" (some 0) with
  accessFlags := 49
  interfaces := #[]
  cf := some (fileOf pool1 8 #[] #[{ accessFlags := 2, nameIndex := 5, descriptorIndex := 6, attributes := #[] }, { accessFlags := 10, nameIndex := 11, descriptorIndex := 12, attributes := #[] }, { accessFlags := 10, nameIndex := 26, descriptorIndex := 27, attributes := #[] }, { accessFlags := 9, nameIndex := 31, descriptorIndex := 32, attributes := #[] }] 49 2 #[] #[])
  fields := #[]
  methods := #[k1m0, k1m1, k1m2, k1m3]
  instanceTypes := #[]
  staticTypes := #[]
  resolved := Array.replicate 39 none
  statics := none }

def pool2 : Array CpInfo := pool [(1, .methodref 2 3), (0, .class_ 4), (0, .nameAndType 5 6), (0, u "java/lang/Object"), (0, u "<init>"), (0, u "()V"), (0, .class_ 8), (0, u "java/lang/Record")] 13

def k2c0 : Code := { maxStack := 1, maxLocals := 1, code := jdk_30_method_1_code, exceptionTable := #[], attributes := #[] }
def k2m0 : Method := { name := "<init>", desc := "()V", sig := { parameters := [], returnType := none }, accessFlags := 4, code := some k2c0 }
/-- java/lang/Record -/
def k2 : Class := { plain "java/lang/Record" (some 0) with
  accessFlags := 1057
  interfaces := #[]
  cf := some (fileOf pool2 7 #[] #[{ accessFlags := 4, nameIndex := 5, descriptorIndex := 6, attributes := #[] }] 1057 2 #[] #[])
  fields := #[]
  methods := #[k2m0]
  instanceTypes := #[]
  staticTypes := #[]
  resolved := Array.replicate 22 none
  statics := none }

def pool3 : Array CpInfo := pool [(1, .methodref 2 3), (0, .class_ 4), (0, .nameAndType 5 6), (0, u "java/lang/Record"), (0, u "<init>"), (0, u "()V"), (0, .fieldref 8 9), (0, .class_ 10), (0, .nameAndType 11 12), (0, u "com/example/brickwork/brickwork/wire/Protocol$SavedCopy"), (0, u "stopped"), (0, u "J"), (0, .fieldref 8 14), (0, .nameAndType 15 12), (0, u "version"), (0, .fieldref 8 17), (0, .nameAndType 18 12), (0, u "keys"), (12, u "(JJJ)V"), (3, u "newer"), (0, u "(Lcom/example/brickwork/brickwork/wire/Protocol$SavedCopy;)Z"), (8, .class_ 46), (0, u "com/example/brickwork/brickwork/wire/Protocol")] 21

def k3c0 : Code := { maxStack := 3, maxLocals := 7, code := prog_164_method_1_code, exceptionTable := #[], attributes := #[] }
def k3m0 : Method := { name := "<init>", desc := "(JJJ)V", sig := { parameters := [.long, .long, .long], returnType := none }, accessFlags := 1, code := some k3c0 }
def k3c1 : Code := { maxStack := 4, maxLocals := 2, code := prog_164_method_2_code, exceptionTable := #[], attributes := #[] }
def k3m1 : Method := { name := "newer", desc := "(Lcom/example/brickwork/brickwork/wire/Protocol$SavedCopy;)Z", sig := { parameters := [(.object "com/example/brickwork/brickwork/wire/Protocol$SavedCopy")], returnType := some .boolean }, accessFlags := 1, code := some k3c1 }
/-- com/example/brickwork/brickwork/wire/Protocol$SavedCopy -/
def k3 : Class := { plain "com/example/brickwork/brickwork/wire/Protocol$SavedCopy" (some 2) with
  accessFlags := 49
  interfaces := #[]
  cf := some (fileOf pool3 8 #[.nestHost 45] #[{ accessFlags := 1, nameIndex := 5, descriptorIndex := 31, attributes := #[] }, { accessFlags := 1, nameIndex := 35, descriptorIndex := 36, attributes := #[] }] 49 2 #[] #[{ accessFlags := 18, nameIndex := 11, descriptorIndex := 12, attributes := #[] }, { accessFlags := 18, nameIndex := 15, descriptorIndex := 12, attributes := #[] }, { accessFlags := 18, nameIndex := 18, descriptorIndex := 12, attributes := #[] }])
  fields := #[{ name := "stopped", type := .long, accessFlags := 18, slot := 0, constantValue := 0 }, { name := "version", type := .long, accessFlags := 18, slot := 1, constantValue := 0 }, { name := "keys", type := .long, accessFlags := 18, slot := 2, constantValue := 0 }]
  methods := #[k3m0, k3m1]
  instanceTypes := #[.long, .long, .long]
  staticTypes := #[]
  resolved := Array.replicate 68 none
  statics := none }

def pool4 : Array CpInfo := pool [(1, u "java/lang/Cloneable"), (0, .class_ 1), (0, u "java/lang/Object"), (0, .class_ 3)] 3

/-- java/lang/Cloneable -/
def k4 : Class := { plain "java/lang/Cloneable" (some 0) with
  accessFlags := 1537
  interfaces := #[]
  cf := some (fileOf pool4 2 #[] #[] 1537 4 #[] #[])
  fields := #[]
  methods := #[]
  instanceTypes := #[]
  staticTypes := #[]
  resolved := Array.replicate 8 none
  statics := none }

def pool5 : Array CpInfo := pool [(1, u "java/io/Serializable"), (0, .class_ 1), (0, u "java/lang/Object"), (0, .class_ 3)] 3

/-- java/io/Serializable -/
def k5 : Class := { plain "java/io/Serializable" (some 0) with
  accessFlags := 1537
  interfaces := #[]
  cf := some (fileOf pool5 2 #[] #[] 1537 4 #[] #[])
  fields := #[]
  methods := #[]
  instanceTypes := #[]
  staticTypes := #[]
  resolved := Array.replicate 8 none
  statics := none }

/-- the primitive byte -/
def k6 : Class := { plain "byte" none with kind := .primitive 'B', accessFlags := 0x411 }
/-- [B -/
def k7 : Class := { plain "[B" (some 0) with kind := .array 6 .byte, interfaces := #[4, 5], accessFlags := 1041 }

/-- the primitive int -/
def k8 : Class := { plain "int" none with kind := .primitive 'I', accessFlags := 0x411 }
/-- [I -/
def k9 : Class := { plain "[I" (some 0) with kind := .array 8 .int, interfaces := #[4, 5], accessFlags := 1041 }

def heap : Heap := #[]
def classes : Array Class := #[k0, k1, k2, k3, k4, k5, k6, k7, k8, k9]
def interned : List (Array UInt16 × Addr) := []
def slotsUsed : Nat := 0
def theMethod : MethodId := ⟨1, 3⟩
def args0 : Array Value := #[.long 5, .long 5, .long 5, .long 5, .long 5, .int 5]
def aboutOver (below : List Frame) : State where
  vm := { classes := classes, interned := interned.toArray }
  heap := heap
  slotsUsed := slotsUsed
  threads := #[{ frames := .invoking theMethod args0 :: below }]
def below0 : List Frame := [.native { method := ⟨0, 0⟩, args := #[] }]
def about1 : State := aboutOver below0
def p0 : Program := .bare "" "" ""
def e0 : Env := launch0.env 0 0 0
theorem w_frames : about1.frames = Frame.invoking theMethod args0 :: below0 := rfl
set_option maxRecDepth 65536 in
theorem w_args : argsFit about1.vm theMethod args0 = true := by decide +kernel
set_option maxRecDepth 65536 in
theorem w_heap : heapFits about1 = true := by decide +kernel
set_option maxRecDepth 65536 in
theorem w_runnable : about1.curStatus? = some .runnable := by decide +kernel
set_option maxRecDepth 65536 in
theorem w_alone : about1.alone = true := by decide +kernel
set_option maxRecDepth 65536 in
theorem w_named : about1.methodNamed? x = some theMethod := by decide +kernel
set_option maxRecDepth 65536 in
theorem w_hears : about1.hears theMethod below0 = true := by decide +kernel
set_option maxRecDepth 65536 in
theorem w_ripe : about1.ripe theMethod args0 below0 = true := by decide +kernel
theorem w_running : about1.status = .running := rfl
set_option maxRecDepth 65536 in
theorem w_room : about1.hasRoom e0.platform room_1 = true :=
  launch0.hasRoom_least _ room_1 (by decide +kernel) (by decide +kernel) (by decide +kernel) (by decide +kernel) (by decide +kernel) (by decide +kernel)
theorem allAtoms_all (ts : List Jvm.Cond) (a : Array Jvm.Value) (st : Jvm.State) : (allAtoms ts).before a st = ts.all (fun c => c.before a st) := by
  induction ts with
  | nil => rfl
  | cons c t ih =>
    show (Jvm.Cond.and c (allAtoms t)).before a st = _
    rw [Jvm.Cond.before_and, ih, List.all_cons]
def words1 : List Jvm.Cond := Jvm.Cond.code x code maxLocals ret :: tables_1
/-- a 'code' word, met by the world's own term for the bytes: nothing is compared byte by byte -/
theorem code_word {y : MethodName} {bytes : ByteArray} {mx : Nat} {rt : Option FieldType} {a : Array Value} {s : State} {m : MethodId} {meth : Method} {c : Code} (h1 : s.methodNamed? y = some m) (h2 : s.vm.method? m = some meth) (h3 : meth.code = some c) (h4 : c.code = bytes)
    (h5 : (c.maxLocals == mx && c.exceptionTable.isEmpty && decide (c.maxStack ≤ mostOperands) && decide (meth.sig.returnType = rt) && !meth.locks && decide (parseMethodDescriptor y.desc = some meth.sig)) = true) : (Jvm.Cond.code y bytes mx rt).before a s = true := by
  simp only [Bool.and_eq_true, beq_iff_eq, Bool.not_eq_true', decide_eq_true_eq] at h5
  obtain ⟨⟨⟨⟨⟨g1, g2⟩, g3⟩, g4⟩, g5⟩, g6⟩ := h5
  simp [Cond.before, Cond.holds, Cond.value, h1, h2, h3, h4, g1, g2, g3, g4, g5, g6]
def isCode : Jvm.Cond → Bool
  | .code _ _ _ _ => true
  | _ => false
theorem all_split {L : List Jvm.Cond} {P : Jvm.Cond → Bool} (h1 : L.all (fun c => isCode c || P c) = true) (h2 : ∀ c ∈ L.filter isCode, P c = true) : L.all P = true := by
  refine List.all_eq_true.mpr fun c hc => ?_
  have h := List.all_eq_true.mp h1 c hc
  rcases Bool.eq_false_or_eq_true (isCode c) with hi | hi
  · exact h2 c (List.mem_filter.mpr ⟨hc, hi⟩)
  · simpa [hi] using h
set_option maxRecDepth 65536 in
theorem w_c0 : (Jvm.Cond.code x code maxLocals ret).before args0 about1 = true := code_word (m := ⟨1, 3⟩) (meth := k1m3) (c := k1c3) (by decide +kernel) rfl rfl rfl (by decide +kernel)
set_option maxRecDepth 65536 in
theorem w_c1 : (Jvm.Cond.code ({ cls := "com/example/brickwork/brickwork/wire/SavedCopyNewerPinLaw", name := "pick", desc := "(IJJ)J" } : Jvm.MethodName) method_2_code (5 : Nat) (Option.some Jvm.ClassFile.FieldType.long)).before args0 about1 = true := code_word (m := ⟨1, 1⟩) (meth := k1m1) (c := k1c1) (by decide +kernel) rfl rfl rfl (by decide +kernel)
set_option maxRecDepth 65536 in
theorem w_c2 : (Jvm.Cond.code ({ cls := "com/example/brickwork/brickwork/wire/Protocol$SavedCopy", name := "<init>", desc := "(JJJ)V" } : Jvm.MethodName) prog_164_method_1_code (7 : Nat) (Option.none : Option Jvm.ClassFile.FieldType)).before args0 about1 = true := code_word (m := ⟨3, 0⟩) (meth := k3m0) (c := k3c0) (by decide +kernel) rfl rfl rfl (by decide +kernel)
set_option maxRecDepth 65536 in
theorem w_c3 : (Jvm.Cond.code ({ cls := "java/lang/Record", name := "<init>", desc := "()V" } : Jvm.MethodName) jdk_30_method_1_code (1 : Nat) (Option.none : Option Jvm.ClassFile.FieldType)).before args0 about1 = true := code_word (m := ⟨2, 0⟩) (meth := k2m0) (c := k2c0) (by decide +kernel) rfl rfl rfl (by decide +kernel)
set_option maxRecDepth 65536 in
theorem w_c4 : (Jvm.Cond.code ({ cls := "java/lang/Object", name := "<init>", desc := "()V" } : Jvm.MethodName) object_method_1_code (1 : Nat) (Option.none : Option Jvm.ClassFile.FieldType)).before args0 about1 = true := code_word (m := ⟨0, 0⟩) (meth := k0m0) (c := k0c0) (by decide +kernel) rfl rfl rfl (by decide +kernel)
set_option maxRecDepth 65536 in
theorem w_c5 : (Jvm.Cond.code ({ cls := "com/example/brickwork/brickwork/wire/Protocol$SavedCopy", name := "newer", desc := "(Lcom/example/brickwork/brickwork/wire/Protocol$SavedCopy;)Z" } : Jvm.MethodName) prog_164_method_2_code (2 : Nat) (Option.some Jvm.ClassFile.FieldType.boolean)).before args0 about1 = true := code_word (m := ⟨3, 1⟩) (meth := k3m1) (c := k3c1) (by decide +kernel) rfl rfl rfl (by decide +kernel)
set_option maxRecDepth 65536 in
theorem w_c6 : (Jvm.Cond.code ({ cls := "com/example/brickwork/brickwork/wire/SavedCopyNewerPinLaw", name := "ref", desc := "(JJJJ)Z" } : Jvm.MethodName) method_3_code (8 : Nat) (Option.some Jvm.ClassFile.FieldType.boolean)).before args0 about1 = true := code_word (m := ⟨1, 2⟩) (meth := k1m2) (c := k1c2) (by decide +kernel) rfl rfl rfl (by decide +kernel)
def codes1 : List Jvm.Cond := [Jvm.Cond.code x code maxLocals ret, Jvm.Cond.code ({ cls := "com/example/brickwork/brickwork/wire/SavedCopyNewerPinLaw", name := "pick", desc := "(IJJ)J" } : Jvm.MethodName) method_2_code (5 : Nat) (Option.some Jvm.ClassFile.FieldType.long), Jvm.Cond.code ({ cls := "com/example/brickwork/brickwork/wire/Protocol$SavedCopy", name := "<init>", desc := "(JJJ)V" } : Jvm.MethodName) prog_164_method_1_code (7 : Nat) (Option.none : Option Jvm.ClassFile.FieldType), Jvm.Cond.code ({ cls := "java/lang/Record", name := "<init>", desc := "()V" } : Jvm.MethodName) jdk_30_method_1_code (1 : Nat) (Option.none : Option Jvm.ClassFile.FieldType), Jvm.Cond.code ({ cls := "java/lang/Object", name := "<init>", desc := "()V" } : Jvm.MethodName) object_method_1_code (1 : Nat) (Option.none : Option Jvm.ClassFile.FieldType), Jvm.Cond.code ({ cls := "com/example/brickwork/brickwork/wire/Protocol$SavedCopy", name := "newer", desc := "(Lcom/example/brickwork/brickwork/wire/Protocol$SavedCopy;)Z" } : Jvm.MethodName) prog_164_method_2_code (2 : Nat) (Option.some Jvm.ClassFile.FieldType.boolean), Jvm.Cond.code ({ cls := "com/example/brickwork/brickwork/wire/SavedCopyNewerPinLaw", name := "ref", desc := "(JJJJ)Z" } : Jvm.MethodName) method_3_code (8 : Nat) (Option.some Jvm.ClassFile.FieldType.boolean)]
set_option maxRecDepth 65536 in
theorem codes_eq : words1.filter isCode = codes1 := rfl
theorem w_codes : ∀ c ∈ words1.filter isCode, c.before args0 about1 = true := by
  rw [codes_eq]
  intro c hc
  simp only [codes1, List.mem_cons, List.not_mem_nil, or_false] at hc
  rcases hc with rfl | rfl | rfl | rfl | rfl | rfl | rfl
  · exact w_c0
  · exact w_c1
  · exact w_c2
  · exact w_c3
  · exact w_c4
  · exact w_c5
  · exact w_c6
set_option maxRecDepth 65536 in
theorem w_t1 : (words1.take 24).all (fun c => isCode c || c.before args0 about1) = true := by decide +kernel
set_option maxRecDepth 65536 in
theorem w_t2 : (words1.drop 24).all (fun c => isCode c || c.before args0 about1) = true := by decide +kernel
theorem w_tables : (allAtoms (Jvm.Cond.code x code maxLocals ret :: tables_1)).before args0 about1 = true := by
  rw [allAtoms_all]
  show words1.all (fun c => c.before args0 about1) = true
  refine all_split ?_ w_codes
  rw [← List.take_append_drop 24 words1, List.all_append, w_t1, w_t2]
  rfl
set_option maxRecDepth 65536 in
theorem w_case : (Jvm.Cond.and given_1 narrow_1).before args0 about1 = true := by decide +kernel
theorem w_applies : (headSpec (Jvm.Cond.code x code maxLocals ret :: tables_1) room_1).applies x e0.platform about1 = true :=
  (Spec.applies_iff w_frames).mpr ⟨w_running, w_runnable, w_alone, w_named, w_hears, w_ripe, w_room, w_tables⟩
theorem atStart : AtStart classFile x code maxLocals ret World_1 tables_1 room_1 Calls_1 rest_1 Pre_1 launch0 p0 e0 about1 theMethod args0 below0 :=
  ⟨lists_1, trivial, launch0.admits_env _ _ _, launch0.least_env, fairChoices_fair.cas, fairChoices_fair.clock, w_frames, w_args, w_heap, w_applies, trivial, trivial, w_case⟩
end start1
theorem witness_1 : WitnessClaimed_1 := ⟨start1.p0, start1.e0, start1.about1, start1.theMethod, start1.args0, start1.below0, start1.atStart⟩
end Jvm.Pilot.@@N@@
