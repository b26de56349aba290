import JvmDerived
import JvmDerived.Pilot.@@N@@Statement
import JvmDerived.Pilot.@@N@@Code
set_option linter.unusedVariables false
set_option maxRecDepth 65536
set_option maxHeartbeats 40000000
set_option linter.unusedSimpArgs false
namespace Jvm.RoadKit
open Sem ClassFile Op Lib Jvm.Stand Jvm.Free Jvm.LawKit
section Own
variable {p : Program} {l : Launch} {e : Env} {R : Room} {s : State} {m : MethodId} {args : Array Value} {below : List Frame} {meth : Method} {c : Code} {T T' : State} {locs : List Loc} {cells slots : Nat} {g g' : JFrame} {Φ : State → Prop}
/-- from this frame the run comes to a state with Φ -/
def own_G (p : Program) (e : Env) (below : List Frame) (Φ : State → Prop) (T : State) (g : JFrame) : Prop := ∃ t, Steps p.tables e below (T.setTop g) t ∧ Φ t
/-- what the end of a method with the answer Q is -/
def own_E (s : State) (below : List Frame) (Q : Option Value → Heap → List Loc → Prop) (k n : Nat) (t : State) : Prop := ∃ o, t.status = .running ∧ Ended t below o ∧ ∃ v L, o = .returned v ∧ Q v t.heap L ∧ FrameEnd s o t L k n
def own_Al (_ : Stand p l e R s m args below meth c T locs cells slots) (T' : State) : Prop := Stand p l e R s m args below meth c T' locs cells slots
theorem own_go (h : ∀ t, Steps p.tables e below (T'.setTop g') t → Steps p.tables e below (T.setTop g) t) (k : own_G p e below Φ T' g') : own_G p e below Φ T g := by
  obtain ⟨t, a, b⟩ := k
  exact ⟨t, h t a, b⟩
theorem own_on (h : Steps p.tables e below (T.setTop g) (T'.setTop g')) (k : own_G p e below Φ T' g') : own_G p e below Φ T g := by
  obtain ⟨t, a, b⟩ := k
  exact ⟨t, h.trans a, b⟩
theorem own_ret (X : Stand p l e R s m args below meth c T locs cells slots) {Q : Option Value → Heap → List Loc → Prop} {k n : Nat} {v : Option Value} (hv : meth.sig.returnType = none → v = none) (hlocks : meth.locks = false)
    (hst : ∀ fs, (∀ (f : JFrame) (acts : List Action), f.method = m → f.locked = none → f.entered = [] → (doReturn e (T.setTop f) acts v).1 = T.setFrames fs) → Steps p.tables e below (T.setTop g) (T.setFrames fs))
    (hq : Q v T.heap locs) (hc : cells ≤ k) (hn : slots ≤ n) : own_G p e below (own_E s below Q k n) T g := by
  obtain ⟨fs, hr, hrun, hended, hW, hsame⟩ := X.leave hv hlocks
  exact ⟨_, hst fs hr, _, hrun, hended, _, _, rfl, hq, ⟨_, rfl⟩, hW, hsame.mono hc hn⟩
def own_EW (s : State) (below : List Frame) (Q : Option Value → Heap → List Loc → Prop) (k n : Nat) (t : State) : Prop := ∃ o, t.status = .running ∧ Ended t below o ∧ ∃ v L, o = .returned v ∧ Q v t.heap L ∧ ReturnedEndW s o t L k n
theorem own_retW {vm₁ : Vm} (X : Stand p l e R (s.setVm vm₁) m args below meth c T locs cells slots) {q : Nat} (hS : s.Since vm₁ q) (hq' : q ≤ T.heap.size) {Q : Option Value → Heap → List Loc → Prop} {k n : Nat} {v : Option Value} (hv : meth.sig.returnType = none → v = none) (hlocks : meth.locks = false)
    (hst : ∀ fs, (∀ (f : JFrame) (acts : List Action), f.method = m → f.locked = none → f.entered = [] → (doReturn e (T.setTop f) acts v).1 = T.setFrames fs) → Steps p.tables e below (T.setTop g) (T.setFrames fs))
    (hq : Q v T.heap locs) (hc : cells ≤ k) (hn : slots ≤ n) : own_G p e below (own_EW s below Q k n) T g := by
  obtain ⟨fs, hr, hrun, hended, h1, h2, h3, h4⟩ := X.leaveW hS hq' hv hlocks
  exact ⟨_, hst fs hr, _, hrun, hended, _, _, rfl, hq, h1, h2, h3, h4.mono hc hn⟩
theorem own_lrem_eq (x y : Int64) : x - (x / y) * y = x % y := by
  apply Int64.toInt_inj.mp
  have r := rng64 (x % y)
  have hm : (x % y).toInt = x.toInt - y.toInt * x.toInt.tdiv y.toInt := by rw [Int64.toInt_mod, Int.tmod_def]
  have hs : (x - x / y * y).toInt = (x.toInt - y.toInt * x.toInt.tdiv y.toInt).bmod (2 ^ 64) := by
    rw [Int64.toInt_sub, Int64.toInt_mul, Int64.toInt_div, Int.bmod_mul_bmod, Int.sub_bmod_bmod, Int.mul_comm]
  rw [hs, ← hm]
  exact Int.bmod_eq_of_le (by omega) (by omega)
theorem own_lremM {target : State} (X : Stand p l e R s m args below meth c T locs cells slots) (hx : p.tables.exec = Jvm.exec) (hg : g.method = m) {x y : Int64} {rest : List Value} (hd : decode c.code g.pc = .ok (.lrem, 1)) (hs : g.stack = .long y :: .long x :: rest) (hy : y ≠ 0)
    (hr : Steps p.tables e below (T.setTop { g with pc := g.pc + 1, stack := .long (x % y) :: rest }) target) : Steps p.tables e below (T.setTop g) target :=
  XS.lrem X.here hx hg hd hs hy (by rw [own_lrem_eq]; exact hr)
theorem own_selp {s : State} {args : Array Value} {x y : MethodName} (hc : x.cls = y.cls) (hxi : (Cond.instanceMethod x).before args s = true) (hnf : NotFace s x) (hp : s.PrivateAt y) (hyi : (Cond.instanceMethod y).before args s = true) (hy : y.cls ≠ "java/lang/invoke/MethodHandle" ∧ y.cls ≠ "java/lang/invoke/VarHandle") : (Cond.selects y.cls y y).before args s = true := by
  obtain ⟨mk, methM, hnamed, -⟩ := Cond.instanceMethod_spec hxi
  obtain ⟨k, hk, hni⟩ := hnf mk hnamed
  exact Stand.selects_self_of_private (hc ▸ findClass_of_methodNamed hnamed) hk hni hp hyi hy
def own_AlL (_ : Stand p l e R s m args below meth c T locs cells slots) (T' : State) (locs' : List Loc) (cells' slots' : Nat) : Prop := Stand p l e R s m args below meth c T' locs' cells' slots'
theorem own_nar {v : Value} {t : FieldType} (h : v.isRef = true) : narrow t v = v := by
  rcases ref_cases h with rfl | ⟨a, rfl⟩ <;> cases t <;> rfl
abbrev own_rm (f c s l : Nat) : Room := { frames := f, cells := c, slots := s, locals := l }
abbrev own_Met (l : Launch) (y : MethodName) (code : ByteArray) (maxL : Nat) (ret : Option FieldType) (ws : List Cond) (rm : Room) (Z : State) (h0 : Heap) (as' : Array Value) (Q : Option Value → Heap → List Loc → Prop) : Prop :=
  MetFree l y (head1 (Cond.code y code maxL ret :: ws) rm) (fun a U => a = as' ∧ Z.Warmed39 U.vm ∧ U.heap = h0) (fun _ _ _ _ _ => True) (fun _ U o U' => ∃ v L, o = .returned v ∧ Q v U'.heap L ∧ FrameEnd U o U' L rm.cells rm.slots)
theorem own_met {y : MethodName} {code : ByteArray} {maxL : Nat} {ret : Option FieldType} {ws : List Cond} {rm : Room} {Z : State} {h0 : Heap} {Q : Option Value → Heap → List Loc → Prop} {as' : Array Value} {L0 : Array Slot} (hpl : plainFor y = true) (hef : ∀ m, entryFrame m as' maxL = mkF m 0 L0 [])
    (body : ∀ (p : Program) (e : Env) (s : State) (m : MethodId) (below : List Frame) (meth : Method) (c : Code) (s₁ : State) (Φ : State → Prop), Φ = own_E s below Q rm.cells rm.slots → Stand p l e rm s m as' below meth c s₁ [] 0 0 → p.tables.exec = Jvm.exec → c.code = code → c.maxLocals = maxL → s.vm.findClass y.cls = some m.cls → meth.name = y.name → meth.sig.returnType = ret → meth.locks = false → Z.Warmed39 s.vm → s₁.heap = h0 → own_G p e below Φ s₁ (mkF m 0 L0 [])) :
    own_Met l y code maxL ret ws rm Z h0 as' Q := by
  refine MetFree.of_bodySF hpl hisR ?_
  intro p e s m args below meth c s₁ Bd hml0 hP hK
  obtain ⟨rfl, hZ, hh⟩ := hP
  obtain ⟨t, st, o, q1, q2, q3⟩ := body p e s m below meth c s₁ _ rfl (Stand.of_body Bd) Bd.exec Bd.bytes hml0 (findClass_of_methodNamed Bd.named) (name_of_methodNamed Bd.named Bd.method).1 Bd.returns (BodyLoose.notSynchronized Bd) hZ (by rw [← hh, Bd.state]; rfl)
  exact ⟨t, o, castTop (hef m) st, q1, q2, q3⟩
def own_B (p : Program) (c : Code) (code : ByteArray) (ml : Nat) : Prop := p.tables.exec = Jvm.exec ∧ c.code = code ∧ c.maxLocals = ml
theorem own_jmp {pc pc' : Nat} {o : Int} (h : (pc : Int) + o = (pc' : Int)) : 0 ≤ (pc : Int) + o ∧ ((pc : Int) + o).toNat = pc' := by omega
section Steps
variable {code : ByteArray} {ml : Nat}
theorem o_iload (X : Stand p l e R s m args below meth c T locs cells slots) (B : own_B p c code ml) {pc : Nat} {L : Array Slot} {S : List Value} {k : Nat} {v : Int32} (hd : decode code pc = .ok (.iload k, 2)) (hl : L[k]? = some (.val (.int v))) (K : own_G p e below Φ T (mkF m (pc + 2) L (.int v :: S))) : own_G p e below Φ T (mkF m pc L S) := own_go (fun _ => XS.iload X.here B.1 rfl (hb B.2.1 hd) hl) K
theorem o_iloadN (X : Stand p l e R s m args below meth c T locs cells slots) (B : own_B p c code ml) {pc : Nat} {L : Array Slot} {S : List Value} {k : Fin 4} {v : Int32} (hd : decode code pc = .ok (.iload_n k, 1)) (hl : L[k.val]? = some (.val (.int v))) (K : own_G p e below Φ T (mkF m (pc + 1) L (.int v :: S))) : own_G p e below Φ T (mkF m pc L S) := own_go (fun _ => XS.iloadN X.here B.1 rfl (hb B.2.1 hd) hl) K
theorem o_lload (X : Stand p l e R s m args below meth c T locs cells slots) (B : own_B p c code ml) {pc : Nat} {L : Array Slot} {S : List Value} {k : Nat} {v : Int64} (hd : decode code pc = .ok (.lload k, 2)) (hl : L[k]? = some (.val (.long v))) (K : own_G p e below Φ T (mkF m (pc + 2) L (.long v :: S))) : own_G p e below Φ T (mkF m pc L S) := own_go (fun _ => XS.lload X.here B.1 rfl (hb B.2.1 hd) hl) K
theorem o_lloadN (X : Stand p l e R s m args below meth c T locs cells slots) (B : own_B p c code ml) {pc : Nat} {L : Array Slot} {S : List Value} {k : Fin 4} {v : Int64} (hd : decode code pc = .ok (.lload_n k, 1)) (hl : L[k.val]? = some (.val (.long v))) (K : own_G p e below Φ T (mkF m (pc + 1) L (.long v :: S))) : own_G p e below Φ T (mkF m pc L S) := own_go (fun _ => XS.lloadN X.here B.1 rfl (hb B.2.1 hd) hl) K
theorem o_aload (X : Stand p l e R s m args below meth c T locs cells slots) (B : own_B p c code ml) {pc : Nat} {L : Array Slot} {S : List Value} {k : Nat} {v : Value} (hd : decode code pc = .ok (.aload k, 2)) (hl : L[k]? = some (.val v)) (hv : v.isRef = true) (K : own_G p e below Φ T (mkF m (pc + 2) L (v :: S))) : own_G p e below Φ T (mkF m pc L S) := own_go (fun _ => XS.aload X.here B.1 rfl (hb B.2.1 hd) hl hv) K
theorem o_aloadN (X : Stand p l e R s m args below meth c T locs cells slots) (B : own_B p c code ml) {pc : Nat} {L : Array Slot} {S : List Value} {k : Fin 4} {v : Value} (hd : decode code pc = .ok (.aload_n k, 1)) (hl : L[k.val]? = some (.val v)) (hv : v.isRef = true) (K : own_G p e below Φ T (mkF m (pc + 1) L (v :: S))) : own_G p e below Φ T (mkF m pc L S) := own_go (fun _ => XS.aloadN X.here B.1 rfl (hb B.2.1 hd) hl hv) K
theorem o_istore (X : Stand p l e R s m args below meth c T locs cells slots) (B : own_B p c code ml) {pc : Nat} {L : Array Slot} {S : List Value} {k : Nat} {x : Int32} {L' : Array Slot} (hd : decode code pc = .ok (.istore k, 2)) (hl : storeLocals L k (.int x) = some L') (K : own_G p e below Φ T (mkF m (pc + 2) L' S)) : own_G p e below Φ T (mkF m pc L (.int x :: S)) := own_go (fun _ => XS.istore X.here B.1 rfl (hb B.2.1 hd) rfl hl) K
theorem o_istoreN (X : Stand p l e R s m args below meth c T locs cells slots) (B : own_B p c code ml) {pc : Nat} {L : Array Slot} {S : List Value} {k : Fin 4} {x : Int32} {L' : Array Slot} (hd : decode code pc = .ok (.istore_n k, 1)) (hl : storeLocals L k.val (.int x) = some L') (K : own_G p e below Φ T (mkF m (pc + 1) L' S)) : own_G p e below Φ T (mkF m pc L (.int x :: S)) := own_go (fun _ => XS.istoreN X.here B.1 rfl (hb B.2.1 hd) rfl hl) K
theorem o_lstore (X : Stand p l e R s m args below meth c T locs cells slots) (B : own_B p c code ml) {pc : Nat} {L : Array Slot} {S : List Value} {k : Nat} {x : Int64} {L' : Array Slot} (hd : decode code pc = .ok (.lstore k, 2)) (hl : storeLocals L k (.long x) = some L') (K : own_G p e below Φ T (mkF m (pc + 2) L' S)) : own_G p e below Φ T (mkF m pc L (.long x :: S)) := own_go (fun _ => XS.lstore X.here B.1 rfl (hb B.2.1 hd) rfl hl) K
theorem o_astore (X : Stand p l e R s m args below meth c T locs cells slots) (B : own_B p c code ml) {pc : Nat} {L : Array Slot} {S : List Value} {k : Nat} {x : Value} {L' : Array Slot} (hd : decode code pc = .ok (.astore k, 2)) (hv : x.isRef = true) (hl : storeLocals L k x = some L') (K : own_G p e below Φ T (mkF m (pc + 2) L' S)) : own_G p e below Φ T (mkF m pc L (x :: S)) := own_go (fun _ => XS.astore X.here B.1 rfl (hb B.2.1 hd) rfl hv hl) K
theorem o_astoreN (X : Stand p l e R s m args below meth c T locs cells slots) (B : own_B p c code ml) {pc : Nat} {L : Array Slot} {S : List Value} {k : Fin 4} {x : Value} {L' : Array Slot} (hd : decode code pc = .ok (.astore_n k, 1)) (hv : x.isRef = true) (hl : storeLocals L k.val x = some L') (K : own_G p e below Φ T (mkF m (pc + 1) L' S)) : own_G p e below Φ T (mkF m pc L (x :: S)) := own_go (fun _ => XS.astoreN X.here B.1 rfl (hb B.2.1 hd) rfl hv hl) K
theorem o_iconst (X : Stand p l e R s m args below meth c T locs cells slots) (B : own_B p c code ml) {pc : Nat} {L : Array Slot} {S : List Value} {i : Int} (hd : decode code pc = .ok (.iconst i, 1))  (K : own_G p e below Φ T (mkF m (pc + 1) L (.int (Int32.ofInt i) :: S))) : own_G p e below Φ T (mkF m pc L S) := own_go (fun _ => XS.iconst X.here B.1 rfl (hb B.2.1 hd)) K
theorem o_bipush (X : Stand p l e R s m args below meth c T locs cells slots) (B : own_B p c code ml) {pc : Nat} {L : Array Slot} {S : List Value} {i : Int} (hd : decode code pc = .ok (.bipush i, 2))  (K : own_G p e below Φ T (mkF m (pc + 2) L (.int (Int8.ofInt i).toInt32 :: S))) : own_G p e below Φ T (mkF m pc L S) := own_go (fun _ => XS.bipush X.here B.1 rfl (hb B.2.1 hd)) K
theorem o_sipush (X : Stand p l e R s m args below meth c T locs cells slots) (B : own_B p c code ml) {pc : Nat} {L : Array Slot} {S : List Value} {i : Int} (hd : decode code pc = .ok (.sipush i, 3))  (K : own_G p e below Φ T (mkF m (pc + 3) L (.int (Int16.ofInt i).toInt32 :: S))) : own_G p e below Φ T (mkF m pc L S) := own_go (fun _ => XS.sipush X.here B.1 rfl (hb B.2.1 hd)) K
theorem o_anull (X : Stand p l e R s m args below meth c T locs cells slots) (B : own_B p c code ml) {pc : Nat} {L : Array Slot} {S : List Value}  (hd : decode code pc = .ok (.aconst_null, 1))  (K : own_G p e below Φ T (mkF m (pc + 1) L (.null :: S))) : own_G p e below Φ T (mkF m pc L S) := own_go (fun _ => XS.aconstNull X.here B.1 rfl (hb B.2.1 hd)) K
theorem o_dup (X : Stand p l e R s m args below meth c T locs cells slots) (B : own_B p c code ml) {pc : Nat} {L : Array Slot} {S : List Value} {v : Value} (hd : decode code pc = .ok (.dup, 1)) (hv : v.category = 1) (K : own_G p e below Φ T (mkF m (pc + 1) L (v :: v :: S))) : own_G p e below Φ T (mkF m pc L (v :: S)) := own_go (fun _ => XS.dup X.here B.1 rfl (hb B.2.1 hd) rfl hv) K
theorem o_pop (X : Stand p l e R s m args below meth c T locs cells slots) (B : own_B p c code ml) {pc : Nat} {L : Array Slot} {S : List Value} {v : Value} (hd : decode code pc = .ok (.pop, 1)) (hv : v.category = 1) (K : own_G p e below Φ T (mkF m (pc + 1) L S)) : own_G p e below Φ T (mkF m pc L (v :: S)) := own_go (fun _ => XS.pop X.here B.1 rfl (hb B.2.1 hd) rfl hv) K
theorem o_iinc (X : Stand p l e R s m args below meth c T locs cells slots) (B : own_B p c code ml) {pc : Nat} {L : Array Slot} {S : List Value} {k : Nat} {cst : Int} {x : Int32} {L' : Array Slot} (hd : decode code pc = .ok (.iinc k cst, 3)) (hl : L[k]? = some (.val (.int x))) (hl' : storeLocals L k (.int (x + Int32.ofInt cst)) = some L') (K : own_G p e below Φ T (mkF m (pc + 3) L' S)) : own_G p e below Φ T (mkF m pc L S) := own_go (fun _ => XS.iinc X.here B.1 rfl (hb B.2.1 hd) hl hl') K
theorem o_goto (X : Stand p l e R s m args below meth c T locs cells slots) (B : own_B p c code ml) {pc : Nat} {L : Array Slot} {S : List Value} {o : Int} (pc' : Nat) (hd : decode code pc = .ok (.goto o, 3)) (h : (pc : Int) + o = (pc' : Int)) (K : own_G p e below Φ T (mkF m pc' L S)) : own_G p e below Φ T (mkF m pc L S) := own_go (fun _ => XS.goto X.here B.1 rfl rfl (hb B.2.1 hd) (own_jmp h).1 (own_jmp h).2) K
theorem o_ifY (X : Stand p l e R s m args below meth c T locs cells slots) (B : own_B p c code ml) {pc : Nat} {L : Array Slot} {S : List Value} {cd : ClassFile.Cond} {o : Int} {x : Int32} (pc' : Nat) (hd : decode code pc = .ok (.ifCond cd o, 3)) (hc : ifCond.holds cd x = true) (h : (pc : Int) + o = (pc' : Int)) (K : own_G p e below Φ T (mkF m pc' L S)) : own_G p e below Φ T (mkF m pc L (.int x :: S)) := own_go (fun _ => XS.ifYes X.here B.1 rfl rfl (hb B.2.1 hd) rfl hc (own_jmp h).1 (own_jmp h).2) K
theorem o_ifN (X : Stand p l e R s m args below meth c T locs cells slots) (B : own_B p c code ml) {pc : Nat} {L : Array Slot} {S : List Value} {cd : ClassFile.Cond} {o : Int} {x : Int32} (hd : decode code pc = .ok (.ifCond cd o, 3)) (hc : ifCond.holds cd x = false) (K : own_G p e below Φ T (mkF m (pc + 3) L S)) : own_G p e below Φ T (mkF m pc L (.int x :: S)) := own_go (fun _ => XS.ifNo X.here B.1 rfl (hb B.2.1 hd) rfl hc) K
theorem o_icY (X : Stand p l e R s m args below meth c T locs cells slots) (B : own_B p c code ml) {pc : Nat} {L : Array Slot} {S : List Value} {cd : ClassFile.Cond} {o : Int} {x y : Int32} (pc' : Nat) (hd : decode code pc = .ok (.if_icmp cd o, 3)) (hc : if_icmp.holds cd x y = true) (h : (pc : Int) + o = (pc' : Int)) (K : own_G p e below Φ T (mkF m pc' L S)) : own_G p e below Φ T (mkF m pc L (.int y :: .int x :: S)) := own_go (fun _ => XS.icmpYes X.here B.1 rfl rfl (hb B.2.1 hd) rfl hc (own_jmp h).1 (own_jmp h).2) K
theorem o_icN (X : Stand p l e R s m args below meth c T locs cells slots) (B : own_B p c code ml) {pc : Nat} {L : Array Slot} {S : List Value} {cd : ClassFile.Cond} {o : Int} {x y : Int32} (hd : decode code pc = .ok (.if_icmp cd o, 3)) (hc : if_icmp.holds cd x y = false) (K : own_G p e below Φ T (mkF m (pc + 3) L S)) : own_G p e below Φ T (mkF m pc L (.int y :: .int x :: S)) := own_go (fun _ => XS.icmpNo X.here B.1 rfl (hb B.2.1 hd) rfl hc) K
theorem o_ifnullY (X : Stand p l e R s m args below meth c T locs cells slots) (B : own_B p c code ml) {pc : Nat} {L : Array Slot} {S : List Value} {o : Int} (pc' : Nat) (hd : decode code pc = .ok (.ifnull o, 3)) (h : (pc : Int) + o = (pc' : Int)) (K : own_G p e below Φ T (mkF m pc' L S)) : own_G p e below Φ T (mkF m pc L (.null :: S)) := own_go (fun _ => XS.ifnullYes X.here B.1 rfl rfl (hb B.2.1 hd) rfl (own_jmp h).1 (own_jmp h).2) K
theorem o_ifnullN (X : Stand p l e R s m args below meth c T locs cells slots) (B : own_B p c code ml) {pc : Nat} {L : Array Slot} {S : List Value} {o : Int} {r : Addr} (hd : decode code pc = .ok (.ifnull o, 3))  (K : own_G p e below Φ T (mkF m (pc + 3) L S)) : own_G p e below Φ T (mkF m pc L (.ref r :: S)) := own_go (fun _ => XS.ifnullNo X.here B.1 rfl (hb B.2.1 hd) rfl) K
theorem o_ifnonnullY (X : Stand p l e R s m args below meth c T locs cells slots) (B : own_B p c code ml) {pc : Nat} {L : Array Slot} {S : List Value} {o : Int} {r : Addr} (pc' : Nat) (hd : decode code pc = .ok (.ifnonnull o, 3)) (h : (pc : Int) + o = (pc' : Int)) (K : own_G p e below Φ T (mkF m pc' L S)) : own_G p e below Φ T (mkF m pc L (.ref r :: S)) := own_go (fun _ => XS.ifnonnullYes X.here B.1 rfl rfl (hb B.2.1 hd) rfl (own_jmp h).1 (own_jmp h).2) K
theorem o_ifnonnullN (X : Stand p l e R s m args below meth c T locs cells slots) (B : own_B p c code ml) {pc : Nat} {L : Array Slot} {S : List Value} {o : Int} (hd : decode code pc = .ok (.ifnonnull o, 3))  (K : own_G p e below Φ T (mkF m (pc + 3) L S)) : own_G p e below Φ T (mkF m pc L (.null :: S)) := own_go (fun _ => XS.ifnonnullNo X.here B.1 rfl (hb B.2.1 hd) rfl) K
theorem o_cS (X : Stand p l e R s m args below meth c T locs cells slots) (B : own_B p c code ml) {pc : Nat} {L : Array Slot} {S : List Value} {Z : State} {a0 : Array Value} (hZ : Z.Warmed39 s.vm) {own : String} (hown : s.vm.findClass own = some m.cls) {ix : Nat} {bytes : ByteArray} {maxL : Nat} {ret : Option FieldType} {rm : Room} {as' : Array Value} {h : Heap} {Q : Option Value → Heap → List Loc → Prop} {rest argsL : List Value} {y : MethodName} (w1 : (Cond.methodLink own ix y).before a0 Z = true) (w2 : (Cond.static y).before a0 Z = true) (w4 : (Cond.code y bytes maxL ret).before a0 Z = true) (w3 : (Cond.initialized y.cls).before a0 Z = true) (hy : y.cls ≠ "java/lang/invoke/MethodHandle" ∧ y.cls ≠ "java/lang/invoke/VarHandle") (W : Nat) (hM : own_Met l y bytes maxL ret [] rm Z h as' Q) (hf : rm.frames + 1 ≤ R.frames) (hl : W + (maxL + 11) + rm.locals ≤ R.locals) (hlen : ∀ sig, parseMethodDescriptor y.desc = some sig → argsL.length = sig.parameters.length) (has : argsL.toArray = as') (hst : S = argsL.reverse ++ rest) (hW : (rest.map fun v => v.category).sum = W) (hd : decode code pc = .ok (.invokestatic ix, 3)) (hh : T.heap = h) (hc : cells + rm.cells ≤ R.cells) (hn : slots + rm.slots ≤ R.slots) (hL : L.size = ml)
    (K : ∀ v T' L', Stand p l e R s m args below meth c T' (locs ++ L') (cells + rm.cells) (slots + rm.slots) → Q v T'.heap L' → own_G p e below Φ T' (mkF m (pc + 3) L (v.toList ++ rest))) :
    own_G p e below Φ T (mkF m pc L S) := by
  obtain ⟨v, _, ⟨T', zL, zk, zn⟩, -, X', ⟨L', hQ, zl, zy, zz⟩, st⟩ := Jvm.LawKit.callS X B.1 hown (mvT hZ w1) (mvT hZ w2) (mvT hZ w3) (mvT hZ w4) hy (backOf (W := W) hM hZ w4 w3 hf hl) (g := mkF m pc L S) rfl (by rw [B.2.2]; exact hL) (argsL := argsL) (rest := rest) hlen hst (by show 2 * 0 + _ ≤ _; rw [hW]; omega) (hb B.2.1 hd) (fun _ _ => ⟨has, hh, hc, hn⟩)
  dsimp only [Pt.U, Pt.locs, Pt.cells, Pt.slots] at X' zl zy zz st hQ
  subst zl zy zz
  exact own_go st (K v T' L' X' hQ)
theorem o_cI (X : Stand p l e R s m args below meth c T locs cells slots) (B : own_B p c code ml) {pc : Nat} {L : Array Slot} {S : List Value} {Z : State} {a0 : Array Value} (hZ : Z.Warmed39 s.vm) {own : String} (hown : s.vm.findClass own = some m.cls) {ix : Nat} {bytes : ByteArray} {maxL : Nat} {ret : Option FieldType} {rm : Room} {as' : Array Value} {h : Heap} {Q : Option Value → Heap → List Loc → Prop} {rest argsL : List Value} {y : MethodName} {b : Addr} (hi : y.name = "<init>") (w1 : (Cond.methodLink own ix y).before a0 Z = true) (w2 : (Cond.instanceMethod y).before a0 Z = true) (w4 : (Cond.code y bytes maxL ret).before a0 Z = true) (w3 : (Cond.initialized y.cls).before a0 Z = true) (hy : y.cls ≠ "java/lang/invoke/MethodHandle" ∧ y.cls ≠ "java/lang/invoke/VarHandle") (hr : ret = none) (W : Nat) (hM : own_Met l y bytes maxL ret [] rm Z h as' Q) (hf : rm.frames + 1 ≤ R.frames) (hl : W + (maxL + 11) + rm.locals ≤ R.locals) (hlen : ∀ sig, parseMethodDescriptor y.desc = some sig → argsL.length = sig.parameters.length) (has : (Value.ref b :: argsL).toArray = as') (hst : S = argsL.reverse ++ .ref b :: rest) (hW : (rest.map fun v => v.category).sum = W) (hd : decode code pc = .ok (.invokespecial ix, 3)) (hh : T.heap = h) (hc : cells + rm.cells ≤ R.cells) (hn : slots + rm.slots ≤ R.slots) (hL : L.size = ml)
    (K : ∀ v T' L', Stand p l e R s m args below meth c T' (locs ++ L') (cells + rm.cells) (slots + rm.slots) → Q v T'.heap L' → own_G p e below Φ T' (mkF m (pc + 3) L (v.toList ++ rest))) :
    own_G p e below Φ T (mkF m pc L S) := by
  subst hr
  obtain ⟨v, _, ⟨T', zL, zk, zn⟩, -, X', ⟨L', hQ, zl, zy, zz⟩, st⟩ := X.specialBack B.1 hi hown (mvT hZ w1) (mvT hZ w2) (mvT hZ w4) hy (backOf (W := W) hM hZ w4 w3 hf hl) (g := mkF m pc L S) rfl (by rw [B.2.2]; exact hL) (Steps.refl _) (a := b) (argsL := argsL) (rest := rest) hlen hst (by show 2 * 0 + _ ≤ _; rw [hW]; omega) (hb B.2.1 hd) (fun _ _ => ⟨has, hh, hc, hn⟩)
  dsimp only [Pt.U, Pt.locs, Pt.cells, Pt.slots] at X' zl zy zz st hQ
  subst zl zy zz
  exact own_on st (K v T' L' X' hQ)
theorem o_cV (X : Stand p l e R s m args below meth c T locs cells slots) (B : own_B p c code ml) {pc : Nat} {L : Array Slot} {S : List Value} {Z : State} {a0 : Array Value} (hZ : Z.Warmed39 s.vm) {own : String} (hown : s.vm.findClass own = some m.cls) {ix : Nat} {bytes : ByteArray} {maxL : Nat} {ret : Option FieldType} {rm : Room} {as' : Array Value} {h : Heap} {Q : Option Value → Heap → List Loc → Prop} {rest argsL : List Value} {C : String} {y : MethodName} {b : Addr} (w1 : (Cond.methodLink own ix y).before a0 Z = true) (w2 : (Cond.declares y).before a0 Z = true) (w5 : (Cond.selects C y y).before a0 Z = true) (w6 : (Cond.instanceMethod y).before a0 Z = true) (w4 : (Cond.code y bytes maxL ret).before a0 Z = true) (w3 : (Cond.initialized y.cls).before a0 Z = true) (hy : y.cls ≠ "java/lang/invoke/MethodHandle" ∧ y.cls ≠ "java/lang/invoke/VarHandle") (ex : Exa Z h b C) (W : Nat) (hM : own_Met l y bytes maxL ret [] rm Z h as' Q) (hf : rm.frames + 1 ≤ R.frames) (hl : W + (maxL + 11) + rm.locals ≤ R.locals) (hlen : ∀ sig, parseMethodDescriptor y.desc = some sig → argsL.length = sig.parameters.length) (has : (Value.ref b :: argsL).toArray = as') (hst : S = argsL.reverse ++ .ref b :: rest) (hW : (rest.map fun v => v.category).sum = W) (hd : decode code pc = .ok (.invokevirtual ix, 3)) (hh : T.heap = h) (hc : cells + rm.cells ≤ R.cells) (hn : slots + rm.slots ≤ R.slots) (hL : L.size = ml)
    (K : ∀ v T' L', Stand p l e R s m args below meth c T' (locs ++ L') (cells + rm.cells) (slots + rm.slots) → Q v T'.heap L' → own_G p e below Φ T' (mkF m (pc + 3) L (v.toList ++ rest))) :
    own_G p e below Φ T (mkF m pc L S) := by
  obtain ⟨cq, kq, q1, q2, q3⟩ := isOf hZ hh ex
  obtain ⟨v, _, ⟨T', zL, zk, zn⟩, -, X', ⟨L', hQ, zl, zy, zz⟩, st⟩ := X.virtualBack B.1 hown (mvT hZ w1) (mvT hZ w2) (notFace_of_selects (args := #[]) (mvT hZ w5)) (mvT hZ w5) (mvT hZ w6) hy (backOf (W := W) hM hZ w4 w3 hf hl) q1 q3 (g := mkF m pc L S) rfl (by rw [B.2.2]; exact hL) (Steps.refl _) (argsL := argsL) (rest := rest) hlen hst (by show 2 * 0 + _ ≤ _; rw [hW]; omega) (hb B.2.1 hd) (fun _ _ => ⟨has, hh, hc, hn⟩)
  dsimp only [Pt.U, Pt.locs, Pt.cells, Pt.slots] at X' zl zy zz st hQ
  subst zl zy zz
  exact own_on st (K v T' L' X' hQ)
theorem o_cF (X : Stand p l e R s m args below meth c T locs cells slots) (B : own_B p c code ml) {pc : Nat} {L : Array Slot} {S : List Value} {Z : State} {a0 : Array Value} (hZ : Z.Warmed39 s.vm) {own : String} (hown : s.vm.findClass own = some m.cls) {ix : Nat} {bytes : ByteArray} {maxL : Nat} {ret : Option FieldType} {rm : Room} {as' : Array Value} {h : Heap} {Q : Option Value → Heap → List Loc → Prop} {rest argsL : List Value} {C : String} {n : Nat} {xi y : MethodName} {b : Addr} (w1 : (Cond.methodLink own ix xi).before a0 Z = true) (w2 : (Cond.declares xi).before a0 Z = true) (w5 : (Cond.interfaceMethod xi.cls xi.cls xi.name xi.desc).before a0 Z = true) (w6 : (Cond.selects C xi y).before a0 Z = true) (w7 : (Cond.instanceMethod y).before a0 Z = true) (w8 : (Cond.publicMethod y).before a0 Z = true) (w9 : (Cond.unhidden C xi.name xi.desc).before a0 Z = true) (w10 : (Cond.castable C xi.cls).before a0 Z = true) (w4 : (Cond.code y bytes maxL ret).before a0 Z = true) (w3 : (Cond.initialized y.cls).before a0 Z = true) (hy : xi.cls ≠ "java/lang/invoke/MethodHandle" ∧ xi.cls ≠ "java/lang/invoke/VarHandle") (ex : Exa Z h b C) (W : Nat) (hM : own_Met l y bytes maxL ret [] rm Z h as' Q) (hf : rm.frames + 1 ≤ R.frames) (hl : W + (maxL + 11) + rm.locals ≤ R.locals) (hlen : ∀ sig, parseMethodDescriptor xi.desc = some sig → argsL.length = sig.parameters.length) (has : (Value.ref b :: argsL).toArray = as') (hst : S = argsL.reverse ++ .ref b :: rest) (hW : (rest.map fun v => v.category).sum = W) (hd : decode code pc = .ok (.invokeinterface ix n, 5)) (hh : T.heap = h) (hc : cells + rm.cells ≤ R.cells) (hn : slots + rm.slots ≤ R.slots) (hL : L.size = ml)
    (K : ∀ v T' L', Stand p l e R s m args below meth c T' (locs ++ L') (cells + rm.cells) (slots + rm.slots) → Q v T'.heap L' → own_G p e below Φ T' (mkF m (pc + 5) L (v.toList ++ rest))) :
    own_G p e below Φ T (mkF m pc L S) := by
  obtain ⟨cq, kq, q1, q2, q3⟩ := isOf hZ hh ex
  obtain ⟨v, _, ⟨T', zL, zk, zn⟩, -, X', ⟨L', hQ, zl, zy, zz⟩, st⟩ := X.interfaceBack B.1 hown (mvT hZ w1) (mvT hZ w2) (Jvm.Free.ULB.iface_rides hZ.alike w5) (mvT hZ w6) (mvT hZ w7) (mvT hZ w8) (mvT hZ w9) (mvT hZ w10) hy (backOf (W := W) hM hZ w4 w3 hf hl) q1 q2 q3 (g := mkF m pc L S) rfl (by rw [B.2.2]; exact hL) (Steps.refl _) (argsL := argsL) (rest := rest) hlen hst (by show 2 * 0 + _ ≤ _; rw [hW]; omega) (hb B.2.1 hd) (fun _ _ => ⟨has, hh, hc, hn⟩)
  dsimp only [Pt.U, Pt.locs, Pt.cells, Pt.slots] at X' zl zy zz st hQ
  subst zl zy zz
  exact own_on st (K v T' L' X' hQ)
theorem o_iadd (X : Stand p l e R s m args below meth c T locs cells slots) (B : own_B p c code ml) {pc : Nat} {L : Array Slot} {S : List Value} {x y : Int32} (hd : decode code pc = .ok (.iadd, 1))  (K : own_G p e below Φ T (mkF m (pc + 1) L (.int (x + y) :: S))) : own_G p e below Φ T (mkF m pc L (.int y :: .int x :: S)) := own_go (fun _ => XS.iadd X.here B.1 rfl (hb B.2.1 hd) rfl) K
theorem o_isub (X : Stand p l e R s m args below meth c T locs cells slots) (B : own_B p c code ml) {pc : Nat} {L : Array Slot} {S : List Value} {x y : Int32} (hd : decode code pc = .ok (.isub, 1))  (K : own_G p e below Φ T (mkF m (pc + 1) L (.int (x - y) :: S))) : own_G p e below Φ T (mkF m pc L (.int y :: .int x :: S)) := own_go (fun _ => XS.isub X.here B.1 rfl (hb B.2.1 hd) rfl) K
theorem o_iand (X : Stand p l e R s m args below meth c T locs cells slots) (B : own_B p c code ml) {pc : Nat} {L : Array Slot} {S : List Value} {x y : Int32} (hd : decode code pc = .ok (.iand, 1))  (K : own_G p e below Φ T (mkF m (pc + 1) L (.int (x &&& y) :: S))) : own_G p e below Φ T (mkF m pc L (.int y :: .int x :: S)) := own_go (fun _ => XS.iand X.here B.1 rfl (hb B.2.1 hd) rfl) K
theorem o_ixor (X : Stand p l e R s m args below meth c T locs cells slots) (B : own_B p c code ml) {pc : Nat} {L : Array Slot} {S : List Value} {x y : Int32} (hd : decode code pc = .ok (.ixor, 1))  (K : own_G p e below Φ T (mkF m (pc + 1) L (.int (x ^^^ y) :: S))) : own_G p e below Φ T (mkF m pc L (.int y :: .int x :: S)) := own_go (fun _ => XS.ixor X.here B.1 rfl (hb B.2.1 hd) rfl) K
theorem o_iushr (X : Stand p l e R s m args below meth c T locs cells slots) (B : own_B p c code ml) {pc : Nat} {L : Array Slot} {S : List Value} {x y : Int32} (hd : decode code pc = .ok (.iushr, 1))  (K : own_G p e below Φ T (mkF m (pc + 1) L (.int ((x.toUInt32 >>> (y &&& 31).toUInt32).toInt32) :: S))) : own_G p e below Φ T (mkF m pc L (.int y :: .int x :: S)) := own_go (fun _ => XS.iushr X.here B.1 rfl (hb B.2.1 hd) rfl) K
theorem o_i2c (X : Stand p l e R s m args below meth c T locs cells slots) (B : own_B p c code ml) {pc : Nat} {L : Array Slot} {S : List Value} {x : Int32} (hd : decode code pc = .ok (.i2c, 1))  (K : own_G p e below Φ T (mkF m (pc + 1) L (.int (x.toUInt32.toUInt16.toUInt32.toInt32) :: S))) : own_G p e below Φ T (mkF m pc L (.int x :: S)) := own_go (fun _ => XS.i2c X.here B.1 rfl (hb B.2.1 hd) rfl) K
theorem o_i2b (X : Stand p l e R s m args below meth c T locs cells slots) (B : own_B p c code ml) {pc : Nat} {L : Array Slot} {S : List Value} {x : Int32} (hd : decode code pc = .ok (.i2b, 1))  (K : own_G p e below Φ T (mkF m (pc + 1) L (.int (x.toInt8.toInt32) :: S))) : own_G p e below Φ T (mkF m pc L (.int x :: S)) := own_go (fun _ => XS.i2b X.here B.1 rfl (hb B.2.1 hd) rfl) K
theorem o_lconst (X : Stand p l e R s m args below meth c T locs cells slots) (B : own_B p c code ml) {pc : Nat} {L : Array Slot} {S : List Value} {k : Fin 2} (v : Int64) (hd : decode code pc = .ok (.lconst k, 1)) (hv : Int64.ofNat k = v) (K : own_G p e below Φ T (mkF m (pc + 1) L (.long v :: S))) : own_G p e below Φ T (mkF m pc L S) := own_go (fun _ => Jvm.Free.XT.lconstV X.here B.1 rfl v (hb B.2.1 hd) hv) K
theorem o_lcmp (X : Stand p l e R s m args below meth c T locs cells slots) (B : own_B p c code ml) {pc : Nat} {L : Array Slot} {S : List Value} {x y : Int64} (hd : decode code pc = .ok (.lcmp, 1))  (K : own_G p e below Φ T (mkF m (pc + 1) L (.int (lcmpW x y) :: S))) : own_G p e below Φ T (mkF m pc L (.long y :: .long x :: S)) := own_go (fun _ => XS.lcmp X.here B.1 rfl (hb B.2.1 hd) rfl) K
theorem o_dupx1 (X : Stand p l e R s m args below meth c T locs cells slots) (B : own_B p c code ml) {pc : Nat} {L : Array Slot} {S : List Value} {x y : Value} (hd : decode code pc = .ok (.dup_x1, 1)) (h1 : x.category = 1) (h2 : y.category = 1) (K : own_G p e below Φ T (mkF m (pc + 1) L (x :: y :: x :: S))) : own_G p e below Φ T (mkF m pc L (x :: y :: S)) := own_go (fun _ => XS.dupX1 X.here B.1 rfl (hb B.2.1 hd) rfl h1 h2) K
theorem o_gf (X : Stand p l e R s m args below meth c T locs cells slots) (B : own_B p c code ml) {pc : Nat} {L : Array Slot} {S : List Value} {Z : State} {a0 : Array Value} (hZ : Z.Warmed39 s.vm) {own : String} (hown : s.vm.findClass own = some m.cls) {R0 O n d : String} {ix : Nat} (w : (Cond.fieldLink own ix R0 n d).before a0 Z = true) (via : Via Z R0 O n d) {h : Heap} (eT : T.heap = h) {a : Addr} {v : Value} (F : Fld Z h a O n d v) (hd : decode code pc = .ok (.getfield ix, 3)) (K : ∀ T', Stand p l e R s m args below meth c T' locs cells slots → T'.heap = h → own_G p e below Φ T' (mkF m (pc + 3) L (v :: S))) :
    own_G p e below Φ T (mkF m pc L (.ref a :: S)) := by
  obtain ⟨T', X', e', st⟩ := getF X B.1 hZ hown (host := "") (Or.inl w) via eT F (g := mkF m pc L (.ref a :: S)) rfl rfl (hb B.2.1 hd)
  exact own_go st (K T' X' e')
theorem o_gfN (X : Stand p l e R s m args below meth c T locs cells slots) (B : own_B p c code ml) {pc : Nat} {L : Array Slot} {S : List Value} {Z : State} {a0 : Array Value} (hZ : Z.Warmed39 s.vm) {own : String} (hown : s.vm.findClass own = some m.cls) {R0 O n d : String} {host : String} {ix : Nat} (w : (Cond.fieldLinkNest own ix R0 n d host).before a0 Z = true) (via : Via Z R0 O n d) {h : Heap} (eT : T.heap = h) {a : Addr} {v : Value} (F : Fld Z h a O n d v) (hd : decode code pc = .ok (.getfield ix, 3)) (K : ∀ T', Stand p l e R s m args below meth c T' locs cells slots → T'.heap = h → own_G p e below Φ T' (mkF m (pc + 3) L (v :: S))) :
    own_G p e below Φ T (mkF m pc L (.ref a :: S)) := by
  obtain ⟨T', X', e', st⟩ := getF X B.1 hZ hown (Or.inr w) via eT F (g := mkF m pc L (.ref a :: S)) rfl rfl (hb B.2.1 hd)
  exact own_go st (K T' X' e')
theorem o_pf (X : Stand p l e R s m args below meth c T locs cells slots) (B : own_B p c code ml) {pc : Nat} {L : Array Slot} {S : List Value} {Z : State} {a0 : Array Value} (hZ : Z.Warmed39 s.vm) {own : String} (hown : s.vm.findClass own = some m.cls) {R0 O n d C : String} {ix kk : Nat} {ty : FieldType} (w : (Cond.fieldLink own ix R0 n d).before a0 Z = true) (via : Via Z R0 O n d) {h : Heap} (eT : T.heap = h) {a : Addr} {v old : Value} (F : Fld Z h a O n d old) (E : Exa Z h a C) (Ly : (Cond.lays C O n d).before a0 Z = true ∨ ((Cond.laysFinal C O n d).before a0 Z = true ∧ own = O ∧ meth.name = "<init>")) (wi : (Cond.instantiable C kk).before a0 Z = true) (hty : parseFieldDescriptor d = some ty) (hn : narrow ty v = v) (hf : fits ty v = true) (hd : decode code pc = .ok (.putfield ix, 3)) (K : ∀ T' h', Stand p l e R s m args below meth c T' (locs ++ [⟨a, slotOf Z O n d⟩]) cells slots → T'.heap = h' → Wr h h' a (slotOf Z O n d) v → own_G p e below Φ T' (mkF m (pc + 3) L S)) :
    own_G p e below Φ T (mkF m pc L (v :: .ref a :: S)) := by
  obtain ⟨T', h', X', e', W, st⟩ := putF X B.1 hZ hown (host := "") (Or.inl w) via eT F E Ly wi hty hn hf (g := mkF m pc L (v :: .ref a :: S)) rfl rfl (hb B.2.1 hd)
  exact own_go st (K T' h' X' e' W)
theorem o_pfN (X : Stand p l e R s m args below meth c T locs cells slots) (B : own_B p c code ml) {pc : Nat} {L : Array Slot} {S : List Value} {Z : State} {a0 : Array Value} (hZ : Z.Warmed39 s.vm) {own : String} (hown : s.vm.findClass own = some m.cls) {R0 O n d C : String} {ix kk : Nat} {ty : FieldType} (w : (Cond.fieldLink own ix R0 n d).before a0 Z = true) (via : Via Z R0 O n d) {h : Heap} (eT : T.heap = h) {a : Addr} {v v' old : Value} (F : Fld Z h a O n d old) (E : Exa Z h a C) (Ly : (Cond.lays C O n d).before a0 Z = true ∨ ((Cond.laysFinal C O n d).before a0 Z = true ∧ own = O ∧ meth.name = "<init>")) (wi : (Cond.instantiable C kk).before a0 Z = true) (hty : parseFieldDescriptor d = some ty) (hn : narrow ty v = v') (hf : fits ty v' = true) (hd : decode code pc = .ok (.putfield ix, 3)) (K : ∀ T' h', Stand p l e R s m args below meth c T' (locs ++ [⟨a, slotOf Z O n d⟩]) cells slots → T'.heap = h' → Wr h h' a (slotOf Z O n d) v' → own_G p e below Φ T' (mkF m (pc + 3) L S)) :
    own_G p e below Φ T (mkF m pc L (v :: .ref a :: S)) := by
  obtain ⟨T', h', X', e', W, st⟩ := putFN X B.1 hZ hown w via eT F E Ly wi hty hn hf (g := mkF m pc L (v :: .ref a :: S)) rfl rfl (hb B.2.1 hd)
  exact own_go st (K T' h' X' e' W)
theorem o_gs (X : Stand p l e R s m args below meth c T locs cells slots) (B : own_B p c code ml) {pc : Nat} {L : Array Slot} {S : List Value} {Z : State} {a0 : Array Value} (hZ : Z.Warmed39 s.vm) {own : String} (hown : s.vm.findClass own = some m.cls) {R0 O n d : String} {ix : Nat} (w : (Cond.fieldLink own ix R0 n d).before a0 Z = true) (via : Via Z R0 O n d) {h : Heap} (eT : T.heap = h) {v : Value} (F : Sta Z h O n d v) (hd : decode code pc = .ok (.getstatic ix, 3)) (K : ∀ T', Stand p l e R s m args below meth c T' locs cells slots → T'.heap = h → own_G p e below Φ T' (mkF m (pc + 3) L (v :: S))) :
    own_G p e below Φ T (mkF m pc L S) := by
  obtain ⟨T', X', e', st⟩ := getS2 X B.1 hZ hown (host := "") (Or.inl w) via eT F (g := mkF m pc L S) rfl (hb B.2.1 hd)
  exact own_go st (K T' X' e')
theorem o_io (X : Stand p l e R s m args below meth c T locs cells slots) (B : own_B p c code ml) {pc : Nat} {L : Array Slot} {S : List Value} {Z : State} {a0 : Array Value} (hZ : Z.Warmed39 s.vm) {own : String} (hown : s.vm.findClass own = some m.cls) {ix : Nat} (w1 : (Cond.methodLink own ix Lib.objectInit).before a0 Z = true) (w2 : (Cond.instanceMethod Lib.objectInit).before a0 Z = true) (w3 : (Cond.code Lib.objectInit ⟨#[0xb1]⟩ 1 none).before a0 Z = true) {h : Heap} (eT : T.heap = h) {a : Addr} (hd : decode code pc = .ok (.invokespecial ix, 3)) (hf : 1 ≤ R.frames) (W : Nat) (hW : (S.map fun v => v.category).sum = W) (hl : W + 12 ≤ R.locals) (hL : L.size = ml) (K : ∀ T', Stand p l e R s m args below meth c T' locs cells slots → T'.heap = h → own_G p e below Φ T' (mkF m (pc + 3) L S)) :
    own_G p e below Φ T (mkF m pc L (.ref a :: S)) := by
  obtain ⟨T', X', e', st⟩ := initO X B.1 hZ hown w1 w2 w3 eT (g := mkF m pc L (.ref a :: S)) rfl (by rw [B.2.2]; exact hL) rfl (hb B.2.1 hd) hf (W := W) (by show 2 * 0 + _ ≤ _; rw [hW]; omega) hl
  exact own_go st (K T' X' e')
theorem o_new (X : Stand p l e R s m args below meth c T locs cells slots) (B : own_B p c code ml) {pc : Nat} {L : Array Slot} {S : List Value} {Z : State} {a0 : Array Value} (hZ : Z.Warmed39 s.vm) {own : String} (hown : s.vm.findClass own = some m.cls) {C : String} {ix n : Nat} (w : (Cond.classLink own ix C).before a0 Z = true) (wi : (Cond.instantiable C n).before a0 Z = true) (wz : (Cond.initialized C).before a0 Z = true) {h : Heap} (eT : T.heap = h) (hd : decode code pc = .ok (.new ix, 3)) (hc : cells + 1 ≤ R.cells) (hl : slots + n ≤ R.slots) (K : ∀ T' h' x, x = h.size → Stand p l e R s m args below meth c T' locs (cells + 1) (slots + n) → T'.heap = h' → Ext h h' → Exa Z h' x C → (∀ {O nm d : String} {ty : FieldType}, Laid Z a0 C O nm d → parseFieldDescriptor d = some ty → Fld Z h' x O nm d (defaultValue ty)) → own_G p e below Φ T' (mkF m (pc + 3) L (.ref x :: S))) :
    own_G p e below Φ T (mkF m pc L S) := by
  obtain ⟨T', h', X', e', E, A, D, -, st⟩ := newO X B.1 hZ hown w wi wz eT (g := mkF m pc L S) rfl (hb B.2.1 hd) hc hl
  exact own_go st (K T' h' _ rfl X' e' E A D)
theorem o_np (X : Stand p l e R s m args below meth c T locs cells slots) (B : own_B p c code ml) {pc : Nat} {L : Array Slot} {S : List Value} {Z : State} {a0 : Array Value} (hZ : Z.Warmed39 s.vm) {aty : ArrayType} (w : (Cond.arrayClass (newarray.typeOf aty)).before a0 Z = true) {h : Heap} (eT : T.heap = h) (hd : decode code pc = .ok (.newarray aty, 2)) {n : Int32} (hn : ¬ n < 0) (cap : Nat) (hcap : n.toNatClampNeg ≤ cap) (hbg : cap * 8 ≤ 536870912) (hc : cells + 1 ≤ R.cells) (hl : slots + cap ≤ R.slots) (K : ∀ T' h' ka x, x = h.size → Stand p l e R s m args below meth c T' locs (cells + 1) (slots + cap) → T'.heap = h' → Ext h h' → Arv Z h' x ka (newarray.typeOf aty) n ([] ++ List.replicate cap (defaultValue (newarray.typeOf aty))) (defaultValue (newarray.typeOf aty)) → own_G p e below Φ T' (mkF m (pc + 2) L (.ref x :: S))) :
    own_G p e below Φ T (mkF m pc L (.int n :: S)) := by
  obtain ⟨T', h', ka, X', e', E, A, st⟩ := newP X B.1 hZ w eT (g := mkF m pc L (.int n :: S)) rfl (hb B.2.1 hd) rfl hn hcap hbg hc hl
  exact own_go st (K T' h' ka _ rfl X' e' E ((Arv.new A hn).pad (pad_rep [] _ cap)))
theorem o_nr (X : Stand p l e R s m args below meth c T locs cells slots) (B : own_B p c code ml) {pc : Nat} {L : Array Slot} {S : List Value} {Z : State} {a0 : Array Value} (hZ : Z.Warmed39 s.vm) {own : String} (hown : s.vm.findClass own = some m.cls) {C : String} {ix : Nat} (w1 : (Cond.classLink own ix C).before a0 Z = true) (w2 : (Cond.arrayOver (.object C)).before a0 Z = true) {h : Heap} (eT : T.heap = h) (hd : decode code pc = .ok (.anewarray ix, 3)) {n : Int32} (hn : ¬ n < 0) (cap : Nat) (hcap : n.toNatClampNeg ≤ cap) (hbg : cap * 8 ≤ 536870912) (hc : cells + 1 ≤ R.cells) (hl : slots + cap ≤ R.slots) (K : ∀ T' h' ka x, x = h.size → Stand p l e R s m args below meth c T' locs (cells + 1) (slots + cap) → T'.heap = h' → Ext h h' → Arv Z h' x ka (.object C) n ([] ++ List.replicate cap .null) .null → Ovr Z ka C → own_G p e below Φ T' (mkF m (pc + 3) L (.ref x :: S))) :
    own_G p e below Φ T (mkF m pc L (.int n :: S)) := by
  obtain ⟨T', h', ka, X', e', E, A, O, st⟩ := newR X B.1 hZ hown w1 w2 eT (g := mkF m pc L (.int n :: S)) rfl (hb B.2.1 hd) rfl hn hcap hbg hc hl
  exact own_go st (K T' h' ka _ rfl X' e' E ((Arv.new A hn).pad (pad_rep [] _ cap)) O)
theorem o_len (X : Stand p l e R s m args below meth c T locs cells slots) (B : own_B p c code ml) {pc : Nat} {L : Array Slot} {S : List Value} {ty : FieldType} {Z : State} (hZ : Z.Warmed39 s.vm) {h : Heap} (eT : T.heap = h) {a : Addr} {k : ClassId} {n : Int32} {vs : List Value} {d : Value} (A : Arv Z h a k ty n vs d) (hd : decode code pc = .ok (.arraylength, 1)) (K : own_G p e below Φ T (mkF m (pc + 1) L (.int n :: S))) : own_G p e below Φ T (mkF m pc L (.ref a :: S)) := by
  obtain ⟨cl, Ar, q, Sz, M, H, G⟩ := A
  refine own_go (fun _ => X.arraylength B.1 (by rw [eT]; exact Ar.1) (State.isArrayOf_alike hZ.alike Ar.2.1) (g := mkF m pc L (.ref a :: S)) rfl rfl (hb B.2.1 hd) _) ?_
  rw [len_of Sz M]
  exact K
theorem o_cal (X : Stand p l e R s m args below meth c T locs cells slots) (B : own_B p c code ml) {pc : Nat} {L : Array Slot} {S : List Value} {Z : State} (hZ : Z.Warmed39 s.vm) {h : Heap} (eT : T.heap = h) {a : Addr} {k : ClassId} {n : Int32} {vs : List Value} {d : Value} (A : Arv Z h a k .char n vs d) {j : Int32} {v : Value} (q : ¬ j < 0 ∧ j < n) (u : vs.getD j.toNatClampNeg d = v) (hd : decode code pc = .ok (.caload, 1)) (K : own_G p e below Φ T (mkF m (pc + 1) L (v :: S))) : own_G p e below Φ T (mkF m pc L (.int j :: .ref a :: S)) := by
  obtain ⟨cl, Ar, q0, Sz, M, H, G⟩ := A
  have hin := inb_of Sz q
  exact own_go (fun _ => X.caload B.1 (j := j) (v := v) (by rw [eT]; exact Ar.1) (State.isArrayOf_alike hZ.alike Ar.2.1) Ar.2.2 hin (H.at hin u) (g := mkF m pc L (.int j :: .ref a :: S)) rfl rfl (hb B.2.1 hd) _) K
theorem o_bal (X : Stand p l e R s m args below meth c T locs cells slots) (B : own_B p c code ml) {pc : Nat} {L : Array Slot} {S : List Value} {Z : State} (hZ : Z.Warmed39 s.vm) {h : Heap} (eT : T.heap = h) {a : Addr} {k : ClassId} {n : Int32} {vs : List Value} {d : Value} (A : Arv Z h a k .byte n vs d) {j : Int32} {v : Value} (q : ¬ j < 0 ∧ j < n) (u : vs.getD j.toNatClampNeg d = v) (hd : decode code pc = .ok (.baload, 1)) (K : own_G p e below Φ T (mkF m (pc + 1) L (v :: S))) : own_G p e below Φ T (mkF m pc L (.int j :: .ref a :: S)) := by
  obtain ⟨cl, Ar, q0, Sz, M, H, G⟩ := A
  have hin := inb_of Sz q
  exact own_go (fun _ => X.baloadBytes B.1 (j := j) (v := v) (by rw [eT]; exact Ar.1) (State.isArrayOf_alike hZ.alike Ar.2.1) Ar.2.2 hin (H.at hin u) (g := mkF m pc L (.int j :: .ref a :: S)) rfl rfl (hb B.2.1 hd) _) K
theorem o_aal (X : Stand p l e R s m args below meth c T locs cells slots) (B : own_B p c code ml) {pc : Nat} {L : Array Slot} {S : List Value} {ty : FieldType} {Z : State} (hZ : Z.Warmed39 s.vm) {h : Heap} (eT : T.heap = h) {a : Addr} {k : ClassId} {n : Int32} {vs : List Value} {d : Value} (A : Arv Z h a k ty n vs d) (hty : ty.isReference = true) {j : Int32} {v : Value} (q : ¬ j < 0 ∧ j < n) (u : vs.getD j.toNatClampNeg d = v) (hd : decode code pc = .ok (.aaload, 1)) (K : own_G p e below Φ T (mkF m (pc + 1) L (v :: S))) : own_G p e below Φ T (mkF m pc L (.int j :: .ref a :: S)) := by
  obtain ⟨cl, Ar, q0, Sz, M, H, G⟩ := A
  have hin := inb_of Sz q
  exact own_go (fun _ => X.aaload B.1 (j := j) (v := v) (by rw [eT]; exact Ar.1) (State.isArrayOf_alike hZ.alike Ar.2.1) hty Ar.2.2 hin (H.at hin u) (g := mkF m pc L (.int j :: .ref a :: S)) rfl rfl (hb B.2.1 hd) _) K
theorem o_cst (X : Stand p l e R s m args below meth c T locs cells slots) (B : own_B p c code ml) {pc : Nat} {L : Array Slot} {S : List Value} {Z : State} (hZ : Z.Warmed39 s.vm) {h : Heap} (eT : T.heap = h) {a : Addr} {k : ClassId} {n : Int32} {vs : List Value} {d : Value} (A : Arv Z h a k .char n vs d) {j x : Int32} (q : ¬ j < 0 ∧ j < n) (i : Nat) (hi : j.toNatClampNeg = i) (hv : i < vs.length) (hd : decode code pc = .ok (.castore, 1)) (K : ∀ T' h', Stand p l e R s m args below meth c T' (locs ++ [⟨a, j.toNatClampNeg⟩]) cells slots → T'.heap = h' → Wr h h' a j.toNatClampNeg (.int (nar .char x)) → Arv Z h' a k .char n (vs.set i (.int (nar .char x))) d → own_G p e below Φ T' (mkF m (pc + 1) L S)) :
    own_G p e below Φ T (mkF m pc L (.int x :: .int j :: .ref a :: S)) := by
  obtain ⟨cl, Ar, q0, Sz, M, H, G⟩ := A
  obtain ⟨T', h', X', e', W, st⟩ := stC X B.1 hZ eT Ar (j := j) (inb_of Sz q) (g := mkF m pc L (.int x :: .int j :: .ref a :: S)) rfl rfl (hb B.2.1 hd)
  exact own_go st (K T' h' X' e' W (Arv.set Ar q0 Sz M H G (fits_nar_char x) W i hi hv))
theorem o_bst (X : Stand p l e R s m args below meth c T locs cells slots) (B : own_B p c code ml) {pc : Nat} {L : Array Slot} {S : List Value} {Z : State} (hZ : Z.Warmed39 s.vm) {h : Heap} (eT : T.heap = h) {a : Addr} {k : ClassId} {n : Int32} {vs : List Value} {d : Value} (A : Arv Z h a k .byte n vs d) {j x : Int32} (q : ¬ j < 0 ∧ j < n) (i : Nat) (hi : j.toNatClampNeg = i) (hv : i < vs.length) (hd : decode code pc = .ok (.bastore, 1)) (K : ∀ T' h', Stand p l e R s m args below meth c T' (locs ++ [⟨a, j.toNatClampNeg⟩]) cells slots → T'.heap = h' → Wr h h' a j.toNatClampNeg (.int (nar .byte x)) → Arv Z h' a k .byte n (vs.set i (.int (nar .byte x))) d → own_G p e below Φ T' (mkF m (pc + 1) L S)) :
    own_G p e below Φ T (mkF m pc L (.int x :: .int j :: .ref a :: S)) := by
  obtain ⟨cl, Ar, q0, Sz, M, H, G⟩ := A
  obtain ⟨T', h', X', e', W, st⟩ := stB X B.1 hZ eT Ar (j := j) (inb_of Sz q) (g := mkF m pc L (.int x :: .int j :: .ref a :: S)) rfl rfl (hb B.2.1 hd)
  exact own_go st (K T' h' X' e' W (Arv.set Ar q0 Sz M H G (fits_nar_byte x) W i hi hv))
theorem o_ast (X : Stand p l e R s m args below meth c T locs cells slots) (B : own_B p c code ml) {pc : Nat} {L : Array Slot} {S : List Value} {C0 : String} {Z : State} (hZ : Z.Warmed39 s.vm) {h : Heap} (eT : T.heap = h) {a : Addr} {k : ClassId} {n : Int32} {vs : List Value} {d : Value} (A : Arv Z h a k (.object C0) n vs d) {C : String} {j : Int32} {y : Addr} (O : Ovr Z k C) (I : Ins Z h y C true) (q : ¬ j < 0 ∧ j < n) (i : Nat) (hi : j.toNatClampNeg = i) (hv : i < vs.length) (hd : decode code pc = .ok (.aastore, 1)) (K : ∀ T' h', Stand p l e R s m args below meth c T' (locs ++ [⟨a, j.toNatClampNeg⟩]) cells slots → T'.heap = h' → Wr h h' a j.toNatClampNeg (.ref y) → Arv Z h' a k (.object C0) n (vs.set i (.ref y)) d → own_G p e below Φ T' (mkF m (pc + 1) L S)) :
    own_G p e below Φ T (mkF m pc L (.ref y :: .int j :: .ref a :: S)) := by
  obtain ⟨cl, Ar, q0, Sz, M, H, G⟩ := A
  obtain ⟨T', h', X', e', W, st⟩ := stR X B.1 hZ eT Ar (j := j) (inb_of Sz q) rfl (Sto.ofV Ar q0 O I) (g := mkF m pc L (.ref y :: .int j :: .ref a :: S)) rfl rfl (hb B.2.1 hd)
  exact own_go st (K T' h' X' e' W (Arv.set Ar q0 Sz M H G rfl W i hi hv))
theorem o_lsw (X : Stand p l e R s m args below meth c T locs cells slots) (B : own_B p c code ml) {pc : Nat} {L : Array Slot} {S : List Value} {k : Int32} {dflt : Int} {prs : Array (Int × Int)} {len : Nat} {a off : Int} (pc' : Nat) (hd : decode code pc = .ok (.lookupswitch dflt prs, len)) (hs : (prs.toList.zip (prs.toList.drop 1)).all (fun (a, next) => a.1 < next.1) = true) (hf : prs.find? (·.1 == k.toInt) = some (a, off)) (h : (pc : Int) + off = (pc' : Int)) (K : own_G p e below Φ T (mkF m pc' L S)) : own_G p e below Φ T (mkF m pc L (.int k :: S)) := by
  obtain ⟨q1, q2⟩ := own_jmp h
  subst q2
  exact own_go (fun _ zz => X.lookupswitchHit B.1 (g := mkF m pc L (.int k :: S)) rfl rfl (hb B.2.1 hd) hs hf q1 _ zz) K
theorem o_cast (X : Stand p l e R s m args below meth c T locs cells slots) (B : own_B p c code ml) {pc : Nat} {L : Array Slot} {S : List Value} {Z : State} {a0 : Array Value} (hZ : Z.Warmed39 s.vm) {own : String} (hown : s.vm.findClass own = some m.cls) {K0 : String} {ix : Nat} (w : (Cond.classLink own ix K0).before a0 Z = true) {h : Heap} (eT : T.heap = h) {a : Addr} (F : Ins Z h a K0 true) (hd : decode code pc = .ok (.checkcast ix, 3)) (K : ∀ T', Stand p l e R s m args below meth c T' locs cells slots → T'.heap = h → own_G p e below Φ T' (mkF m (pc + 3) L (.ref a :: S))) :
    own_G p e below Φ T (mkF m pc L (.ref a :: S)) := by
  obtain ⟨T', X', e', st⟩ := castY X B.1 hZ hown w eT F (g := mkF m pc L (.ref a :: S)) rfl rfl (hb B.2.1 hd)
  exact own_go st (K T' X' e')
theorem o_inst (X : Stand p l e R s m args below meth c T locs cells slots) (B : own_B p c code ml) {pc : Nat} {L : Array Slot} {S : List Value} {Z : State} {a0 : Array Value} (hZ : Z.Warmed39 s.vm) {own : String} (hown : s.vm.findClass own = some m.cls) {K0 : String} {ix : Nat} (w : (Cond.classLink own ix K0).before a0 Z = true) {h : Heap} (eT : T.heap = h) {a : Addr} (F : Ins Z h a K0 true) (hd : decode code pc = .ok (.instanceof ix, 3)) (K : ∀ T', Stand p l e R s m args below meth c T' locs cells slots → T'.heap = h → own_G p e below Φ T' (mkF m (pc + 3) L (.int 1 :: S))) :
    own_G p e below Φ T (mkF m pc L (.ref a :: S)) := by
  obtain ⟨T', X', e', st⟩ := instY X B.1 hZ hown w eT F (g := mkF m pc L (.ref a :: S)) rfl rfl (hb B.2.1 hd)
  exact own_go st (K T' X' e')
theorem o_castN (X : Stand p l e R s m args below meth c T locs cells slots) (B : own_B p c code ml) {pc : Nat} {L : Array Slot} {S : List Value} {ix : Nat} (hd : decode code pc = .ok (.checkcast ix, 3))  (K : own_G p e below Φ T (mkF m (pc + 3) L (.null :: S))) : own_G p e below Φ T (mkF m pc L (.null :: S)) := own_go (fun t zz => X.checkcastNull B.1 (g := mkF m pc L (.null :: S)) (rest := S) rfl rfl (hb B.2.1 hd) t zz) K
theorem o_fl (X : Stand p l e R s m args below meth c T locs cells slots) (B : own_B p c code ml) {pc : Nat} {L : Array Slot} {S : List Value} {Z : State} {a0 : Array Value} (hZ : Z.Warmed39 s.vm) {own : String} (hown : s.vm.findClass own = some m.cls) {ix : Nat} {b : UInt32} (w : (Cond.constantFloat own ix b).before a0 Z = true) (hd : decode code pc = .ok (.ldc ix, 2)) (K : own_G p e below Φ T (mkF m (pc + 2) L (.float b :: S))) : own_G p e below Φ T (mkF m pc L S) := own_go (fun _ => X.ldcFloatC B.1 hown (mvT hZ w) (g := mkF m pc L S) rfl (hb B.2.1 hd) _) K
theorem o_rV (X : Stand p l e R s m args below meth c T locs cells slots) (B : own_B p c code ml) {pc : Nat} {L : Array Slot} {Q : Option Value → Heap → List Loc → Prop} {k n : Nat} (hΦ : Φ = own_E s below Q k n) (hlk : meth.locks = false) (hret : meth.sig.returnType = none) (hd : decode code pc = .ok (.return_, 1)) {h : Heap} (eT : T.heap = h) (hc : cells ≤ k) (hn : slots ≤ n) (hq : Q none h locs) : own_G p e below Φ T (mkF m pc L []) := by
  subst hΦ eT
  exact own_ret X (fun _ => rfl) hlk (fun fs hr => X.returnOut B.1 hret (hb B.2.1 hd) hr) hq hc hn
theorem o_rZ (X : Stand p l e R s m args below meth c T locs cells slots) (B : own_B p c code ml) {pc : Nat} {L : Array Slot} {S : List Value} {Q : Option Value → Heap → List Loc → Prop} {k n : Nat} (hΦ : Φ = own_E s below Q k n) (hlk : meth.locks = false) {t : FieldType} (hret : meth.sig.returnType = some t) (ht : t = .boolean ∨ t = .byte ∨ t = .char ∨ t = .short) {x : Int32} (hd : decode code pc = .ok (.ireturn, 1)) (x' : Int32) (hx : nar t x = x') {h : Heap} (eT : T.heap = h) (hc : cells ≤ k) (hn : slots ≤ n) (hq : Q (some (.int x')) h locs) : own_G p e below Φ T (mkF m pc L (.int x :: S)) := by
  subst hΦ eT hx
  exact own_ret X (fun q => by rw [hret] at q; cases q) hlk (fun fs hr => retN X B.1 hret ht (hb B.2.1 hd) hr) hq hc hn
theorem o_rI (X : Stand p l e R s m args below meth c T locs cells slots) (B : own_B p c code ml) {pc : Nat} {L : Array Slot} {S : List Value} {Q : Option Value → Heap → List Loc → Prop} {k n : Nat} (hΦ : Φ = own_E s below Q k n) (hlk : meth.locks = false) (hret : meth.sig.returnType = some .int) {x : Int32} (hd : decode code pc = .ok (.ireturn, 1)) {h : Heap} (eT : T.heap = h) (hc : cells ≤ k) (hn : slots ≤ n) (hq : Q (some (.int x)) h locs) : own_G p e below Φ T (mkF m pc L (.int x :: S)) := by
  subst hΦ eT
  exact own_ret X (fun q => by rw [hret] at q; cases q) hlk (fun fs hr => retOut X B.1 hret rfl (Or.inl ⟨rfl, Or.inl rfl, _, rfl⟩) (hb B.2.1 hd) hr) hq hc hn
theorem o_rJ (X : Stand p l e R s m args below meth c T locs cells slots) (B : own_B p c code ml) {pc : Nat} {L : Array Slot} {S : List Value} {Q : Option Value → Heap → List Loc → Prop} {k n : Nat} (hΦ : Φ = own_E s below Q k n) (hlk : meth.locks = false) (hret : meth.sig.returnType = some .long) {x : Int64} (hd : decode code pc = .ok (.lreturn, 1)) {h : Heap} (eT : T.heap = h) (hc : cells ≤ k) (hn : slots ≤ n) (hq : Q (some (.long x)) h locs) : own_G p e below Φ T (mkF m pc L (.long x :: S)) := by
  subst hΦ eT
  exact own_ret X (fun q => by rw [hret] at q; cases q) hlk (fun fs hr => retOut X B.1 hret rfl (Or.inr (Or.inl ⟨rfl, rfl, _, rfl⟩)) (hb B.2.1 hd) hr) hq hc hn
theorem o_rA (X : Stand p l e R s m args below meth c T locs cells slots) (B : own_B p c code ml) {pc : Nat} {L : Array Slot} {S : List Value} {Q : Option Value → Heap → List Loc → Prop} {k n : Nat} (hΦ : Φ = own_E s below Q k n) (hlk : meth.locks = false) {t : FieldType} (hret : meth.sig.returnType = some t) (ht : t.isReference = true) {x : Value} (hx : x.isRef = true) (hd : decode code pc = .ok (.areturn, 1)) {h : Heap} (eT : T.heap = h) (hc : cells ≤ k) (hn : slots ≤ n) (hq : Q (some x) h locs) : own_G p e below Φ T (mkF m pc L (x :: S)) := by
  subst hΦ eT
  exact own_ret X (fun q => by rw [hret] at q; cases q) hlk (fun fs hr => retOut X B.1 hret (own_nar hx) (Or.inr (Or.inr (Or.inr (Or.inr ⟨rfl, ht, hx⟩)))) (hb B.2.1 hd) hr) hq hc hn
theorem own_nf {s : State} {args : Array Value} {C : String} {x y z : MethodName} (w : (Cond.selects C x z).before args s = true) (hc : y.cls = z.cls) : NotFace s y := fun r0 h0 => by
  obtain ⟨c, r, m, -, -, h3, -, mk, h4, h5⟩ := Cond.selects_spec w
  have a := findClass_of_methodNamed h0
  have b := findClass_of_methodNamed h3
  rw [hc] at a
  have q := Option.some.inj (a.symm.trans b)
  exact ⟨mk, by rw [q]; exact h4, h5⟩
theorem o_cW (X : Stand p l e R s m args below meth c T locs cells slots) (B : own_B p c code ml) {pc : Nat} {L : Array Slot} {S : List Value} {Z : State} {a0 : Array Value} (hZ : Z.Warmed39 s.vm) {own : String} (hown : s.vm.findClass own = some m.cls) {ix : Nat} {bytes : ByteArray} {maxL : Nat} {ret : Option FieldType} {rm : Room} {as' : Array Value} {h : Heap} {Q : Option Value → Heap → List Loc → Prop} {rest argsL : List Value} {C C' : String} {y z x' z' : MethodName} {b : Addr} (w1 : (Cond.methodLink own ix y).before a0 Z = true) (w2 : (Cond.declares y).before a0 Z = true) (wn : (Cond.selects C' x' z').before a0 Z = true) (hyz : y.cls = z'.cls) (w5 : (Cond.selects C y z).before a0 Z = true) (w6 : (Cond.instanceMethod z).before a0 Z = true) (w4 : (Cond.code z bytes maxL ret).before a0 Z = true) (w3 : (Cond.initialized z.cls).before a0 Z = true) (hy : y.cls ≠ "java/lang/invoke/MethodHandle" ∧ y.cls ≠ "java/lang/invoke/VarHandle") (ex : Exa Z h b C) (W : Nat) (hM : own_Met l z bytes maxL ret [] rm Z h as' Q) (hf : rm.frames + 1 ≤ R.frames) (hl : W + (maxL + 11) + rm.locals ≤ R.locals) (hlen : ∀ sig, parseMethodDescriptor y.desc = some sig → argsL.length = sig.parameters.length) (has : (Value.ref b :: argsL).toArray = as') (hst : S = argsL.reverse ++ .ref b :: rest) (hW : (rest.map fun v => v.category).sum = W) (hd : decode code pc = .ok (.invokevirtual ix, 3)) (hh : T.heap = h) (hc : cells + rm.cells ≤ R.cells) (hn : slots + rm.slots ≤ R.slots) (hL : L.size = ml)
    (K : ∀ v T' L', Stand p l e R s m args below meth c T' (locs ++ L') (cells + rm.cells) (slots + rm.slots) → Q v T'.heap L' → own_G p e below Φ T' (mkF m (pc + 3) L (v.toList ++ rest))) :
    own_G p e below Φ T (mkF m pc L S) := by
  obtain ⟨cq, kq, q1, q2, q3⟩ := isOf hZ hh ex
  obtain ⟨v, _, ⟨T', zL, zk, zn⟩, -, X', ⟨L', hQ, zl, zy, zz⟩, st⟩ := X.virtualBack B.1 hown (mvT hZ w1) (mvT hZ w2) (own_nf (args := #[]) (mvT hZ wn) hyz) (mvT hZ w5) (mvT hZ w6) hy (backOf (W := W) hM hZ w4 w3 hf hl) q1 q3 (g := mkF m pc L S) rfl (by rw [B.2.2]; exact hL) (Steps.refl _) (argsL := argsL) (rest := rest) hlen hst (by show 2 * 0 + _ ≤ _; rw [hW]; omega) (hb B.2.1 hd) (fun _ _ => ⟨has, hh, hc, hn⟩)
  dsimp only [Pt.U, Pt.locs, Pt.cells, Pt.slots] at X' zl zy zz st hQ
  subst zl zy zz
  exact own_on st (K v T' L' X' hQ)
theorem o_cP (X : Stand p l e R s m args below meth c T locs cells slots) (B : own_B p c code ml) {pc : Nat} {L : Array Slot} {S : List Value} {Z : State} {a0 : Array Value} (hZ : Z.Warmed39 s.vm) {own : String} (hown : s.vm.findClass own = some m.cls) {ix : Nat} {bytes : ByteArray} {maxL : Nat} {ret : Option FieldType} {rm : Room} {as' : Array Value} {h : Heap} {Q : Option Value → Heap → List Loc → Prop} {rest argsL : List Value} {y : MethodName} {b : Addr} {C : String} (w1 : (Cond.methodLink own ix y).before a0 Z = true) (w2 : (Cond.instanceMethod y).before a0 Z = true) (w5 : (Cond.selects y.cls y y).before a0 Z = true) (w6 : (Cond.privateMethod y).before a0 Z = true) (w4 : (Cond.code y bytes maxL ret).before a0 Z = true) (w3 : (Cond.initialized y.cls).before a0 Z = true) (hy : y.cls ≠ "java/lang/invoke/MethodHandle" ∧ y.cls ≠ "java/lang/invoke/VarHandle") (ex : Exa Z h b C) (W : Nat) (hM : own_Met l y bytes maxL ret [] rm Z h as' Q) (hf : rm.frames + 1 ≤ R.frames) (hl : W + (maxL + 11) + rm.locals ≤ R.locals) (hlen : ∀ sig, parseMethodDescriptor y.desc = some sig → argsL.length = sig.parameters.length) (has : (Value.ref b :: argsL).toArray = as') (hst : S = argsL.reverse ++ .ref b :: rest) (hW : (rest.map fun v => v.category).sum = W) (hd : decode code pc = .ok (.invokevirtual ix, 3)) (hh : T.heap = h) (hc : cells + rm.cells ≤ R.cells) (hn : slots + rm.slots ≤ R.slots) (hL : L.size = ml)
    (K : ∀ v T' L', Stand p l e R s m args below meth c T' (locs ++ L') (cells + rm.cells) (slots + rm.slots) → Q v T'.heap L' → own_G p e below Φ T' (mkF m (pc + 3) L (v.toList ++ rest))) :
    own_G p e below Φ T (mkF m pc L S) := by
  obtain ⟨cq, zc, zd⟩ := ex.cell
  obtain ⟨v, _, ⟨T', zL, zk, zn⟩, -, X', ⟨L', hQ, zl, zy, zz⟩, st⟩ := X.privateBack B.1 hown (mvT hZ w1) (mvT hZ w2) (mvT hZ w5) (Cond.privateMethod_at (mvP hZ w6 (args := #[]))) (mvT hZ w4) hy (backOf (W := W) hM hZ w4 w3 hf hl) (g := mkF m pc L S) rfl (by rw [B.2.2]; exact hL) (Steps.refl _) (a := b) (by rw [hh]; exact zc) zd (argsL := argsL) (rest := rest) hlen hst (by show 2 * 0 + _ ≤ _; rw [hW]; omega) (hb B.2.1 hd) (fun _ _ => ⟨has, hh, hc, hn⟩)
  dsimp only [Pt.U, Pt.locs, Pt.cells, Pt.slots] at X' zl zy zz st hQ
  subst zl zy zz
  exact own_on st (K v T' L' X' hQ)
end Steps
end Own
end Jvm.RoadKit
namespace Jvm.Pilot.@@N@@
open Jvm Jvm.ClassFile Sem Op Lib Jvm.Free Jvm.Stand Jvm.LawKit Jvm.RoadKit Bundle Jvm.Pilot.@@N@@.Jvm.D

theorem own_255 : ∀ j : Fin 32, (255#32).getLsbD j.val = decide (j.val < 8) := by decide
theorem bv8 (x : BitVec 32) : ((x.signExtend 8).signExtend 32) &&& 255#32 = x &&& 255#32 := by
  apply BitVec.eq_of_getLsbD_eq
  intro i hi
  have h255 := own_255 ⟨i, hi⟩
  dsimp only at h255
  rw [BitVec.getLsbD_and, BitVec.getLsbD_and, h255]
  by_cases h : i < 8
  · rw [decide_eq_true h, Bool.and_true, Bool.and_true, BitVec.getLsbD_signExtend, if_pos h, BitVec.getLsbD_signExtend, if_pos hi]
    simp [h, hi]
  · simp [h]
theorem bvlo (x : BitVec 32) (h : x.toNat ≤ 255) : x &&& 255#32 = x := by
  apply BitVec.eq_of_toNat_eq
  rw [BitVec.toNat_and]
  show x.toNat &&& 2 ^ 8 - 1 = x.toNat
  rw [Nat.and_two_pow_sub_one_eq_mod]
  omega
theorem bv16 (x : BitVec 32) (h : x.toNat ≤ 65535) : (x &&& 255#32) ||| (((x.sshiftRight 8) &&& 255#32) <<< 8) = x := by
  have hm : x.msb = false := by rw [BitVec.msb_eq_false_iff_two_mul_lt]; omega
  rw [BitVec.sshiftRight_eq_of_msb_false hm]
  apply BitVec.eq_of_toNat_eq
  rw [BitVec.toNat_or, BitVec.toNat_shiftLeft, BitVec.toNat_and, BitVec.toNat_and, BitVec.toNat_ushiftRight]
  show (x.toNat &&& 2 ^ 8 - 1) ||| (((x.toNat >>> 8 &&& 2 ^ 8 - 1) <<< 8) % 2 ^ 32) = x.toNat
  rw [Nat.and_two_pow_sub_one_eq_mod, Nat.and_two_pow_sub_one_eq_mod, Nat.shiftRight_eq_div_pow, Nat.shiftLeft_eq, Nat.mod_eq_of_lt (b := 2 ^ 32) (by omega), Nat.or_comm, Nat.mul_comm, ← Nat.two_pow_add_eq_or_of_lt (by omega : x.toNat % 2 ^ 8 < 2 ^ 8)]
  omega

def nar8 (x : Int32) : Int32 := x.toInt8.toInt32
theorem i8 (c : Int32) : ((c.toInt8.toInt32).toInt8.toInt32 &&& (255 : Int32)).toBitVec = c.toBitVec &&& 255#32 := by
  rw [Int8.toInt8_toInt32]
  rw [Int32.toBitVec_and]
  rw [Int8.toBitVec_toInt32, Int32.toBitVec_toInt8]
  exact bv8 c.toBitVec
theorem toNat_of {c : Int32} {n : Nat} (h1 : ¬ c < 0) (h2 : ¬ (Int32.ofNat n) < c) (hn : n < 2147483648) : c.toBitVec.toNat ≤ n := by
  rw [Int32.lt_iff_toInt_lt] at h1 h2
  rw [Int32.toInt_ofNat_of_lt (by omega)] at h2
  rw [show (0 : Int32).toInt = 0 from rfl] at h1
  have e : c.toInt = c.toBitVec.toInt := rfl
  rw [e] at h1 h2
  rw [BitVec.toInt_eq_toNat_cond] at h1 h2
  split at h1 <;> omega
theorem ch (y : Int32) (h : y.toBitVec.toNat ≤ 65535) : y.toUInt32.toUInt16.toUInt32.toInt32 = y := by
  apply Int32.toBitVec_inj.mp
  apply BitVec.eq_of_toNat_eq
  simp only [UInt32.toBitVec_toInt32, UInt16.toBitVec_toUInt32, UInt32.toBitVec_toUInt16, Int32.toBitVec_toUInt32, BitVec.toNat_setWidth]
  omega
theorem rd8 {c : Int32} (h1 : ¬ c < 0) (h2 : ¬ (255 : Int32) < c) : ((c.toInt8.toInt32).toInt8.toInt32 &&& (255 : Int32)).toUInt32.toUInt16.toUInt32.toInt32 = c := by
  have hc := toNat_of (n := 255) h1 h2 (by decide)
  have e : (c.toInt8.toInt32).toInt8.toInt32 &&& (255 : Int32) = c := Int32.toBitVec_inj.mp (by rw [i8, bvlo _ hc])
  rw [e]
  exact ch c (by omega)
theorem sh0 (c : Int32) : c >>> ((0 : Int32) &&& 31) = c := by
  apply Int32.toBitVec_inj.mp
  rw [Int32.toBitVec_shiftRight]
  have : ((0 : Int32) &&& 31).toBitVec.smod 32 = 0#32 := by decide
  rw [this]
  simp
theorem sh8 (c : Int32) : (c >>> ((8 : Int32) &&& 31)).toBitVec = c.toBitVec.sshiftRight 8 := by
  rw [Int32.toBitVec_shiftRight]
  have : ((8 : Int32) &&& 31).toBitVec.smod 32 = 8#32 := by decide
  rw [this]
  rfl
theorem sl0 (c : Int32) : c <<< ((0 : Int32) &&& 31) = c := by
  apply Int32.toBitVec_inj.mp
  rw [Int32.toBitVec_shiftLeft]
  have : ((0 : Int32) &&& 31).toBitVec.smod 32 = 0#32 := by decide
  rw [this]
  simp
theorem sl8 (c : Int32) : (c <<< ((8 : Int32) &&& 31)).toBitVec = c.toBitVec <<< 8 := by
  rw [Int32.toBitVec_shiftLeft]
  have : ((8 : Int32) &&& 31).toBitVec.smod 32 = 8#32 := by decide
  rw [this]
  rfl
theorem rd16 {c : Int32} (h1 : ¬ c < 0) (h2 : ¬ (65535 : Int32) < c) : ((((((c >>> ((0 : Int32) &&& 31)).toInt8.toInt32).toInt8.toInt32 &&& (255 : Int32)) <<< ((0 : Int32) &&& 31)) ||| (((((c >>> ((8 : Int32) &&& 31)).toInt8.toInt32).toInt8.toInt32 &&& (255 : Int32)) <<< ((8 : Int32) &&& 31))))).toUInt32.toUInt16.toUInt32.toInt32 = c := by
  have hc := toNat_of (n := 65535) h1 h2 (by decide)
  have e : ((((c >>> ((0 : Int32) &&& 31)).toInt8.toInt32).toInt8.toInt32 &&& (255 : Int32)) <<< ((0 : Int32) &&& 31)) ||| (((((c >>> ((8 : Int32) &&& 31)).toInt8.toInt32).toInt8.toInt32 &&& (255 : Int32)) <<< ((8 : Int32) &&& 31))) = c := by
    apply Int32.toBitVec_inj.mp
    rw [Int32.toBitVec_or, sl0, sl8, i8, i8, sh0, sh8]
    exact bv16 _ hc
  rw [e]
  exact ch c hc

abbrev fF0 (Z : State) (h : Heap) (a : Addr) (v : Value) : Prop := Fld Z h a "java/util/Collections$UnmodifiableMap" "m" "Ljava/util/Map;" v
abbrev fF1 (Z : State) (h : Heap) (a : Addr) (v : Value) : Prop := Fld Z h a "java/lang/String" "value" "[B" v
abbrev fF2 (Z : State) (h : Heap) (a : Addr) (v : Value) : Prop := Fld Z h a "java/lang/String" "coder" "B" v
abbrev fF3 (Z : State) (h : Heap) (a : Addr) (v : Value) : Prop := Fld Z h a "java/lang/String" "hash" "I" v
abbrev fF4 (Z : State) (h : Heap) (a : Addr) (v : Value) : Prop := Fld Z h a "java/lang/String" "hashIsZero" "Z" v
abbrev fF5 (Z : State) (h : Heap) (a : Addr) (v : Value) : Prop := Fld Z h a "java/util/AbstractList" "modCount" "I" v
abbrev fF6 (Z : State) (h : Heap) (a : Addr) (v : Value) : Prop := Fld Z h a "java/util/ArrayList" "size" "I" v
abbrev fF7 (Z : State) (h : Heap) (a : Addr) (v : Value) : Prop := Fld Z h a "java/util/ArrayList" "elementData" "[Ljava/lang/Object;" v
abbrev fF8 (Z : State) (h : Heap) (a : Addr) (v : Value) : Prop := Fld Z h a "com/example/brickwork/brickwork/wire/Protocol$Listed" "name" "Ljava/lang/String;" v
abbrev fF9 (Z : State) (h : Heap) (a : Addr) (v : Value) : Prop := Fld Z h a "com/example/brickwork/brickwork/wire/Protocol$Listed" "standing" "Lcom/example/brickwork/brickwork/wire/Protocol$Standing;" v
abbrev fF10 (Z : State) (h : Heap) (a : Addr) (v : Value) : Prop := Fld Z h a "com/example/brickwork/brickwork/wire/Protocol$Listed" "layout" "[B" v
abbrev fF11 (Z : State) (h : Heap) (a : Addr) (v : Value) : Prop := Fld Z h a "com/example/brickwork/brickwork/wire/Protocol$Tables" "knowledge" "Lcom/example/brickwork/brickwork/wire/Protocol$Knowledge;" v
abbrev fF12 (Z : State) (h : Heap) (a : Addr) (v : Value) : Prop := Fld Z h a "com/example/brickwork/brickwork/wire/Protocol$Tables" "directory" "J" v
abbrev fF13 (Z : State) (h : Heap) (a : Addr) (v : Value) : Prop := Fld Z h a "com/example/brickwork/brickwork/wire/Protocol$Tables" "tables" "Ljava/util/List;" v
abbrev fF14 (Z : State) (h : Heap) (a : Addr) (v : Value) : Prop := Fld Z h a "com/example/brickwork/brickwork/wire/Protocol$Tables" "destroyed" "Ljava/util/List;" v
abbrev fF15 (Z : State) (h : Heap) (a : Addr) (v : Value) : Prop := Fld Z h a "java/util/HashMap" "table" "[Ljava/util/HashMap$Node;" v
abbrev fF16 (Z : State) (h : Heap) (a : Addr) (v : Value) : Prop := Fld Z h a "java/util/HashMap" "threshold" "I" v
abbrev fF17 (Z : State) (h : Heap) (a : Addr) (v : Value) : Prop := Fld Z h a "java/util/HashMap" "size" "I" v
abbrev fF18 (Z : State) (h : Heap) (a : Addr) (v : Value) : Prop := Fld Z h a "java/util/HashMap" "modCount" "I" v
abbrev fF19 (Z : State) (h : Heap) (a : Addr) (v : Value) : Prop := Fld Z h a "java/util/HashMap" "loadFactor" "F" v
abbrev fF20 (Z : State) (h : Heap) (a : Addr) (v : Value) : Prop := Fld Z h a "java/util/HashMap$Node" "hash" "I" v
abbrev fF21 (Z : State) (h : Heap) (a : Addr) (v : Value) : Prop := Fld Z h a "java/util/HashMap$Node" "key" "Ljava/lang/Object;" v
abbrev fF22 (Z : State) (h : Heap) (a : Addr) (v : Value) : Prop := Fld Z h a "java/util/HashMap$Node" "value" "Ljava/lang/Object;" v
abbrev fF23 (Z : State) (h : Heap) (a : Addr) (v : Value) : Prop := Fld Z h a "java/util/HashMap$Node" "next" "Ljava/util/HashMap$Node;" v
abbrev fF24 (Z : State) (h : Heap) (a : Addr) (v : Value) : Prop := Fld Z h a "com/example/brickwork/brickwork/Catalogue" "answers" "Ljava/util/Map;" v
abbrev fF25 (Z : State) (h : Heap) (a : Addr) (v : Value) : Prop := Fld Z h a "java/util/ArrayList$Itr" "this$0" "Ljava/util/ArrayList;" v
abbrev fF26 (Z : State) (h : Heap) (a : Addr) (v : Value) : Prop := Fld Z h a "java/util/ArrayList$Itr" "cursor" "I" v
abbrev fF27 (Z : State) (h : Heap) (a : Addr) (v : Value) : Prop := Fld Z h a "java/util/ArrayList$Itr" "expectedModCount" "I" v
abbrev fF28 (Z : State) (h : Heap) (a : Addr) (v : Value) : Prop := Fld Z h a "java/util/ArrayList$Itr" "lastRet" "I" v
abbrev fE0 (Z : State) (h : Heap) (a : Addr) : Prop := Exa Z h a "java/util/Collections$UnmodifiableMap"
abbrev fE1 (Z : State) (h : Heap) (a : Addr) : Prop := Exa Z h a "java/lang/String"
abbrev fE2 (Z : State) (h : Heap) (a : Addr) : Prop := Exa Z h a "java/util/ArrayList"
abbrev fE3 (Z : State) (h : Heap) (a : Addr) : Prop := Exa Z h a "com/example/brickwork/brickwork/wire/Protocol$Listed"
abbrev fE4 (Z : State) (h : Heap) (a : Addr) : Prop := Exa Z h a "com/example/brickwork/brickwork/wire/Protocol$Tables"
abbrev fE5 (Z : State) (h : Heap) (a : Addr) : Prop := Exa Z h a "java/util/HashMap"
abbrev fE6 (Z : State) (h : Heap) (a : Addr) : Prop := Exa Z h a "java/util/HashMap$Node"
abbrev fE7 (Z : State) (h : Heap) (a : Addr) : Prop := Exa Z h a "com/example/brickwork/brickwork/Catalogue"
abbrev fE8 (Z : State) (h : Heap) (a : Addr) : Prop := Exa Z h a "java/util/ArrayList$Itr"
abbrev mN0 : MethodName := ⟨"java/lang/StringUTF16", "compress", "([CI[BII)I"⟩
abbrev mN1 : MethodName := ⟨"java/lang/StringUTF16", "compress", "([CII)[B"⟩
abbrev mN2 : MethodName := ⟨"java/lang/StringUTF16", "coderFromArrayLen", "([BI)B"⟩
abbrev mN3 : MethodName := ⟨"java/lang/Object", "<init>", "()V"⟩
abbrev mN4 : MethodName := ⟨"java/lang/String", "<init>", "([CIILjava/lang/Void;)V"⟩
abbrev mN5 : MethodName := ⟨"java/lang/String", "<init>", "([C)V"⟩
abbrev mN6 : MethodName := ⟨"java/lang/StringLatin1", "canEncode", "(C)Z"⟩
abbrev mN7 : MethodName := ⟨"java/lang/StringLatin1", "toBytes", "(C)[B"⟩
abbrev mN8 : MethodName := ⟨"java/lang/String", "<init>", "([BB)V"⟩
abbrev mN9 : MethodName := ⟨"java/lang/String", "valueOf", "(C)Ljava/lang/String;"⟩
abbrev mN10 : MethodName := ⟨"java/util/AbstractCollection", "<init>", "()V"⟩
abbrev mN11 : MethodName := ⟨"java/util/AbstractList", "<init>", "()V"⟩
abbrev mN12 : MethodName := ⟨"java/util/ArrayList", "<init>", "()V"⟩
abbrev mN13 : MethodName := ⟨"java/lang/Math", "max", "(II)I"⟩
abbrev mN14 : MethodName := ⟨"java/util/ArrayList", "grow", "(I)[Ljava/lang/Object;"⟩
abbrev mN15 : MethodName := ⟨"java/util/ArrayList", "grow", "()[Ljava/lang/Object;"⟩
abbrev mN16 : MethodName := ⟨"java/util/ArrayList", "add", "(Ljava/lang/Object;[Ljava/lang/Object;I)V"⟩
abbrev mN17 : MethodName := ⟨"java/util/ArrayList", "add", "(Ljava/lang/Object;)Z"⟩
abbrev mN18 : MethodName := ⟨"java/lang/Record", "<init>", "()V"⟩
abbrev mN19 : MethodName := ⟨"com/example/brickwork/brickwork/wire/Protocol$Listed", "<init>", "(Ljava/lang/String;Lcom/example/brickwork/brickwork/wire/Protocol$Standing;[B)V"⟩
abbrev mN20 : MethodName := ⟨"com/example/brickwork/brickwork/wire/Protocol$Tables", "<init>", "(Lcom/example/brickwork/brickwork/wire/Protocol$Knowledge;JLjava/util/List;Ljava/util/List;)V"⟩
abbrev mN21 : MethodName := ⟨"java/util/AbstractMap", "<init>", "()V"⟩
abbrev mN22 : MethodName := ⟨"java/util/HashMap", "<init>", "()V"⟩
abbrev mN23 : MethodName := ⟨"java/lang/StringLatin1", "hashCode", "([B)I"⟩
abbrev mN24 : MethodName := ⟨"java/lang/String", "isLatin1", "()Z"⟩
abbrev mN25 : MethodName := ⟨"java/lang/String", "hashCode", "()I"⟩
abbrev mN26 : MethodName := ⟨"java/lang/Object", "hashCode", "()I"⟩
abbrev mN27 : MethodName := ⟨"java/util/Map", "getClass", "()Ljava/lang/Class;"⟩
abbrev mN28 : MethodName := ⟨"java/lang/Object", "getClass", "()Ljava/lang/Class;"⟩
abbrev mN29 : MethodName := ⟨"java/util/HashMap", "hash", "(Ljava/lang/Object;)I"⟩
abbrev mN30 : MethodName := ⟨"java/util/HashMap$Node", "<init>", "(ILjava/lang/Object;Ljava/lang/Object;Ljava/util/HashMap$Node;)V"⟩
abbrev mN31 : MethodName := ⟨"java/util/HashMap", "newNode", "(ILjava/lang/Object;Ljava/lang/Object;Ljava/util/HashMap$Node;)Ljava/util/HashMap$Node;"⟩
abbrev mN32 : MethodName := ⟨"java/util/HashMap", "resize", "()[Ljava/util/HashMap$Node;"⟩
abbrev mN33 : MethodName := ⟨"java/util/HashMap", "afterNodeInsertion", "(Z)V"⟩
abbrev mN34 : MethodName := ⟨"java/util/HashMap", "putVal", "(ILjava/lang/Object;Ljava/lang/Object;ZZ)Ljava/lang/Object;"⟩
abbrev mN35 : MethodName := ⟨"java/util/HashMap", "put", "(Ljava/lang/Object;Ljava/lang/Object;)Ljava/lang/Object;"⟩
abbrev mN36 : MethodName := ⟨"java/util/Collections$UnmodifiableMap", "<init>", "(Ljava/util/Map;)V"⟩
abbrev mN37 : MethodName := ⟨"java/util/Collections", "unmodifiableMap", "(Ljava/util/Map;)Ljava/util/Map;"⟩
abbrev mN38 : MethodName := ⟨"com/example/brickwork/brickwork/Catalogue", "<init>", "(Ljava/util/Map;)V"⟩
abbrev mN39 : MethodName := ⟨"java/lang/StringLatin1", "equals", "([B[B)Z"⟩
abbrev mN40 : MethodName := ⟨"java/lang/String", "equals", "(Ljava/lang/Object;)Z"⟩
abbrev mN41 : MethodName := ⟨"java/lang/Object", "equals", "(Ljava/lang/Object;)Z"⟩
abbrev mN42 : MethodName := ⟨"java/util/HashMap", "getNode", "(Ljava/lang/Object;)Ljava/util/HashMap$Node;"⟩
abbrev mN43 : MethodName := ⟨"java/util/HashMap", "get", "(Ljava/lang/Object;)Ljava/lang/Object;"⟩
abbrev mN44 : MethodName := ⟨"java/util/Map", "get", "(Ljava/lang/Object;)Ljava/lang/Object;"⟩
abbrev mN45 : MethodName := ⟨"java/util/Collections$UnmodifiableMap", "get", "(Ljava/lang/Object;)Ljava/lang/Object;"⟩
abbrev mN46 : MethodName := ⟨"com/example/brickwork/brickwork/wire/Protocol$Tables", "knowledge", "()Lcom/example/brickwork/brickwork/wire/Protocol$Knowledge;"⟩
abbrev mN47 : MethodName := ⟨"com/example/brickwork/brickwork/wire/Protocol$Tables", "directory", "()J"⟩
abbrev mN48 : MethodName := ⟨"com/example/brickwork/brickwork/wire/Protocol$Tables", "tables", "()Ljava/util/List;"⟩
abbrev mN49 : MethodName := ⟨"com/example/brickwork/brickwork/wire/Protocol$Listed", "name", "()Ljava/lang/String;"⟩
abbrev mN50 : MethodName := ⟨"com/example/brickwork/brickwork/Catalogue", "untold", "(Lcom/example/brickwork/brickwork/wire/Protocol$Tables;)Z"⟩
abbrev mN51 : MethodName := ⟨"com/example/brickwork/brickwork/Catalogue", "untold", "(Ljava/lang/String;)Z"⟩
abbrev mN52 : MethodName := ⟨"com/example/brickwork/brickwork/Catalogue", "directory", "(Ljava/lang/String;)J"⟩
abbrev mN53 : MethodName := ⟨"com/example/brickwork/brickwork/Catalogue", "listed", "(Ljava/lang/String;)Ljava/util/List;"⟩
abbrev mN54 : MethodName := ⟨"com/example/brickwork/brickwork/Catalogue", "speaksFor", "(JJZ)Z"⟩
abbrev mN55 : MethodName := ⟨"java/util/ArrayList$Itr", "<init>", "(Ljava/util/ArrayList;)V"⟩
abbrev mN56 : MethodName := ⟨"java/util/ArrayList", "iterator", "()Ljava/util/Iterator;"⟩
abbrev mN57 : MethodName := ⟨"java/util/ArrayList$Itr", "hasNext", "()Z"⟩
abbrev mN58 : MethodName := ⟨"java/util/ArrayList$Itr", "checkForComodification", "()V"⟩
abbrev mN59 : MethodName := ⟨"java/util/ArrayList$Itr", "next", "()Ljava/lang/Object;"⟩
abbrev mN60 : MethodName := ⟨"java/util/List", "iterator", "()Ljava/util/Iterator;"⟩
abbrev mN61 : MethodName := ⟨"java/util/Iterator", "hasNext", "()Z"⟩
abbrev mN62 : MethodName := ⟨"java/util/Iterator", "next", "()Ljava/lang/Object;"⟩
abbrev mN63 : MethodName := ⟨"com/example/brickwork/brickwork/Catalogue", "listing", "(Ljava/lang/String;Ljava/lang/String;)Lcom/example/brickwork/brickwork/wire/Protocol$Listed;"⟩
abbrev mN64 : MethodName := ⟨"com/example/brickwork/brickwork/Catalogue", "speaksFor", "(Ljava/lang/String;Ljava/lang/String;J)Z"⟩
abbrev vi (x : Int32) : Slot := .val (.int x)
abbrev vj (x : Int64) : Slot := .val (.long x)
abbrev vr (a : Addr) : Slot := .val (.ref a)
abbrev kC0 : ByteArray := jdk_52_method_21_code
abbrev kC1 : ByteArray := jdk_52_method_16_code
abbrev kC2 : ByteArray := jdk_52_method_15_code
abbrev kC3 : ByteArray := jdk_42_method_149_code
abbrev kC4 : ByteArray := object_method_1_code
abbrev kC5 : ByteArray := jdk_42_method_3_code
abbrev kC6 : ByteArray := jdk_43_method_3_code
abbrev kC7 : ByteArray := jdk_43_method_46_code
abbrev kC8 : ByteArray := jdk_42_method_151_code
abbrev kC9 : ByteArray := jdk_42_method_139_code
abbrev kC10 : ByteArray := jdk_22_method_1_code
abbrev kC11 : ByteArray := jdk_39_method_1_code
abbrev kC12 : ByteArray := jdk_38_method_2_code
abbrev kC13 : ByteArray := jdk_29_method_65_code
abbrev kC14 : ByteArray := jdk_38_method_6_code
abbrev kC15 : ByteArray := jdk_38_method_7_code
abbrev kC16 : ByteArray := jdk_38_method_24_code
abbrev kC17 : ByteArray := jdk_38_method_25_code
abbrev kC18 : ByteArray := jdk_30_method_1_code
abbrev kC19 : ByteArray := prog_162_method_1_code
abbrev kC20 : ByteArray := prog_168_method_2_code
abbrev kC21 : ByteArray := jdk_71_method_1_code
abbrev kC22 : ByteArray := jdk_69_method_7_code
abbrev kC23 : ByteArray := jdk_43_method_21_code
abbrev kC24 : ByteArray := jdk_42_method_154_code
abbrev kC25 : ByteArray := jdk_42_method_78_code
abbrev kC26 : ByteArray := jdk_69_method_1_code
abbrev kC27 : ByteArray := jdk_70_method_1_code
abbrev kC28 : ByteArray := jdk_69_method_46_code
abbrev kC29 : ByteArray := jdk_69_method_17_code
abbrev kC30 : ByteArray := jdk_69_method_52_code
abbrev kC31 : ByteArray := jdk_69_method_16_code
abbrev kC32 : ByteArray := jdk_69_method_15_code
abbrev kC33 : ByteArray := jdk_2500_method_1_code
abbrev kC34 : ByteArray := jdk_79_method_36_code
abbrev kC35 : ByteArray := prog_19_method_1_code
abbrev kC36 : ByteArray := jdk_43_method_13_code
abbrev kC37 : ByteArray := jdk_42_method_66_code
abbrev kC38 : ByteArray := jdk_69_method_13_code
abbrev kC39 : ByteArray := jdk_69_method_12_code
abbrev kC40 : ByteArray := jdk_2500_method_6_code
abbrev kC41 : ByteArray := prog_168_method_7_code
abbrev kC42 : ByteArray := prog_168_method_8_code
abbrev kC43 : ByteArray := prog_168_method_9_code
abbrev kC44 : ByteArray := prog_162_method_5_code
abbrev kC45 : ByteArray := prog_19_method_23_code
abbrev kC46 : ByteArray := prog_19_method_12_code
abbrev kC47 : ByteArray := prog_19_method_13_code
abbrev kC48 : ByteArray := prog_19_method_16_code
abbrev kC49 : ByteArray := prog_19_method_15_code
abbrev kC50 : ByteArray := jdk_49_method_1_code
abbrev kC51 : ByteArray := jdk_38_method_55_code
abbrev kC52 : ByteArray := jdk_49_method_2_code
abbrev kC53 : ByteArray := jdk_49_method_6_code
abbrev kC54 : ByteArray := jdk_49_method_3_code
abbrev kC55 : ByteArray := prog_19_method_17_code
abbrev kC56 : ByteArray := prog_19_method_14_code
abbrev own_H (Z : State) (a0 : Array Value) : Prop := ∀ d ∈ tables_1, d.before a0 Z = true
abbrev oW (Z : State) (a0 : Array Value) (d : Jvm.Cond) : Prop := d.before a0 Z = true
theorem mT (i : Nat) {d : Jvm.Cond} (h : tables_1[i]? = some d) : d ∈ tables_1 := List.mem_of_getElem? h
theorem wd_19 {Z a0} (hw : own_H Z a0) : oW Z a0 (.arrayClass .byte) := hw _ (mT 19 rfl)
theorem wd_20 {Z a0} (hw : own_H Z a0) : oW Z a0 (.methodLink "java/lang/StringUTF16" 115 mN0) := hw _ (mT 20 rfl)
theorem wd_22 {Z a0} (hw : own_H Z a0) : oW Z a0 (.code mN0 kC0 7 (Option.some .int)) := hw _ (mT 22 rfl)
theorem wd_17 {Z a0} (hw : own_H Z a0) : oW Z a0 (.initialized "java/lang/StringUTF16") := hw _ (mT 17 rfl)
theorem wd_21 {Z a0} (hw : own_H Z a0) : oW Z a0 (.static mN0) := hw _ (mT 21 rfl)
theorem wd_11 {Z a0} (hw : own_H Z a0) : oW Z a0 (.methodLink "java/lang/String" 1 mN3) := hw _ (mT 11 rfl)
theorem wd_12 {Z a0} (hw : own_H Z a0) : oW Z a0 (.instanceMethod mN3) := hw _ (mT 12 rfl)
theorem wd_13 {Z a0} (hw : own_H Z a0) : oW Z a0 (.code mN3 kC4 1 (Option.none : Option Jvm.ClassFile.FieldType)) := hw _ (mT 13 rfl)
theorem wd_14 {Z a0} (hw : own_H Z a0) : oW Z a0 (.fieldLink "java/lang/String" 38 "java/lang/String" "COMPACT_STRINGS" "Z") := hw _ (mT 14 rfl)
theorem wd_15 {Z a0} (hw : own_H Z a0) : oW Z a0 (.methodLink "java/lang/String" 177 mN1) := hw _ (mT 15 rfl)
theorem wd_18 {Z a0} (hw : own_H Z a0) : oW Z a0 (.code mN1 kC1 6 (Option.some (.array .byte))) := hw _ (mT 18 rfl)
theorem wd_16 {Z a0} (hw : own_H Z a0) : oW Z a0 (.static mN1) := hw _ (mT 16 rfl)
theorem wd_23 {Z a0} (hw : own_H Z a0) : oW Z a0 (.methodLink "java/lang/String" 47 mN2) := hw _ (mT 23 rfl)
theorem wd_25 {Z a0} (hw : own_H Z a0) : oW Z a0 (.code mN2 kC2 2 (Option.some .byte)) := hw _ (mT 25 rfl)
theorem wd_24 {Z a0} (hw : own_H Z a0) : oW Z a0 (.static mN2) := hw _ (mT 24 rfl)
theorem wd_26 {Z a0} (hw : own_H Z a0) : oW Z a0 (.fieldLink "java/lang/String" 15 "java/lang/String" "coder" "B") := hw _ (mT 26 rfl)
theorem wd_27 {Z a0} (hw : own_H Z a0) : oW Z a0 (.laysFinal "java/lang/String" "java/lang/String" "coder" "B") := hw _ (mT 27 rfl)
theorem wd_2 {Z a0} (hw : own_H Z a0) : oW Z a0 (.instantiable "java/lang/String" 4) := hw _ (mT 2 rfl)
theorem wd_28 {Z a0} (hw : own_H Z a0) : oW Z a0 (.fieldLink "java/lang/String" 9 "java/lang/String" "value" "[B") := hw _ (mT 28 rfl)
theorem wd_29 {Z a0} (hw : own_H Z a0) : oW Z a0 (.laysFinal "java/lang/String" "java/lang/String" "value" "[B") := hw _ (mT 29 rfl)
theorem wd_7 {Z a0} (hw : own_H Z a0) : oW Z a0 (.methodLink "java/lang/String" 27 mN4) := hw _ (mT 7 rfl)
theorem wd_10 {Z a0} (hw : own_H Z a0) : oW Z a0 (.code mN4 kC3 6 (Option.none : Option Jvm.ClassFile.FieldType)) := hw _ (mT 10 rfl)
theorem wd_3 {Z a0} (hw : own_H Z a0) : oW Z a0 (.initialized "java/lang/String") := hw _ (mT 3 rfl)
theorem wd_8 {Z a0} (hw : own_H Z a0) : oW Z a0 (.instanceMethod mN4) := hw _ (mT 8 rfl)
theorem wd_166 {Z a0} (hw : own_H Z a0) : oW Z a0 (.lays "java/lang/String" "java/lang/String" "hash" "I") := hw _ (mT 166 rfl)
theorem wd_168 {Z a0} (hw : own_H Z a0) : oW Z a0 (.lays "java/lang/String" "java/lang/String" "hashIsZero" "Z") := hw _ (mT 168 rfl)
theorem wd_33 {Z a0} (hw : own_H Z a0) : oW Z a0 (.methodLink "java/lang/String" 1015 mN6) := hw _ (mT 33 rfl)
theorem wd_36 {Z a0} (hw : own_H Z a0) : oW Z a0 (.code mN6 kC6 1 (Option.some .boolean)) := hw _ (mT 36 rfl)
theorem wd_35 {Z a0} (hw : own_H Z a0) : oW Z a0 (.initialized "java/lang/StringLatin1") := hw _ (mT 35 rfl)
theorem wd_34 {Z a0} (hw : own_H Z a0) : oW Z a0 (.static mN6) := hw _ (mT 34 rfl)
theorem wd_37 {Z a0} (hw : own_H Z a0) : oW Z a0 (.classLink "java/lang/String" 10 "java/lang/String") := hw _ (mT 37 rfl)
theorem wd_38 {Z a0} (hw : own_H Z a0) : oW Z a0 (.methodLink "java/lang/String" 1018 mN7) := hw _ (mT 38 rfl)
theorem wd_40 {Z a0} (hw : own_H Z a0) : oW Z a0 (.code mN7 kC7 1 (Option.some (.array .byte))) := hw _ (mT 40 rfl)
theorem wd_39 {Z a0} (hw : own_H Z a0) : oW Z a0 (.static mN7) := hw _ (mT 39 rfl)
theorem wd_41 {Z a0} (hw : own_H Z a0) : oW Z a0 (.methodLink "java/lang/String" 209 mN8) := hw _ (mT 41 rfl)
theorem wd_43 {Z a0} (hw : own_H Z a0) : oW Z a0 (.code mN8 kC8 3 (Option.none : Option Jvm.ClassFile.FieldType)) := hw _ (mT 43 rfl)
theorem wd_42 {Z a0} (hw : own_H Z a0) : oW Z a0 (.instanceMethod mN8) := hw _ (mT 42 rfl)
theorem wd_62 {Z a0} (hw : own_H Z a0) : oW Z a0 (.methodLink "java/util/AbstractCollection" 1 mN3) := hw _ (mT 62 rfl)
theorem wd_56 {Z a0} (hw : own_H Z a0) : oW Z a0 (.methodLink "java/util/AbstractList" 1 mN10) := hw _ (mT 56 rfl)
theorem wd_61 {Z a0} (hw : own_H Z a0) : oW Z a0 (.code mN10 kC10 1 (Option.none : Option Jvm.ClassFile.FieldType)) := hw _ (mT 61 rfl)
theorem wd_60 {Z a0} (hw : own_H Z a0) : oW Z a0 (.initialized "java/util/AbstractCollection") := hw _ (mT 60 rfl)
theorem wd_57 {Z a0} (hw : own_H Z a0) : oW Z a0 (.instanceMethod mN10) := hw _ (mT 57 rfl)
theorem wd_63 {Z a0} (hw : own_H Z a0) : oW Z a0 (.fieldLink "java/util/AbstractList" 7 "java/util/AbstractList" "modCount" "I") := hw _ (mT 63 rfl)
theorem wd_64 {Z a0} (hw : own_H Z a0) : oW Z a0 (.lays "java/util/ArrayList" "java/util/AbstractList" "modCount" "I") := hw _ (mT 64 rfl)
theorem wd_45 {Z a0} (hw : own_H Z a0) : oW Z a0 (.instantiable "java/util/ArrayList" 3) := hw _ (mT 45 rfl)
theorem wd_94 {Z a0} (hw : own_H Z a0) : oW Z a0 (.lays "java/util/ArrayList" "java/util/ArrayList" "size" "I") := hw _ (mT 94 rfl)
theorem wd_67 {Z a0} (hw : own_H Z a0) : oW Z a0 (.lays "java/util/ArrayList" "java/util/ArrayList" "elementData" "[Ljava/lang/Object;") := hw _ (mT 67 rfl)
theorem wd_50 {Z a0} (hw : own_H Z a0) : oW Z a0 (.methodLink "java/util/ArrayList" 1 mN11) := hw _ (mT 50 rfl)
theorem wd_55 {Z a0} (hw : own_H Z a0) : oW Z a0 (.code mN11 kC11 1 (Option.none : Option Jvm.ClassFile.FieldType)) := hw _ (mT 55 rfl)
theorem wd_54 {Z a0} (hw : own_H Z a0) : oW Z a0 (.initialized "java/util/AbstractList") := hw _ (mT 54 rfl)
theorem wd_51 {Z a0} (hw : own_H Z a0) : oW Z a0 (.instanceMethod mN11) := hw _ (mT 51 rfl)
theorem wd_65 {Z a0} (hw : own_H Z a0) : oW Z a0 (.fieldLink "java/util/ArrayList" 39 "java/util/ArrayList" "DEFAULTCAPACITY_EMPTY_ELEMENTDATA" "[Ljava/lang/Object;") := hw _ (mT 65 rfl)
theorem wd_66 {Z a0} (hw : own_H Z a0) : oW Z a0 (.fieldLink "java/util/ArrayList" 9 "java/util/ArrayList" "elementData" "[Ljava/lang/Object;") := hw _ (mT 66 rfl)
theorem wd_110 {Z a0} (hw : own_H Z a0) : oW Z a0 (.methodLink "java/util/ArrayList" 79 mN13) := hw _ (mT 110 rfl)
theorem wd_113 {Z a0} (hw : own_H Z a0) : oW Z a0 (.code mN13 kC13 2 (Option.some .int)) := hw _ (mT 113 rfl)
theorem wd_112 {Z a0} (hw : own_H Z a0) : oW Z a0 (.initialized "java/lang/Math") := hw _ (mT 112 rfl)
theorem wd_111 {Z a0} (hw : own_H Z a0) : oW Z a0 (.static mN13) := hw _ (mT 111 rfl)
theorem wd_114 {Z a0} (hw : own_H Z a0) : oW Z a0 (.classLink "java/util/ArrayList" 7 "java/lang/Object") := hw _ (mT 114 rfl)
theorem wd_115 {Z a0} (hw : own_H Z a0) : oW Z a0 (.arrayOver (.object "java/lang/Object")) := hw _ (mT 115 rfl)
theorem wd_93 {Z a0} (hw : own_H Z a0) : oW Z a0 (.fieldLink "java/util/ArrayList" 48 "java/util/ArrayList" "size" "I") := hw _ (mT 93 rfl)
theorem wd_105 {Z a0} (hw : own_H Z a0) : oW Z a0 (.methodLink "java/util/ArrayList" 69 mN14) := hw _ (mT 105 rfl)
theorem wd_109 {Z a0} (hw : own_H Z a0) : oW Z a0 (.code mN14 kC14 4 (Option.some (.array (.object "java/lang/Object")))) := hw _ (mT 109 rfl)
theorem wd_46 {Z a0} (hw : own_H Z a0) : oW Z a0 (.initialized "java/util/ArrayList") := hw _ (mT 46 rfl)
theorem wd_106 {Z a0} (hw : own_H Z a0) : oW Z a0 (.instanceMethod mN14) := hw _ (mT 106 rfl)
theorem wd_108 {Z a0} (hw : own_H Z a0) : oW Z a0 (.selects "java/util/ArrayList" mN14 mN14) := hw _ (mT 108 rfl)
theorem wd_107 {Z a0} (hw : own_H Z a0) : oW Z a0 (.privateMethod mN14) := hw _ (mT 107 rfl)
theorem wd_100 {Z a0} (hw : own_H Z a0) : oW Z a0 (.methodLink "java/util/ArrayList" 129 mN15) := hw _ (mT 100 rfl)
theorem wd_104 {Z a0} (hw : own_H Z a0) : oW Z a0 (.code mN15 kC15 1 (Option.some (.array (.object "java/lang/Object")))) := hw _ (mT 104 rfl)
theorem wd_101 {Z a0} (hw : own_H Z a0) : oW Z a0 (.instanceMethod mN15) := hw _ (mT 101 rfl)
theorem wd_103 {Z a0} (hw : own_H Z a0) : oW Z a0 (.selects "java/util/ArrayList" mN15 mN15) := hw _ (mT 103 rfl)
theorem wd_102 {Z a0} (hw : own_H Z a0) : oW Z a0 (.privateMethod mN15) := hw _ (mT 102 rfl)
theorem wd_116 {Z a0} (hw : own_H Z a0) : oW Z a0 (.castable "com/example/brickwork/brickwork/wire/Protocol$Listed" "java/lang/Object") := hw _ (mT 116 rfl)
theorem wd_91 {Z a0} (hw : own_H Z a0) : oW Z a0 (.fieldLink "java/util/ArrayList" 63 "java/util/ArrayList" "modCount" "I") := hw _ (mT 91 rfl)
theorem wd_92 {Z a0} (hw : own_H Z a0) : oW Z a0 (.sameField "java/util/ArrayList" "java/util/AbstractList" "modCount" "I") := hw _ (mT 92 rfl)
theorem wd_95 {Z a0} (hw : own_H Z a0) : oW Z a0 (.methodLink "java/util/ArrayList" 131 mN16) := hw _ (mT 95 rfl)
theorem wd_99 {Z a0} (hw : own_H Z a0) : oW Z a0 (.code mN16 kC16 4 (Option.none : Option Jvm.ClassFile.FieldType)) := hw _ (mT 99 rfl)
theorem wd_96 {Z a0} (hw : own_H Z a0) : oW Z a0 (.instanceMethod mN16) := hw _ (mT 96 rfl)
theorem wd_98 {Z a0} (hw : own_H Z a0) : oW Z a0 (.selects "java/util/ArrayList" mN16 mN16) := hw _ (mT 98 rfl)
theorem wd_97 {Z a0} (hw : own_H Z a0) : oW Z a0 (.privateMethod mN16) := hw _ (mT 97 rfl)
theorem wd_79 {Z a0} (hw : own_H Z a0) : oW Z a0 (.methodLink "java/lang/Record" 1 mN3) := hw _ (mT 79 rfl)
theorem wd_74 {Z a0} (hw : own_H Z a0) : oW Z a0 (.methodLink "com/example/brickwork/brickwork/wire/Protocol$Listed" 1 mN18) := hw _ (mT 74 rfl)
theorem wd_78 {Z a0} (hw : own_H Z a0) : oW Z a0 (.code mN18 kC18 1 (Option.none : Option Jvm.ClassFile.FieldType)) := hw _ (mT 78 rfl)
theorem wd_77 {Z a0} (hw : own_H Z a0) : oW Z a0 (.initialized "java/lang/Record") := hw _ (mT 77 rfl)
theorem wd_75 {Z a0} (hw : own_H Z a0) : oW Z a0 (.instanceMethod mN18) := hw _ (mT 75 rfl)
theorem wd_80 {Z a0} (hw : own_H Z a0) : oW Z a0 (.fieldLink "com/example/brickwork/brickwork/wire/Protocol$Listed" 7 "com/example/brickwork/brickwork/wire/Protocol$Listed" "name" "Ljava/lang/String;") := hw _ (mT 80 rfl)
theorem wd_81 {Z a0} (hw : own_H Z a0) : oW Z a0 (.laysFinal "com/example/brickwork/brickwork/wire/Protocol$Listed" "com/example/brickwork/brickwork/wire/Protocol$Listed" "name" "Ljava/lang/String;") := hw _ (mT 81 rfl)
theorem wd_69 {Z a0} (hw : own_H Z a0) : oW Z a0 (.instantiable "com/example/brickwork/brickwork/wire/Protocol$Listed" 3) := hw _ (mT 69 rfl)
theorem wd_82 {Z a0} (hw : own_H Z a0) : oW Z a0 (.fieldLink "com/example/brickwork/brickwork/wire/Protocol$Listed" 13 "com/example/brickwork/brickwork/wire/Protocol$Listed" "standing" "Lcom/example/brickwork/brickwork/wire/Protocol$Standing;") := hw _ (mT 82 rfl)
theorem wd_83 {Z a0} (hw : own_H Z a0) : oW Z a0 (.laysFinal "com/example/brickwork/brickwork/wire/Protocol$Listed" "com/example/brickwork/brickwork/wire/Protocol$Listed" "standing" "Lcom/example/brickwork/brickwork/wire/Protocol$Standing;") := hw _ (mT 83 rfl)
theorem wd_84 {Z a0} (hw : own_H Z a0) : oW Z a0 (.fieldLink "com/example/brickwork/brickwork/wire/Protocol$Listed" 17 "com/example/brickwork/brickwork/wire/Protocol$Listed" "layout" "[B") := hw _ (mT 84 rfl)
theorem wd_85 {Z a0} (hw : own_H Z a0) : oW Z a0 (.laysFinal "com/example/brickwork/brickwork/wire/Protocol$Listed" "com/example/brickwork/brickwork/wire/Protocol$Listed" "layout" "[B") := hw _ (mT 85 rfl)
theorem wd_126 {Z a0} (hw : own_H Z a0) : oW Z a0 (.methodLink "com/example/brickwork/brickwork/wire/Protocol$Tables" 1 mN18) := hw _ (mT 126 rfl)
theorem wd_127 {Z a0} (hw : own_H Z a0) : oW Z a0 (.fieldLink "com/example/brickwork/brickwork/wire/Protocol$Tables" 7 "com/example/brickwork/brickwork/wire/Protocol$Tables" "knowledge" "Lcom/example/brickwork/brickwork/wire/Protocol$Knowledge;") := hw _ (mT 127 rfl)
theorem wd_128 {Z a0} (hw : own_H Z a0) : oW Z a0 (.laysFinal "com/example/brickwork/brickwork/wire/Protocol$Tables" "com/example/brickwork/brickwork/wire/Protocol$Tables" "knowledge" "Lcom/example/brickwork/brickwork/wire/Protocol$Knowledge;") := hw _ (mT 128 rfl)
theorem wd_121 {Z a0} (hw : own_H Z a0) : oW Z a0 (.instantiable "com/example/brickwork/brickwork/wire/Protocol$Tables" 4) := hw _ (mT 121 rfl)
theorem wd_129 {Z a0} (hw : own_H Z a0) : oW Z a0 (.fieldLink "com/example/brickwork/brickwork/wire/Protocol$Tables" 13 "com/example/brickwork/brickwork/wire/Protocol$Tables" "directory" "J") := hw _ (mT 129 rfl)
theorem wd_130 {Z a0} (hw : own_H Z a0) : oW Z a0 (.laysFinal "com/example/brickwork/brickwork/wire/Protocol$Tables" "com/example/brickwork/brickwork/wire/Protocol$Tables" "directory" "J") := hw _ (mT 130 rfl)
theorem wd_131 {Z a0} (hw : own_H Z a0) : oW Z a0 (.fieldLink "com/example/brickwork/brickwork/wire/Protocol$Tables" 17 "com/example/brickwork/brickwork/wire/Protocol$Tables" "tables" "Ljava/util/List;") := hw _ (mT 131 rfl)
theorem wd_132 {Z a0} (hw : own_H Z a0) : oW Z a0 (.laysFinal "com/example/brickwork/brickwork/wire/Protocol$Tables" "com/example/brickwork/brickwork/wire/Protocol$Tables" "tables" "Ljava/util/List;") := hw _ (mT 132 rfl)
theorem wd_133 {Z a0} (hw : own_H Z a0) : oW Z a0 (.fieldLink "com/example/brickwork/brickwork/wire/Protocol$Tables" 21 "com/example/brickwork/brickwork/wire/Protocol$Tables" "destroyed" "Ljava/util/List;") := hw _ (mT 133 rfl)
theorem wd_134 {Z a0} (hw : own_H Z a0) : oW Z a0 (.laysFinal "com/example/brickwork/brickwork/wire/Protocol$Tables" "com/example/brickwork/brickwork/wire/Protocol$Tables" "destroyed" "Ljava/util/List;") := hw _ (mT 134 rfl)
theorem wd_147 {Z a0} (hw : own_H Z a0) : oW Z a0 (.methodLink "java/util/AbstractMap" 1 mN3) := hw _ (mT 147 rfl)
theorem wd_141 {Z a0} (hw : own_H Z a0) : oW Z a0 (.methodLink "java/util/HashMap" 43 mN21) := hw _ (mT 141 rfl)
theorem wd_146 {Z a0} (hw : own_H Z a0) : oW Z a0 (.code mN21 kC21 1 (Option.none : Option Jvm.ClassFile.FieldType)) := hw _ (mT 146 rfl)
theorem wd_145 {Z a0} (hw : own_H Z a0) : oW Z a0 (.initialized "java/util/AbstractMap") := hw _ (mT 145 rfl)
theorem wd_142 {Z a0} (hw : own_H Z a0) : oW Z a0 (.instanceMethod mN21) := hw _ (mT 142 rfl)
theorem wd_148 {Z a0} (hw : own_H Z a0) : oW Z a0 (.constantFloat "java/util/HashMap" 92 (1061158912 : UInt32)) := hw _ (mT 148 rfl)
theorem wd_149 {Z a0} (hw : own_H Z a0) : oW Z a0 (.fieldLink "java/util/HashMap" 81 "java/util/HashMap" "loadFactor" "F") := hw _ (mT 149 rfl)
theorem wd_150 {Z a0} (hw : own_H Z a0) : oW Z a0 (.laysFinal "java/util/HashMap" "java/util/HashMap" "loadFactor" "F") := hw _ (mT 150 rfl)
theorem wd_136 {Z a0} (hw : own_H Z a0) : oW Z a0 (.instantiable "java/util/HashMap" 8) := hw _ (mT 136 rfl)
theorem wd_183 {Z a0} (hw : own_H Z a0) : oW Z a0 (.lays "java/util/HashMap" "java/util/HashMap" "table" "[Ljava/util/HashMap$Node;") := hw _ (mT 183 rfl)
theorem wd_190 {Z a0} (hw : own_H Z a0) : oW Z a0 (.lays "java/util/HashMap" "java/util/HashMap" "threshold" "I") := hw _ (mT 190 rfl)
theorem wd_216 {Z a0} (hw : own_H Z a0) : oW Z a0 (.lays "java/util/HashMap" "java/util/HashMap" "size" "I") := hw _ (mT 216 rfl)
theorem wd_214 {Z a0} (hw : own_H Z a0) : oW Z a0 (.lays "java/util/HashMap" "java/util/HashMap" "modCount" "I") := hw _ (mT 214 rfl)
theorem wd_165 {Z a0} (hw : own_H Z a0) : oW Z a0 (.fieldLink "java/lang/String" 19 "java/lang/String" "hash" "I") := hw _ (mT 165 rfl)
theorem wd_167 {Z a0} (hw : own_H Z a0) : oW Z a0 (.fieldLink "java/lang/String" 23 "java/lang/String" "hashIsZero" "Z") := hw _ (mT 167 rfl)
theorem wd_169 {Z a0} (hw : own_H Z a0) : oW Z a0 (.methodLink "java/lang/String" 492 mN24) := hw _ (mT 169 rfl)
theorem wd_173 {Z a0} (hw : own_H Z a0) : oW Z a0 (.code mN24 kC24 1 (Option.some .boolean)) := hw _ (mT 173 rfl)
theorem wd_170 {Z a0} (hw : own_H Z a0) : oW Z a0 (.declares mN24) := hw _ (mT 170 rfl)
theorem wd_172 {Z a0} (hw : own_H Z a0) : oW Z a0 (.selects "java/lang/String" mN24 mN24) := hw _ (mT 172 rfl)
theorem wd_171 {Z a0} (hw : own_H Z a0) : oW Z a0 (.instanceMethod mN24) := hw _ (mT 171 rfl)
theorem wd_174 {Z a0} (hw : own_H Z a0) : oW Z a0 (.methodLink "java/lang/String" 628 mN23) := hw _ (mT 174 rfl)
theorem wd_176 {Z a0} (hw : own_H Z a0) : oW Z a0 (.code mN23 kC23 1 (Option.some .int)) := hw _ (mT 176 rfl)
theorem wd_175 {Z a0} (hw : own_H Z a0) : oW Z a0 (.static mN23) := hw _ (mT 175 rfl)
theorem wd_159 {Z a0} (hw : own_H Z a0) : oW Z a0 (.methodLink "java/util/HashMap" 1 mN26) := hw _ (mT 159 rfl)
theorem wd_164 {Z a0} (hw : own_H Z a0) : oW Z a0 (.code mN25 kC25 2 (Option.some .int)) := hw _ (mT 164 rfl)
theorem wd_160 {Z a0} (hw : own_H Z a0) : oW Z a0 (.declares mN26) := hw _ (mT 160 rfl)
theorem wd_236 {Z a0} (hw : own_H Z a0) : oW Z a0 (.selects "java/util/HashMap" mN27 mN28) := hw _ (mT 236 rfl)
theorem wd_162 {Z a0} (hw : own_H Z a0) : oW Z a0 (.selects "java/lang/String" mN26 mN25) := hw _ (mT 162 rfl)
theorem wd_163 {Z a0} (hw : own_H Z a0) : oW Z a0 (.instanceMethod mN25) := hw _ (mT 163 rfl)
theorem wd_204 {Z a0} (hw : own_H Z a0) : oW Z a0 (.methodLink "java/util/HashMap$Node" 1 mN3) := hw _ (mT 204 rfl)
theorem wd_205 {Z a0} (hw : own_H Z a0) : oW Z a0 (.fieldLink "java/util/HashMap$Node" 7 "java/util/HashMap$Node" "hash" "I") := hw _ (mT 205 rfl)
theorem wd_206 {Z a0} (hw : own_H Z a0) : oW Z a0 (.laysFinal "java/util/HashMap$Node" "java/util/HashMap$Node" "hash" "I") := hw _ (mT 206 rfl)
theorem wd_198 {Z a0} (hw : own_H Z a0) : oW Z a0 (.instantiable "java/util/HashMap$Node" 4) := hw _ (mT 198 rfl)
theorem wd_207 {Z a0} (hw : own_H Z a0) : oW Z a0 (.fieldLink "java/util/HashMap$Node" 13 "java/util/HashMap$Node" "key" "Ljava/lang/Object;") := hw _ (mT 207 rfl)
theorem wd_208 {Z a0} (hw : own_H Z a0) : oW Z a0 (.laysFinal "java/util/HashMap$Node" "java/util/HashMap$Node" "key" "Ljava/lang/Object;") := hw _ (mT 208 rfl)
theorem wd_209 {Z a0} (hw : own_H Z a0) : oW Z a0 (.fieldLink "java/util/HashMap$Node" 17 "java/util/HashMap$Node" "value" "Ljava/lang/Object;") := hw _ (mT 209 rfl)
theorem wd_210 {Z a0} (hw : own_H Z a0) : oW Z a0 (.lays "java/util/HashMap$Node" "java/util/HashMap$Node" "value" "Ljava/lang/Object;") := hw _ (mT 210 rfl)
theorem wd_211 {Z a0} (hw : own_H Z a0) : oW Z a0 (.fieldLink "java/util/HashMap$Node" 20 "java/util/HashMap$Node" "next" "Ljava/util/HashMap$Node;") := hw _ (mT 211 rfl)
theorem wd_212 {Z a0} (hw : own_H Z a0) : oW Z a0 (.lays "java/util/HashMap$Node" "java/util/HashMap$Node" "next" "Ljava/util/HashMap$Node;") := hw _ (mT 212 rfl)
theorem wd_191 {Z a0} (hw : own_H Z a0) : oW Z a0 (.classLink "java/util/HashMap" 163 "java/util/HashMap$Node") := hw _ (mT 191 rfl)
theorem wd_199 {Z a0} (hw : own_H Z a0) : oW Z a0 (.initialized "java/util/HashMap$Node") := hw _ (mT 199 rfl)
theorem wd_200 {Z a0} (hw : own_H Z a0) : oW Z a0 (.methodLink "java/util/HashMap" 375 mN30) := hw _ (mT 200 rfl)
theorem wd_203 {Z a0} (hw : own_H Z a0) : oW Z a0 (.code mN30 kC27 5 (Option.none : Option Jvm.ClassFile.FieldType)) := hw _ (mT 203 rfl)
theorem wd_201 {Z a0} (hw : own_H Z a0) : oW Z a0 (.instanceMethod mN30) := hw _ (mT 201 rfl)
theorem wd_182 {Z a0} (hw : own_H Z a0) : oW Z a0 (.fieldLink "java/util/HashMap" 105 "java/util/HashMap" "table" "[Ljava/util/HashMap$Node;") := hw _ (mT 182 rfl)
theorem wd_189 {Z a0} (hw : own_H Z a0) : oW Z a0 (.fieldLink "java/util/HashMap" 88 "java/util/HashMap" "threshold" "I") := hw _ (mT 189 rfl)
theorem wd_192 {Z a0} (hw : own_H Z a0) : oW Z a0 (.arrayOver (.object "java/util/HashMap$Node")) := hw _ (mT 192 rfl)
theorem wd_184 {Z a0} (hw : own_H Z a0) : oW Z a0 (.methodLink "java/util/HashMap" 117 mN32) := hw _ (mT 184 rfl)
theorem wd_188 {Z a0} (hw : own_H Z a0) : oW Z a0 (.code mN32 kC29 14 (Option.some (.array (.object "java/util/HashMap$Node")))) := hw _ (mT 188 rfl)
theorem wd_137 {Z a0} (hw : own_H Z a0) : oW Z a0 (.initialized "java/util/HashMap") := hw _ (mT 137 rfl)
theorem wd_185 {Z a0} (hw : own_H Z a0) : oW Z a0 (.declares mN32) := hw _ (mT 185 rfl)
theorem wd_187 {Z a0} (hw : own_H Z a0) : oW Z a0 (.selects "java/util/HashMap" mN32 mN32) := hw _ (mT 187 rfl)
theorem wd_186 {Z a0} (hw : own_H Z a0) : oW Z a0 (.instanceMethod mN32) := hw _ (mT 186 rfl)
theorem wd_193 {Z a0} (hw : own_H Z a0) : oW Z a0 (.methodLink "java/util/HashMap" 186 mN31) := hw _ (mT 193 rfl)
theorem wd_197 {Z a0} (hw : own_H Z a0) : oW Z a0 (.code mN31 kC28 5 (Option.some (.object "java/util/HashMap$Node"))) := hw _ (mT 197 rfl)
theorem wd_194 {Z a0} (hw : own_H Z a0) : oW Z a0 (.declares mN31) := hw _ (mT 194 rfl)
theorem wd_196 {Z a0} (hw : own_H Z a0) : oW Z a0 (.selects "java/util/HashMap" mN31 mN31) := hw _ (mT 196 rfl)
theorem wd_195 {Z a0} (hw : own_H Z a0) : oW Z a0 (.instanceMethod mN31) := hw _ (mT 195 rfl)
theorem wd_213 {Z a0} (hw : own_H Z a0) : oW Z a0 (.fieldLink "java/util/HashMap" 202 "java/util/HashMap" "modCount" "I") := hw _ (mT 213 rfl)
theorem wd_215 {Z a0} (hw : own_H Z a0) : oW Z a0 (.fieldLink "java/util/HashMap" 156 "java/util/HashMap" "size" "I") := hw _ (mT 215 rfl)
theorem wd_217 {Z a0} (hw : own_H Z a0) : oW Z a0 (.methodLink "java/util/HashMap" 205 mN33) := hw _ (mT 217 rfl)
theorem wd_221 {Z a0} (hw : own_H Z a0) : oW Z a0 (.code mN33 kC30 2 (Option.none : Option Jvm.ClassFile.FieldType)) := hw _ (mT 221 rfl)
theorem wd_218 {Z a0} (hw : own_H Z a0) : oW Z a0 (.declares mN33) := hw _ (mT 218 rfl)
theorem wd_220 {Z a0} (hw : own_H Z a0) : oW Z a0 (.selects "java/util/HashMap" mN33 mN33) := hw _ (mT 220 rfl)
theorem wd_219 {Z a0} (hw : own_H Z a0) : oW Z a0 (.instanceMethod mN33) := hw _ (mT 219 rfl)
theorem wd_156 {Z a0} (hw : own_H Z a0) : oW Z a0 (.methodLink "java/util/HashMap" 149 mN29) := hw _ (mT 156 rfl)
theorem wd_158 {Z a0} (hw : own_H Z a0) : oW Z a0 (.code mN29 kC26 2 (Option.some .int)) := hw _ (mT 158 rfl)
theorem wd_157 {Z a0} (hw : own_H Z a0) : oW Z a0 (.static mN29) := hw _ (mT 157 rfl)
theorem wd_177 {Z a0} (hw : own_H Z a0) : oW Z a0 (.methodLink "java/util/HashMap" 152 mN34) := hw _ (mT 177 rfl)
theorem wd_181 {Z a0} (hw : own_H Z a0) : oW Z a0 (.code mN34 kC31 13 (Option.some (.object "java/lang/Object"))) := hw _ (mT 181 rfl)
theorem wd_178 {Z a0} (hw : own_H Z a0) : oW Z a0 (.declares mN34) := hw _ (mT 178 rfl)
theorem wd_180 {Z a0} (hw : own_H Z a0) : oW Z a0 (.selects "java/util/HashMap" mN34 mN34) := hw _ (mT 180 rfl)
theorem wd_179 {Z a0} (hw : own_H Z a0) : oW Z a0 (.instanceMethod mN34) := hw _ (mT 179 rfl)
theorem wd_250 {Z a0} (hw : own_H Z a0) : oW Z a0 (.methodLink "java/util/Collections$UnmodifiableMap" 1 mN3) := hw _ (mT 250 rfl)
theorem wd_251 {Z a0} (hw : own_H Z a0) : oW Z a0 (.fieldLink "java/util/Collections$UnmodifiableMap" 10 "java/util/Collections$UnmodifiableMap" "m" "Ljava/util/Map;") := hw _ (mT 251 rfl)
theorem wd_252 {Z a0} (hw : own_H Z a0) : oW Z a0 (.laysFinal "java/util/Collections$UnmodifiableMap" "java/util/Collections$UnmodifiableMap" "m" "Ljava/util/Map;") := hw _ (mT 252 rfl)
theorem wd_245 {Z a0} (hw : own_H Z a0) : oW Z a0 (.instantiable "java/util/Collections$UnmodifiableMap" 4) := hw _ (mT 245 rfl)
theorem wd_233 {Z a0} (hw : own_H Z a0) : oW Z a0 (.methodLink "java/util/Collections" 220 mN27) := hw _ (mT 233 rfl)
theorem wd_234 {Z a0} (hw : own_H Z a0) : oW Z a0 (.declares mN28) := hw _ (mT 234 rfl)
theorem wd_235 {Z a0} (hw : own_H Z a0) : oW Z a0 (.interfaceMethod "java/util/Map" "java/lang/Object" "getClass" "()Ljava/lang/Class;") := hw _ (mT 235 rfl)
theorem wd_237 {Z a0} (hw : own_H Z a0) : oW Z a0 (.instanceMethod mN28) := hw _ (mT 237 rfl)
theorem wd_238 {Z a0} (hw : own_H Z a0) : oW Z a0 (.publicMethod mN28) := hw _ (mT 238 rfl)
theorem wd_239 {Z a0} (hw : own_H Z a0) : oW Z a0 (.unhidden "java/util/HashMap" "getClass" "()Ljava/lang/Class;") := hw _ (mT 239 rfl)
theorem wd_240 {Z a0} (hw : own_H Z a0) : oW Z a0 (.castable "java/util/HashMap" "java/util/Map") := hw _ (mT 240 rfl)
theorem wd_241 {Z a0} (hw : own_H Z a0) : oW Z a0 (.native mN28) := hw _ (mT 241 rfl)
theorem wd_243 {Z a0} (hw : own_H Z a0) : oW Z a0 (.classLink "java/util/Collections" 223 "java/util/Collections$UnmodifiableMap") := hw _ (mT 243 rfl)
theorem wd_246 {Z a0} (hw : own_H Z a0) : oW Z a0 (.initialized "java/util/Collections$UnmodifiableMap") := hw _ (mT 246 rfl)
theorem wd_247 {Z a0} (hw : own_H Z a0) : oW Z a0 (.methodLink "java/util/Collections" 225 mN36) := hw _ (mT 247 rfl)
theorem wd_249 {Z a0} (hw : own_H Z a0) : oW Z a0 (.code mN36 kC33 2 (Option.none : Option Jvm.ClassFile.FieldType)) := hw _ (mT 249 rfl)
theorem wd_248 {Z a0} (hw : own_H Z a0) : oW Z a0 (.instanceMethod mN36) := hw _ (mT 248 rfl)
theorem wd_228 {Z a0} (hw : own_H Z a0) : oW Z a0 (.methodLink "com/example/brickwork/brickwork/Catalogue" 1 mN3) := hw _ (mT 228 rfl)
theorem wd_229 {Z a0} (hw : own_H Z a0) : oW Z a0 (.methodLink "com/example/brickwork/brickwork/Catalogue" 7 mN37) := hw _ (mT 229 rfl)
theorem wd_232 {Z a0} (hw : own_H Z a0) : oW Z a0 (.code mN37 kC34 1 (Option.some (.object "java/util/Map"))) := hw _ (mT 232 rfl)
theorem wd_231 {Z a0} (hw : own_H Z a0) : oW Z a0 (.initialized "java/util/Collections") := hw _ (mT 231 rfl)
theorem wd_230 {Z a0} (hw : own_H Z a0) : oW Z a0 (.static mN37) := hw _ (mT 230 rfl)
theorem wd_253 {Z a0} (hw : own_H Z a0) : oW Z a0 (.fieldLink "com/example/brickwork/brickwork/Catalogue" 13 "com/example/brickwork/brickwork/Catalogue" "answers" "Ljava/util/Map;") := hw _ (mT 253 rfl)
theorem wd_254 {Z a0} (hw : own_H Z a0) : oW Z a0 (.laysFinal "com/example/brickwork/brickwork/Catalogue" "com/example/brickwork/brickwork/Catalogue" "answers" "Ljava/util/Map;") := hw _ (mT 254 rfl)
theorem wd_223 {Z a0} (hw : own_H Z a0) : oW Z a0 (.instantiable "com/example/brickwork/brickwork/Catalogue" 1) := hw _ (mT 223 rfl)
theorem wd_304 {Z a0} (hw : own_H Z a0) : oW Z a0 (.methodLink "java/lang/String" 541 mN39) := hw _ (mT 304 rfl)
theorem wd_306 {Z a0} (hw : own_H Z a0) : oW Z a0 (.code mN39 kC36 3 (Option.some .boolean)) := hw _ (mT 306 rfl)
theorem wd_305 {Z a0} (hw : own_H Z a0) : oW Z a0 (.static mN39) := hw _ (mT 305 rfl)
theorem wd_296 {Z a0} (hw : own_H Z a0) : oW Z a0 (.fieldLink "java/util/HashMap" 168 "java/util/HashMap$Node" "hash" "I") := hw _ (mT 296 rfl)
theorem wd_297 {Z a0} (hw : own_H Z a0) : oW Z a0 (.fieldLink "java/util/HashMap" 170 "java/util/HashMap$Node" "key" "Ljava/lang/Object;") := hw _ (mT 297 rfl)
theorem wd_298 {Z a0} (hw : own_H Z a0) : oW Z a0 (.methodLink "java/util/HashMap" 173 mN41) := hw _ (mT 298 rfl)
theorem wd_303 {Z a0} (hw : own_H Z a0) : oW Z a0 (.code mN40 kC37 3 (Option.some .boolean)) := hw _ (mT 303 rfl)
theorem wd_299 {Z a0} (hw : own_H Z a0) : oW Z a0 (.declares mN41) := hw _ (mT 299 rfl)
theorem wd_301 {Z a0} (hw : own_H Z a0) : oW Z a0 (.selects "java/lang/String" mN41 mN40) := hw _ (mT 301 rfl)
theorem wd_302 {Z a0} (hw : own_H Z a0) : oW Z a0 (.instanceMethod mN40) := hw _ (mT 302 rfl)
theorem wd_400 {Z a0} (hw : own_H Z a0) : oW Z a0 (.fieldLink "java/util/HashMap" 177 "java/util/HashMap$Node" "next" "Ljava/util/HashMap$Node;") := hw _ (mT 400 rfl)
theorem wd_280 {Z a0} (hw : own_H Z a0) : oW Z a0 (.methodLink "java/util/HashMap" 158 mN42) := hw _ (mT 280 rfl)
theorem wd_284 {Z a0} (hw : own_H Z a0) : oW Z a0 (.code mN42 kC38 8 (Option.some (.object "java/util/HashMap$Node"))) := hw _ (mT 284 rfl)
theorem wd_281 {Z a0} (hw : own_H Z a0) : oW Z a0 (.declares mN42) := hw _ (mT 281 rfl)
theorem wd_283 {Z a0} (hw : own_H Z a0) : oW Z a0 (.selects "java/util/HashMap" mN42 mN42) := hw _ (mT 283 rfl)
theorem wd_282 {Z a0} (hw : own_H Z a0) : oW Z a0 (.instanceMethod mN42) := hw _ (mT 282 rfl)
theorem wd_307 {Z a0} (hw : own_H Z a0) : oW Z a0 (.fieldLink "java/util/HashMap" 162 "java/util/HashMap$Node" "value" "Ljava/lang/Object;") := hw _ (mT 307 rfl)
theorem wd_274 {Z a0} (hw : own_H Z a0) : oW Z a0 (.methodLink "java/util/Collections$UnmodifiableMap" 33 mN44) := hw _ (mT 274 rfl)
theorem wd_279 {Z a0} (hw : own_H Z a0) : oW Z a0 (.code mN43 kC39 3 (Option.some (.object "java/lang/Object"))) := hw _ (mT 279 rfl)
theorem wd_266 {Z a0} (hw : own_H Z a0) : oW Z a0 (.declares mN44) := hw _ (mT 266 rfl)
theorem wd_267 {Z a0} (hw : own_H Z a0) : oW Z a0 (.interfaceMethod "java/util/Map" "java/util/Map" "get" "(Ljava/lang/Object;)Ljava/lang/Object;") := hw _ (mT 267 rfl)
theorem wd_275 {Z a0} (hw : own_H Z a0) : oW Z a0 (.selects "java/util/HashMap" mN44 mN43) := hw _ (mT 275 rfl)
theorem wd_276 {Z a0} (hw : own_H Z a0) : oW Z a0 (.instanceMethod mN43) := hw _ (mT 276 rfl)
theorem wd_277 {Z a0} (hw : own_H Z a0) : oW Z a0 (.publicMethod mN43) := hw _ (mT 277 rfl)
theorem wd_278 {Z a0} (hw : own_H Z a0) : oW Z a0 (.unhidden "java/util/HashMap" "get" "(Ljava/lang/Object;)Ljava/lang/Object;") := hw _ (mT 278 rfl)
theorem wd_265 {Z a0} (hw : own_H Z a0) : oW Z a0 (.methodLink "com/example/brickwork/brickwork/Catalogue" 158 mN44) := hw _ (mT 265 rfl)
theorem wd_268 {Z a0} (hw : own_H Z a0) : oW Z a0 (.selects "java/util/Collections$UnmodifiableMap" mN44 mN45) := hw _ (mT 268 rfl)
theorem wd_269 {Z a0} (hw : own_H Z a0) : oW Z a0 (.instanceMethod mN45) := hw _ (mT 269 rfl)
theorem wd_270 {Z a0} (hw : own_H Z a0) : oW Z a0 (.publicMethod mN45) := hw _ (mT 270 rfl)
theorem wd_271 {Z a0} (hw : own_H Z a0) : oW Z a0 (.unhidden "java/util/Collections$UnmodifiableMap" "get" "(Ljava/lang/Object;)Ljava/lang/Object;") := hw _ (mT 271 rfl)
theorem wd_272 {Z a0} (hw : own_H Z a0) : oW Z a0 (.castable "java/util/Collections$UnmodifiableMap" "java/util/Map") := hw _ (mT 272 rfl)
theorem wd_273 {Z a0} (hw : own_H Z a0) : oW Z a0 (.code mN45 kC40 2 (Option.some (.object "java/lang/Object"))) := hw _ (mT 273 rfl)
theorem wd_312 {Z a0} (hw : own_H Z a0) : oW Z a0 (.methodLink "com/example/brickwork/brickwork/Catalogue" 214 mN46) := hw _ (mT 312 rfl)
theorem wd_316 {Z a0} (hw : own_H Z a0) : oW Z a0 (.code mN46 kC41 1 (Option.some (.object "com/example/brickwork/brickwork/wire/Protocol$Knowledge"))) := hw _ (mT 316 rfl)
theorem wd_122 {Z a0} (hw : own_H Z a0) : oW Z a0 (.initialized "com/example/brickwork/brickwork/wire/Protocol$Tables") := hw _ (mT 122 rfl)
theorem wd_313 {Z a0} (hw : own_H Z a0) : oW Z a0 (.declares mN46) := hw _ (mT 313 rfl)
theorem wd_315 {Z a0} (hw : own_H Z a0) : oW Z a0 (.selects "com/example/brickwork/brickwork/wire/Protocol$Tables" mN46 mN46) := hw _ (mT 315 rfl)
theorem wd_314 {Z a0} (hw : own_H Z a0) : oW Z a0 (.instanceMethod mN46) := hw _ (mT 314 rfl)
theorem wd_317 {Z a0} (hw : own_H Z a0) : oW Z a0 (.fieldLink "com/example/brickwork/brickwork/Catalogue" 227 "com/example/brickwork/brickwork/wire/Protocol$Knowledge" "UNTOLD" "Lcom/example/brickwork/brickwork/wire/Protocol$Knowledge;") := hw _ (mT 317 rfl)
theorem wd_285 {Z a0} (hw : own_H Z a0) : oW Z a0 (.methodLink "com/example/brickwork/brickwork/Catalogue" 51 mN50) := hw _ (mT 285 rfl)
theorem wd_287 {Z a0} (hw : own_H Z a0) : oW Z a0 (.code mN50 kC45 1 (Option.some .boolean)) := hw _ (mT 287 rfl)
theorem wd_224 {Z a0} (hw : own_H Z a0) : oW Z a0 (.initialized "com/example/brickwork/brickwork/Catalogue") := hw _ (mT 224 rfl)
theorem wd_286 {Z a0} (hw : own_H Z a0) : oW Z a0 (.static mN50) := hw _ (mT 286 rfl)
theorem wd_310 {Z a0} (hw : own_H Z a0) : oW Z a0 (.classLink "com/example/brickwork/brickwork/Catalogue" 45 "com/example/brickwork/brickwork/wire/Protocol$Tables") := hw _ (mT 310 rfl)
theorem wd_319 {Z a0} (hw : own_H Z a0) : oW Z a0 (.methodLink "com/example/brickwork/brickwork/Catalogue" 162 mN47) := hw _ (mT 319 rfl)
theorem wd_323 {Z a0} (hw : own_H Z a0) : oW Z a0 (.code mN47 kC42 1 (Option.some .long)) := hw _ (mT 323 rfl)
theorem wd_320 {Z a0} (hw : own_H Z a0) : oW Z a0 (.declares mN47) := hw _ (mT 320 rfl)
theorem wd_322 {Z a0} (hw : own_H Z a0) : oW Z a0 (.selects "com/example/brickwork/brickwork/wire/Protocol$Tables" mN47 mN47) := hw _ (mT 322 rfl)
theorem wd_321 {Z a0} (hw : own_H Z a0) : oW Z a0 (.instanceMethod mN47) := hw _ (mT 321 rfl)
theorem wd_335 {Z a0} (hw : own_H Z a0) : oW Z a0 (.methodLink "com/example/brickwork/brickwork/Catalogue" 78 mN48) := hw _ (mT 335 rfl)
theorem wd_339 {Z a0} (hw : own_H Z a0) : oW Z a0 (.code mN48 kC43 1 (Option.some (.object "java/util/List"))) := hw _ (mT 339 rfl)
theorem wd_336 {Z a0} (hw : own_H Z a0) : oW Z a0 (.declares mN48) := hw _ (mT 336 rfl)
theorem wd_338 {Z a0} (hw : own_H Z a0) : oW Z a0 (.selects "com/example/brickwork/brickwork/wire/Protocol$Tables" mN48 mN48) := hw _ (mT 338 rfl)
theorem wd_337 {Z a0} (hw : own_H Z a0) : oW Z a0 (.instanceMethod mN48) := hw _ (mT 337 rfl)
theorem wd_356 {Z a0} (hw : own_H Z a0) : oW Z a0 (.fieldLink "java/util/ArrayList$Itr" 1 "java/util/ArrayList$Itr" "this$0" "Ljava/util/ArrayList;") := hw _ (mT 356 rfl)
theorem wd_357 {Z a0} (hw : own_H Z a0) : oW Z a0 (.laysFinal "java/util/ArrayList$Itr" "java/util/ArrayList$Itr" "this$0" "Ljava/util/ArrayList;") := hw _ (mT 357 rfl)
theorem wd_350 {Z a0} (hw : own_H Z a0) : oW Z a0 (.instantiable "java/util/ArrayList$Itr" 4) := hw _ (mT 350 rfl)
theorem wd_358 {Z a0} (hw : own_H Z a0) : oW Z a0 (.methodLink "java/util/ArrayList$Itr" 7 mN3) := hw _ (mT 358 rfl)
theorem wd_359 {Z a0} (hw : own_H Z a0) : oW Z a0 (.fieldLink "java/util/ArrayList$Itr" 13 "java/util/ArrayList$Itr" "lastRet" "I") := hw _ (mT 359 rfl)
theorem wd_360 {Z a0} (hw : own_H Z a0) : oW Z a0 (.lays "java/util/ArrayList$Itr" "java/util/ArrayList$Itr" "lastRet" "I") := hw _ (mT 360 rfl)
theorem wd_361 {Z a0} (hw : own_H Z a0) : oW Z a0 (.fieldLink "java/util/ArrayList$Itr" 17 "java/util/ArrayList" "modCount" "I") := hw _ (mT 361 rfl)
theorem wd_362 {Z a0} (hw : own_H Z a0) : oW Z a0 (.fieldLink "java/util/ArrayList$Itr" 22 "java/util/ArrayList$Itr" "expectedModCount" "I") := hw _ (mT 362 rfl)
theorem wd_363 {Z a0} (hw : own_H Z a0) : oW Z a0 (.lays "java/util/ArrayList$Itr" "java/util/ArrayList$Itr" "expectedModCount" "I") := hw _ (mT 363 rfl)
theorem wd_374 {Z a0} (hw : own_H Z a0) : oW Z a0 (.lays "java/util/ArrayList$Itr" "java/util/ArrayList$Itr" "cursor" "I") := hw _ (mT 374 rfl)
theorem wd_349 {Z a0} (hw : own_H Z a0) : oW Z a0 (.classLink "java/util/ArrayList" 267 "java/util/ArrayList$Itr") := hw _ (mT 349 rfl)
theorem wd_351 {Z a0} (hw : own_H Z a0) : oW Z a0 (.initialized "java/util/ArrayList$Itr") := hw _ (mT 351 rfl)
theorem wd_352 {Z a0} (hw : own_H Z a0) : oW Z a0 (.methodLink "java/util/ArrayList" 269 mN55) := hw _ (mT 352 rfl)
theorem wd_355 {Z a0} (hw : own_H Z a0) : oW Z a0 (.code mN55 kC50 2 (Option.none : Option Jvm.ClassFile.FieldType)) := hw _ (mT 355 rfl)
theorem wd_353 {Z a0} (hw : own_H Z a0) : oW Z a0 (.instanceMethod mN55) := hw _ (mT 353 rfl)
theorem wd_373 {Z a0} (hw : own_H Z a0) : oW Z a0 (.fieldLink "java/util/ArrayList$Itr" 25 "java/util/ArrayList$Itr" "cursor" "I") := hw _ (mT 373 rfl)
theorem wd_375 {Z a0} (hw : own_H Z a0) : oW Z a0 (.fieldLinkNest "java/util/ArrayList$Itr" 28 "java/util/ArrayList" "size" "I" "java/util/ArrayList") := hw _ (mT 375 rfl)
theorem wd_384 {Z a0} (hw : own_H Z a0) : oW Z a0 (.methodLink "java/util/ArrayList$Itr" 31 mN58) := hw _ (mT 384 rfl)
theorem wd_388 {Z a0} (hw : own_H Z a0) : oW Z a0 (.code mN58 kC53 1 (Option.none : Option Jvm.ClassFile.FieldType)) := hw _ (mT 388 rfl)
theorem wd_385 {Z a0} (hw : own_H Z a0) : oW Z a0 (.declares mN58) := hw _ (mT 385 rfl)
theorem wd_387 {Z a0} (hw : own_H Z a0) : oW Z a0 (.selects "java/util/ArrayList$Itr" mN58 mN58) := hw _ (mT 387 rfl)
theorem wd_386 {Z a0} (hw : own_H Z a0) : oW Z a0 (.instanceMethod mN58) := hw _ (mT 386 rfl)
theorem wd_389 {Z a0} (hw : own_H Z a0) : oW Z a0 (.fieldLink "java/util/ArrayList$Itr" 37 "java/util/ArrayList" "elementData" "[Ljava/lang/Object;") := hw _ (mT 389 rfl)
theorem wd_330 {Z a0} (hw : own_H Z a0) : oW Z a0 (.methodLink "com/example/brickwork/brickwork/Catalogue" 182 mN53) := hw _ (mT 330 rfl)
theorem wd_334 {Z a0} (hw : own_H Z a0) : oW Z a0 (.code mN53 kC48 3 (Option.some (.object "java/util/List"))) := hw _ (mT 334 rfl)
theorem wd_331 {Z a0} (hw : own_H Z a0) : oW Z a0 (.declares mN53) := hw _ (mT 331 rfl)
theorem wd_333 {Z a0} (hw : own_H Z a0) : oW Z a0 (.selects "com/example/brickwork/brickwork/Catalogue" mN53 mN53) := hw _ (mT 333 rfl)
theorem wd_332 {Z a0} (hw : own_H Z a0) : oW Z a0 (.instanceMethod mN53) := hw _ (mT 332 rfl)
theorem wd_340 {Z a0} (hw : own_H Z a0) : oW Z a0 (.methodLink "com/example/brickwork/brickwork/Catalogue" 61 mN60) := hw _ (mT 340 rfl)
theorem wd_348 {Z a0} (hw : own_H Z a0) : oW Z a0 (.code mN56 kC51 1 (Option.some (.object "java/util/Iterator"))) := hw _ (mT 348 rfl)
theorem wd_341 {Z a0} (hw : own_H Z a0) : oW Z a0 (.declares mN60) := hw _ (mT 341 rfl)
theorem wd_342 {Z a0} (hw : own_H Z a0) : oW Z a0 (.interfaceMethod "java/util/List" "java/util/List" "iterator" "()Ljava/util/Iterator;") := hw _ (mT 342 rfl)
theorem wd_343 {Z a0} (hw : own_H Z a0) : oW Z a0 (.selects "java/util/ArrayList" mN60 mN56) := hw _ (mT 343 rfl)
theorem wd_344 {Z a0} (hw : own_H Z a0) : oW Z a0 (.instanceMethod mN56) := hw _ (mT 344 rfl)
theorem wd_345 {Z a0} (hw : own_H Z a0) : oW Z a0 (.publicMethod mN56) := hw _ (mT 345 rfl)
theorem wd_346 {Z a0} (hw : own_H Z a0) : oW Z a0 (.unhidden "java/util/ArrayList" "iterator" "()Ljava/util/Iterator;") := hw _ (mT 346 rfl)
theorem wd_347 {Z a0} (hw : own_H Z a0) : oW Z a0 (.castable "java/util/ArrayList" "java/util/List") := hw _ (mT 347 rfl)
theorem wd_364 {Z a0} (hw : own_H Z a0) : oW Z a0 (.methodLink "com/example/brickwork/brickwork/Catalogue" 35 mN61) := hw _ (mT 364 rfl)
theorem wd_372 {Z a0} (hw : own_H Z a0) : oW Z a0 (.code mN57 kC52 1 (Option.some .boolean)) := hw _ (mT 372 rfl)
theorem wd_365 {Z a0} (hw : own_H Z a0) : oW Z a0 (.declares mN61) := hw _ (mT 365 rfl)
theorem wd_366 {Z a0} (hw : own_H Z a0) : oW Z a0 (.interfaceMethod "java/util/Iterator" "java/util/Iterator" "hasNext" "()Z") := hw _ (mT 366 rfl)
theorem wd_367 {Z a0} (hw : own_H Z a0) : oW Z a0 (.selects "java/util/ArrayList$Itr" mN61 mN57) := hw _ (mT 367 rfl)
theorem wd_368 {Z a0} (hw : own_H Z a0) : oW Z a0 (.instanceMethod mN57) := hw _ (mT 368 rfl)
theorem wd_369 {Z a0} (hw : own_H Z a0) : oW Z a0 (.publicMethod mN57) := hw _ (mT 369 rfl)
theorem wd_370 {Z a0} (hw : own_H Z a0) : oW Z a0 (.unhidden "java/util/ArrayList$Itr" "hasNext" "()Z") := hw _ (mT 370 rfl)
theorem wd_371 {Z a0} (hw : own_H Z a0) : oW Z a0 (.castable "java/util/ArrayList$Itr" "java/util/Iterator") := hw _ (mT 371 rfl)
theorem wd_376 {Z a0} (hw : own_H Z a0) : oW Z a0 (.methodLink "com/example/brickwork/brickwork/Catalogue" 41 mN62) := hw _ (mT 376 rfl)
theorem wd_383 {Z a0} (hw : own_H Z a0) : oW Z a0 (.code mN59 kC54 3 (Option.some (.object "java/lang/Object"))) := hw _ (mT 383 rfl)
theorem wd_377 {Z a0} (hw : own_H Z a0) : oW Z a0 (.declares mN62) := hw _ (mT 377 rfl)
theorem wd_378 {Z a0} (hw : own_H Z a0) : oW Z a0 (.interfaceMethod "java/util/Iterator" "java/util/Iterator" "next" "()Ljava/lang/Object;") := hw _ (mT 378 rfl)
theorem wd_379 {Z a0} (hw : own_H Z a0) : oW Z a0 (.selects "java/util/ArrayList$Itr" mN62 mN59) := hw _ (mT 379 rfl)
theorem wd_380 {Z a0} (hw : own_H Z a0) : oW Z a0 (.instanceMethod mN59) := hw _ (mT 380 rfl)
theorem wd_381 {Z a0} (hw : own_H Z a0) : oW Z a0 (.publicMethod mN59) := hw _ (mT 381 rfl)
theorem wd_382 {Z a0} (hw : own_H Z a0) : oW Z a0 (.unhidden "java/util/ArrayList$Itr" "next" "()Ljava/lang/Object;") := hw _ (mT 382 rfl)
theorem wd_390 {Z a0} (hw : own_H Z a0) : oW Z a0 (.classLink "com/example/brickwork/brickwork/Catalogue" 64 "com/example/brickwork/brickwork/wire/Protocol$Listed") := hw _ (mT 390 rfl)
theorem wd_392 {Z a0} (hw : own_H Z a0) : oW Z a0 (.methodLink "com/example/brickwork/brickwork/Catalogue" 66 mN49) := hw _ (mT 392 rfl)
theorem wd_396 {Z a0} (hw : own_H Z a0) : oW Z a0 (.code mN49 kC44 1 (Option.some (.object "java/lang/String"))) := hw _ (mT 396 rfl)
theorem wd_70 {Z a0} (hw : own_H Z a0) : oW Z a0 (.initialized "com/example/brickwork/brickwork/wire/Protocol$Listed") := hw _ (mT 70 rfl)
theorem wd_393 {Z a0} (hw : own_H Z a0) : oW Z a0 (.declares mN49) := hw _ (mT 393 rfl)
theorem wd_395 {Z a0} (hw : own_H Z a0) : oW Z a0 (.selects "com/example/brickwork/brickwork/wire/Protocol$Listed" mN49 mN49) := hw _ (mT 395 rfl)
theorem wd_394 {Z a0} (hw : own_H Z a0) : oW Z a0 (.instanceMethod mN49) := hw _ (mT 394 rfl)
theorem wd_397 {Z a0} (hw : own_H Z a0) : oW Z a0 (.methodLink "com/example/brickwork/brickwork/Catalogue" 186 mN40) := hw _ (mT 397 rfl)
theorem wd_398 {Z a0} (hw : own_H Z a0) : oW Z a0 (.declares mN40) := hw _ (mT 398 rfl)
theorem wd_399 {Z a0} (hw : own_H Z a0) : oW Z a0 (.selects "java/lang/String" mN40 mN40) := hw _ (mT 399 rfl)
theorem wd_260 {Z a0} (hw : own_H Z a0) : oW Z a0 (.methodLink "com/example/brickwork/brickwork/Catalogue" 165 mN51) := hw _ (mT 260 rfl)
theorem wd_264 {Z a0} (hw : own_H Z a0) : oW Z a0 (.code mN51 kC46 2 (Option.some .boolean)) := hw _ (mT 264 rfl)
theorem wd_261 {Z a0} (hw : own_H Z a0) : oW Z a0 (.declares mN51) := hw _ (mT 261 rfl)
theorem wd_263 {Z a0} (hw : own_H Z a0) : oW Z a0 (.selects "com/example/brickwork/brickwork/Catalogue" mN51 mN51) := hw _ (mT 263 rfl)
theorem wd_262 {Z a0} (hw : own_H Z a0) : oW Z a0 (.instanceMethod mN51) := hw _ (mT 262 rfl)
theorem wd_288 {Z a0} (hw : own_H Z a0) : oW Z a0 (.methodLink "com/example/brickwork/brickwork/Catalogue" 172 mN52) := hw _ (mT 288 rfl)
theorem wd_292 {Z a0} (hw : own_H Z a0) : oW Z a0 (.code mN52 kC47 3 (Option.some .long)) := hw _ (mT 292 rfl)
theorem wd_289 {Z a0} (hw : own_H Z a0) : oW Z a0 (.declares mN52) := hw _ (mT 289 rfl)
theorem wd_291 {Z a0} (hw : own_H Z a0) : oW Z a0 (.selects "com/example/brickwork/brickwork/Catalogue" mN52 mN52) := hw _ (mT 291 rfl)
theorem wd_290 {Z a0} (hw : own_H Z a0) : oW Z a0 (.instanceMethod mN52) := hw _ (mT 290 rfl)
theorem wd_293 {Z a0} (hw : own_H Z a0) : oW Z a0 (.methodLink "com/example/brickwork/brickwork/Catalogue" 175 mN54) := hw _ (mT 293 rfl)
theorem wd_295 {Z a0} (hw : own_H Z a0) : oW Z a0 (.code mN54 kC49 6 (Option.some .boolean)) := hw _ (mT 295 rfl)
theorem wd_294 {Z a0} (hw : own_H Z a0) : oW Z a0 (.static mN54) := hw _ (mT 294 rfl)
theorem wd_325 {Z a0} (hw : own_H Z a0) : oW Z a0 (.methodLink "com/example/brickwork/brickwork/Catalogue" 168 mN63) := hw _ (mT 325 rfl)
theorem wd_329 {Z a0} (hw : own_H Z a0) : oW Z a0 (.code mN63 kC55 5 (Option.some (.object "com/example/brickwork/brickwork/wire/Protocol$Listed"))) := hw _ (mT 329 rfl)
theorem wd_326 {Z a0} (hw : own_H Z a0) : oW Z a0 (.declares mN63) := hw _ (mT 326 rfl)
theorem wd_328 {Z a0} (hw : own_H Z a0) : oW Z a0 (.selects "com/example/brickwork/brickwork/Catalogue" mN63 mN63) := hw _ (mT 328 rfl)
theorem wd_327 {Z a0} (hw : own_H Z a0) : oW Z a0 (.instanceMethod mN63) := hw _ (mT 327 rfl)
theorem wd_0 {Z a0} (hw : own_H Z a0) : oW Z a0 (.arrayClass .char) := hw _ (mT 0 rfl)
theorem wd_1 {Z a0} (hw : own_H Z a0) : oW Z a0 (.classLink "com/example/brickwork/brickwork/CatalogueSpeaksForPinLaw" 7 "java/lang/String") := hw _ (mT 1 rfl)
theorem wd_4 {Z a0} (hw : own_H Z a0) : oW Z a0 (.methodLink "com/example/brickwork/brickwork/CatalogueSpeaksForPinLaw" 9 mN5) := hw _ (mT 4 rfl)
theorem wd_6 {Z a0} (hw : own_H Z a0) : oW Z a0 (.code mN5 kC5 2 (Option.none : Option Jvm.ClassFile.FieldType)) := hw _ (mT 6 rfl)
theorem wd_5 {Z a0} (hw : own_H Z a0) : oW Z a0 (.instanceMethod mN5) := hw _ (mT 5 rfl)
theorem wd_30 {Z a0} (hw : own_H Z a0) : oW Z a0 (.methodLink "com/example/brickwork/brickwork/CatalogueSpeaksForPinLaw" 12 mN9) := hw _ (mT 30 rfl)
theorem wd_32 {Z a0} (hw : own_H Z a0) : oW Z a0 (.code mN9 kC9 1 (Option.some (.object "java/lang/String"))) := hw _ (mT 32 rfl)
theorem wd_31 {Z a0} (hw : own_H Z a0) : oW Z a0 (.static mN9) := hw _ (mT 31 rfl)
theorem wd_44 {Z a0} (hw : own_H Z a0) : oW Z a0 (.classLink "com/example/brickwork/brickwork/CatalogueSpeaksForPinLaw" 16 "java/util/ArrayList") := hw _ (mT 44 rfl)
theorem wd_47 {Z a0} (hw : own_H Z a0) : oW Z a0 (.methodLink "com/example/brickwork/brickwork/CatalogueSpeaksForPinLaw" 18 mN12) := hw _ (mT 47 rfl)
theorem wd_49 {Z a0} (hw : own_H Z a0) : oW Z a0 (.code mN12 kC12 1 (Option.none : Option Jvm.ClassFile.FieldType)) := hw _ (mT 49 rfl)
theorem wd_48 {Z a0} (hw : own_H Z a0) : oW Z a0 (.instanceMethod mN12) := hw _ (mT 48 rfl)
theorem wd_68 {Z a0} (hw : own_H Z a0) : oW Z a0 (.classLink "com/example/brickwork/brickwork/CatalogueSpeaksForPinLaw" 19 "com/example/brickwork/brickwork/wire/Protocol$Listed") := hw _ (mT 68 rfl)
theorem wd_71 {Z a0} (hw : own_H Z a0) : oW Z a0 (.methodLink "com/example/brickwork/brickwork/CatalogueSpeaksForPinLaw" 21 mN19) := hw _ (mT 71 rfl)
theorem wd_73 {Z a0} (hw : own_H Z a0) : oW Z a0 (.code mN19 kC19 4 (Option.none : Option Jvm.ClassFile.FieldType)) := hw _ (mT 73 rfl)
theorem wd_72 {Z a0} (hw : own_H Z a0) : oW Z a0 (.instanceMethod mN19) := hw _ (mT 72 rfl)
theorem wd_86 {Z a0} (hw : own_H Z a0) : oW Z a0 (.methodLink "com/example/brickwork/brickwork/CatalogueSpeaksForPinLaw" 24 mN17) := hw _ (mT 86 rfl)
theorem wd_90 {Z a0} (hw : own_H Z a0) : oW Z a0 (.code mN17 kC17 2 (Option.some .boolean)) := hw _ (mT 90 rfl)
theorem wd_87 {Z a0} (hw : own_H Z a0) : oW Z a0 (.declares mN17) := hw _ (mT 87 rfl)
theorem wd_89 {Z a0} (hw : own_H Z a0) : oW Z a0 (.selects "java/util/ArrayList" mN17 mN17) := hw _ (mT 89 rfl)
theorem wd_88 {Z a0} (hw : own_H Z a0) : oW Z a0 (.instanceMethod mN17) := hw _ (mT 88 rfl)
theorem wd_135 {Z a0} (hw : own_H Z a0) : oW Z a0 (.classLink "com/example/brickwork/brickwork/CatalogueSpeaksForPinLaw" 45 "java/util/HashMap") := hw _ (mT 135 rfl)
theorem wd_138 {Z a0} (hw : own_H Z a0) : oW Z a0 (.methodLink "com/example/brickwork/brickwork/CatalogueSpeaksForPinLaw" 47 mN22) := hw _ (mT 138 rfl)
theorem wd_140 {Z a0} (hw : own_H Z a0) : oW Z a0 (.code mN22 kC22 1 (Option.none : Option Jvm.ClassFile.FieldType)) := hw _ (mT 140 rfl)
theorem wd_139 {Z a0} (hw : own_H Z a0) : oW Z a0 (.instanceMethod mN22) := hw _ (mT 139 rfl)
theorem wd_151 {Z a0} (hw : own_H Z a0) : oW Z a0 (.methodLink "com/example/brickwork/brickwork/CatalogueSpeaksForPinLaw" 48 mN35) := hw _ (mT 151 rfl)
theorem wd_155 {Z a0} (hw : own_H Z a0) : oW Z a0 (.code mN35 kC32 3 (Option.some (.object "java/lang/Object"))) := hw _ (mT 155 rfl)
theorem wd_152 {Z a0} (hw : own_H Z a0) : oW Z a0 (.declares mN35) := hw _ (mT 152 rfl)
theorem wd_154 {Z a0} (hw : own_H Z a0) : oW Z a0 (.selects "java/util/HashMap" mN35 mN35) := hw _ (mT 154 rfl)
theorem wd_153 {Z a0} (hw : own_H Z a0) : oW Z a0 (.instanceMethod mN35) := hw _ (mT 153 rfl)
theorem wd_222 {Z a0} (hw : own_H Z a0) : oW Z a0 (.classLink "com/example/brickwork/brickwork/CatalogueSpeaksForPinLaw" 52 "com/example/brickwork/brickwork/Catalogue") := hw _ (mT 222 rfl)
theorem wd_225 {Z a0} (hw : own_H Z a0) : oW Z a0 (.methodLink "com/example/brickwork/brickwork/CatalogueSpeaksForPinLaw" 54 mN38) := hw _ (mT 225 rfl)
theorem wd_227 {Z a0} (hw : own_H Z a0) : oW Z a0 (.code mN38 kC35 2 (Option.none : Option Jvm.ClassFile.FieldType)) := hw _ (mT 227 rfl)
theorem wd_226 {Z a0} (hw : own_H Z a0) : oW Z a0 (.instanceMethod mN38) := hw _ (mT 226 rfl)
theorem wd_255 {Z a0} (hw : own_H Z a0) : oW Z a0 (.methodLink "com/example/brickwork/brickwork/CatalogueSpeaksForPinLaw" 57 mN64) := hw _ (mT 255 rfl)
theorem wd_259 {Z a0} (hw : own_H Z a0) : oW Z a0 (.code mN64 kC56 6 (Option.some .boolean)) := hw _ (mT 259 rfl)
theorem wd_256 {Z a0} (hw : own_H Z a0) : oW Z a0 (.declares mN64) := hw _ (mT 256 rfl)
theorem wd_258 {Z a0} (hw : own_H Z a0) : oW Z a0 (.selects "com/example/brickwork/brickwork/Catalogue" mN64 mN64) := hw _ (mT 258 rfl)
theorem wd_257 {Z a0} (hw : own_H Z a0) : oW Z a0 (.instanceMethod mN64) := hw _ (mT 257 rfl)
theorem wd_120 {Z a0} (hw : own_H Z a0) : oW Z a0 (.classLink "com/example/brickwork/brickwork/CatalogueSpeaksForPinLaw" 40 "com/example/brickwork/brickwork/wire/Protocol$Tables") := hw _ (mT 120 rfl)
theorem wd_123 {Z a0} (hw : own_H Z a0) : oW Z a0 (.methodLink "com/example/brickwork/brickwork/CatalogueSpeaksForPinLaw" 42 mN20) := hw _ (mT 123 rfl)
theorem wd_125 {Z a0} (hw : own_H Z a0) : oW Z a0 (.code mN20 kC20 6 (Option.none : Option Jvm.ClassFile.FieldType)) := hw _ (mT 125 rfl)
theorem wd_124 {Z a0} (hw : own_H Z a0) : oW Z a0 (.instanceMethod mN20) := hw _ (mT 124 rfl)
theorem wd_117 {Z a0} (hw : own_H Z a0) : oW Z a0 (.fieldLink "com/example/brickwork/brickwork/CatalogueSpeaksForPinLaw" 28 "com/example/brickwork/brickwork/wire/Protocol$Knowledge" "LEARNING" "Lcom/example/brickwork/brickwork/wire/Protocol$Knowledge;") := hw _ (mT 117 rfl)
theorem wd_308 {Z a0} (hw : own_H Z a0) : oW Z a0 (.fieldLink "com/example/brickwork/brickwork/CatalogueSpeaksForPinLaw" 34 "com/example/brickwork/brickwork/wire/Protocol$Knowledge" "KNOWN" "Lcom/example/brickwork/brickwork/wire/Protocol$Knowledge;") := hw _ (mT 308 rfl)
theorem wd_324 {Z a0} (hw : own_H Z a0) : oW Z a0 (.fieldLink "com/example/brickwork/brickwork/CatalogueSpeaksForPinLaw" 37 "com/example/brickwork/brickwork/wire/Protocol$Knowledge" "UNTOLD" "Lcom/example/brickwork/brickwork/wire/Protocol$Knowledge;") := hw _ (mT 324 rfl)
theorem wd_118 {Z a0} (hw : own_H Z a0) : oW Z a0 (.initialized "com/example/brickwork/brickwork/wire/Protocol$Knowledge") := hw _ (mT 118 rfl)
theorem wd_119 {Z a0} (hw : own_H Z a0) : oW Z a0 (.laysStatic "com/example/brickwork/brickwork/wire/Protocol$Knowledge" "LEARNING" "Lcom/example/brickwork/brickwork/wire/Protocol$Knowledge;") := hw _ (mT 119 rfl)
theorem wd_309 {Z a0} (hw : own_H Z a0) : oW Z a0 (.laysStatic "com/example/brickwork/brickwork/wire/Protocol$Knowledge" "KNOWN" "Lcom/example/brickwork/brickwork/wire/Protocol$Knowledge;") := hw _ (mT 309 rfl)
theorem wd_318 {Z a0} (hw : own_H Z a0) : oW Z a0 (.laysStatic "com/example/brickwork/brickwork/wire/Protocol$Knowledge" "UNTOLD" "Lcom/example/brickwork/brickwork/wire/Protocol$Knowledge;") := hw _ (mT 318 rfl)
abbrev dK (b : ByteArray) (p : Nat) (i : Instr) (n : Nat) : Prop := decode b p = .ok (i, n)
def own_vs (L : List Int32) : List Value := L.map Value.int
theorem own_fit {v : Value} {C : String} (h : v.isRef = true) : fits (.object C) v = true := by rcases ref_cases h with rfl | ⟨_, rfl⟩ <;> rfl
def own_lo (c : Int32) : Int32 := nar .byte (c.toInt8.toInt32)
theorem own_b8 {c : Int32} (h : ¬ c < 0 ∧ ¬ (255 : Int32) < c) : own_lo c &&& (255 : Int32) = c :=
  Int32.toBitVec_inj.mp (by
    have hc := toNat_of (n := 255) h.1 h.2 (by decide)
    exact (i8 c).trans (bvlo _ hc))
theorem own_lo_inj {x y : Int32} (hx : ¬ x < 0 ∧ ¬ (255 : Int32) < x) (hy : ¬ y < 0 ∧ ¬ (255 : Int32) < y) (h : own_lo x = own_lo y) : x = y := by
  rw [← own_b8 hx, ← own_b8 hy, h]
theorem own_spread {c : Int32} (h : ¬ c < 0 ∧ ¬ (255 : Int32) < c) : c ^^^ ((c.toUInt32 >>> ((16 : Int32) &&& 31).toUInt32).toInt32) = c := by
  have hc := toNat_of (n := 255) h.1 h.2 (by decide)
  have e : c.toUInt32 >>> ((16 : Int32) &&& 31).toUInt32 = 0 := by
    apply UInt32.toNat_inj.mp
    rw [UInt32.toNat_shiftRight, show ((16 : Int32) &&& 31).toUInt32.toNat % 32 = 16 from by decide, Nat.shiftRight_eq_div_pow]
    have h2 : c.toUInt32.toNat ≤ 255 := hc
    show c.toUInt32.toNat / 2 ^ 16 = 0
    omega
  rw [e]
  exact Int32.toBitVec_inj.mp (by rw [Int32.toBitVec_xor]; exact BitVec.xor_zero)
theorem own_n15 (c : Int32) : ((15 : Int32) &&& c).toBitVec.toNat ≤ 15 := by
  rw [Int32.toBitVec_and, BitVec.toNat_and]
  exact Nat.and_le_left
theorem own_i15 (c : Int32) : ((15 : Int32) &&& c).toInt = (((15 : Int32) &&& c).toBitVec.toNat : Int) := by
  have h := own_n15 c
  have : ((15 : Int32) &&& c).toInt = ((15 : Int32) &&& c).toBitVec.toInt := rfl
  rw [this, BitVec.toInt_eq_toNat_of_lt (by omega)]
theorem own_15 (c : Int32) : ¬ ((15 : Int32) &&& c) < 0 ∧ ((15 : Int32) &&& c) < (16 : Int32) := by
  have h := own_n15 c
  rw [Int32.lt_iff_toInt_lt, Int32.lt_iff_toInt_lt, own_i15, show (0 : Int32).toInt = 0 from rfl, show (16 : Int32).toInt = 16 from rfl]
  omega
theorem own_rep (n : Nat) : (List.replicate 16 Value.null).getD n .null = .null := by
  rw [List.getD_eq_getElem?_getD, List.getElem?_replicate]
  split <;> rfl
theorem own_tn (i : Int32) : i.toNatClampNeg = i.toInt.toNat := rfl
theorem own_repl (c : Int32) : ((15 : Int32) &&& c).toNatClampNeg < (List.replicate 16 Value.null).length := by
  have h := own_n15 c
  rw [List.length_replicate, own_tn, own_i15]
  omega
/-- the table of a map with one entry -/
def own_tl (k : Int32) (nd : Addr) : List Value := (List.replicate 16 Value.null).set ((15 : Int32) &&& k).toNatClampNeg (.ref nd)
theorem own_tl_hit {k c : Int32} (nd : Addr) (h : ((15 : Int32) &&& c) = ((15 : Int32) &&& k)) : (own_tl k nd).getD ((15 : Int32) &&& c).toNatClampNeg .null = .ref nd := by
  rw [h, own_tl, List.getD_eq_getElem?_getD, List.getElem?_set_self (own_repl k)]
  first | done | rfl
theorem own_tl_eq {k c : Int32} (nd : Addr) (h : k = c) : (own_tl k nd).getD ((15 : Int32) &&& c).toNatClampNeg .null = .ref nd := own_tl_hit nd (by rw [h])
theorem own_tl_miss {k c : Int32} (nd : Addr) (h : ¬ ((15 : Int32) &&& c) = ((15 : Int32) &&& k)) : (own_tl k nd).getD ((15 : Int32) &&& c).toNatClampNeg .null = .null := by
  have ne : ((15 : Int32) &&& k).toNatClampNeg ≠ ((15 : Int32) &&& c).toNatClampNeg := fun q => h (Int32.toInt_inj.mp (by
    have h1 := own_n15 k
    have h2 := own_n15 c
    rw [own_tn, own_tn, own_i15, own_i15] at q
    rw [own_i15, own_i15]
    omega))
  rw [own_tl, List.getD_eq_getElem?_getD, List.getElem?_set_ne ne, ← List.getD_eq_getElem?_getD]
  exact own_rep _
/-- a String's two fields that keep its hash -/
def own_hc (hv zv q : Int32) : Prop := (¬ hv = 0 → hv = q) ∧ (¬ zv = 0 → q = 0)
theorem own_hc0 (q : Int32) : own_hc 0 0 q := ⟨fun h => absurd rfl h, fun h => absurd rfl h⟩
/-- what the map answers -/
def own_gv (ec qc : Int32) (tv : Value) : Value := if ec = qc then tv else .null
/-- Catalogue.speaksFor of two directories -/
def own_sp (x y : Int64) (u : Int32) : Int32 := if x = 0 then (if u = 0 then 1 else 0) else if y = 0 then (if u = 0 then 1 else 0) else if x = y then 1 else 0
theorem own_01 {z : Int32} (h : z = 0 ∨ z = 1) : nar .boolean z = z := by rcases h with rfl | rfl <;> rfl
theorem own_sp01 (x y : Int64) (u : Int32) : own_sp x y u = 0 ∨ own_sp x y u = 1 := by
  unfold own_sp
  by_cases a : x = 0
  · rw [if_pos a]
    by_cases b : u = 0
    · rw [if_pos b]; exact Or.inr rfl
    · rw [if_neg b]; exact Or.inl rfl
  · rw [if_neg a]
    by_cases c : y = 0
    · rw [if_pos c]
      by_cases b : u = 0
      · rw [if_pos b]; exact Or.inr rfl
      · rw [if_neg b]; exact Or.inl rfl
    · rw [if_neg c]
      by_cases d : x = y
      · rw [if_pos d]; exact Or.inr rfl
      · rw [if_neg d]; exact Or.inl rfl
theorem own_sp_nar (x y : Int64) (u : Int32) : nar .boolean (own_sp x y u) = own_sp x y u := own_01 (own_sp01 x y u)
def own_Mir (Z : State) (C : String) (mr : Addr) : Prop := ∃ (c : ClassId) (k : Class), Z.vm.findClass C = some c ∧ Z.vm.classes[c]? = some k ∧ k.mirror = some mr
/-- the map behind the catalogue: the HashMap in its unmodifiable coat, or the HashMap itself -/
def own_D (Z : State) (h : Heap) (am hm : Addr) : Prop := (fE0 Z h am ∧ fF0 Z h am (.ref hm)) ∨ am = hm
theorem own_D.ext {Z : State} {h h' : Heap} {am hm : Addr} (D : own_D Z h am hm) (E : Ext h h') : own_D Z h' am hm := D.imp (fun q => ⟨q.1.ext E, q.2.ext E⟩) id
theorem own_D.keep {Z : State} {h h' : Heap} {am hm : Addr} {ws : List Addr} (D : own_D Z h am hm) (K : Keep h h' ws) (n : am ∉ ws) : own_D Z h' am hm := D.imp (fun q => ⟨q.1.keep K, q.2.keep K n⟩) id
section OwnM
variable {p : Program} {l : Launch} {e : Env} {R : Room} {s : State} {m : MethodId} {args : Array Value} {below : List Frame} {meth : Method} {c : Code} {T : State} {locs : List Loc} {cells slots : Nat} {Φ : State → Prop} {code : ByteArray} {ml pc : Nat} {L : Array Slot} {S : List Value} {Z : State} {a0 : Array Value} {h : Heap}
theorem own_gc (X : Stand p l e R s m args below meth c T locs cells slots) (B : own_B p c code ml) (hZ : Z.Warmed39 s.vm) {own C : String} (hown : s.vm.findClass own = some m.cls) {ix n : Nat} {xi : MethodName}
    (w1 : (Cond.methodLink own ix xi).before a0 Z = true) (w2 : (Cond.declares ⟨"java/lang/Object", "getClass", "()Ljava/lang/Class;"⟩).before a0 Z = true) (w3 : (Cond.interfaceMethod xi.cls "java/lang/Object" xi.name xi.desc).before a0 Z = true) (w4 : (Cond.selects C xi ⟨"java/lang/Object", "getClass", "()Ljava/lang/Class;"⟩).before a0 Z = true)
    (w5 : (Cond.instanceMethod ⟨"java/lang/Object", "getClass", "()Ljava/lang/Class;"⟩).before a0 Z = true) (w6 : (Cond.publicMethod ⟨"java/lang/Object", "getClass", "()Ljava/lang/Class;"⟩).before a0 Z = true) (w7 : (Cond.unhidden C xi.name xi.desc).before a0 Z = true) (w8 : (Cond.castable C xi.cls).before a0 Z = true) (w9 : (Cond.native ⟨"java/lang/Object", "getClass", "()Ljava/lang/Class;"⟩).before a0 Z = true)
    (eT : T.heap = h) {b : Addr} (ex : Exa Z h b C) {mr : Addr} (M : own_Mir Z C mr) (hd : decode code pc = .ok (.invokeinterface ix n, 5)) (hf : 1 ≤ R.frames) (hl : nativeFrameWords "java/lang/Object" "getClass" 1 + 11 ≤ R.locals) (hL : L.size = ml)
    (K : ∀ T', Stand p l e R s m args below meth c T' locs cells slots → T'.heap = h → own_G p e below Φ T' (mkF m (pc + 5) L [.ref mr]))
    (hx : xi.cls ≠ "java/lang/invoke/MethodHandle" ∧ xi.cls ≠ "java/lang/invoke/VarHandle" := by decide) (hxo : xi.cls ≠ "java/lang/Object" := by decide) (hn : xi.name = "getClass" := by rfl) (hdd : xi.desc = "()Ljava/lang/Class;" := by rfl) : own_G p e below Φ T (mkF m pc L [.ref b]) := by
  obtain ⟨cB, kB, i1, i2, i3⟩ := isOf hZ eT ex
  obtain ⟨cc, kc, m1, m2, m3⟩ := M
  have i1' := i1
  rw [hZ.alike.findClass] at i1'
  cases i1'.symm.trans m1
  obtain ⟨k', q, ek⟩ := hZ.alike.2.2 _ _ m2
  obtain ⟨vm', X', st⟩ := X.getClassOfI B.1 hown (mvT hZ w1) (mvT hZ w2) (Jvm.Free.ULB.iface_rides hZ.alike w3) (mvT hZ w4) (mvT hZ w5) (mvT hZ w6) (mvT hZ w7) (mvT hZ w8) (mvT hZ w9) hx hxo hn hdd i1 q i3 (by rw [ek]; exact m3) (g := mkF m pc L [.ref b]) rfl (by rw [B.2.2]; exact hL) (rest := []) rfl (hb B.2.1 hd) hf (by show 2 * 0 + 0 + _ ≤ _; omega)
  exact own_go st (K _ X' eT)
theorem own_lm (X : Stand p l e R s m args below meth c T locs cells slots) (B : own_B p c code ml) (hZ : Z.Warmed39 s.vm) {own C : String} (hown : s.vm.findClass own = some m.cls) {ix : Nat}
    (w1 : (Cond.classLink own ix C).before a0 Z = true) (eT : T.heap = h) {mr : Addr} (M : own_Mir Z C mr) (hd : decode code pc = .ok (.ldc ix, 2))
    (K : ∀ T', Stand p l e R s m args below meth c T' locs cells slots → T'.heap = h → own_G p e below Φ T' (mkF m (pc + 2) L (.ref mr :: S))) : own_G p e below Φ T (mkF m pc L S) := by
  obtain ⟨cc, kc, m1, m2, m3⟩ := M
  obtain ⟨k', q, ek⟩ := hZ.alike.2.2 _ _ m2
  obtain ⟨vm', X', st⟩ := X.ldcMirror B.1 (a := mr) hown (mvT hZ w1) (by
    have f1 : s.vm.findClass C = some cc := by rw [hZ.alike.findClass]; exact m1
    have f2 : k'.mirror = some mr := by rw [ek]; exact m3
    simp [Term.eval, f1, q, f2]) (g := mkF m pc L S) rfl (hb B.2.1 hd)
  exact own_go st (K _ X' eT)
end OwnM
theorem own_c255 {y x : Int32} (h : (y &&& (255 : Int32)).toUInt32.toUInt16.toUInt32.toInt32 = x) : ¬ x < 0 ∧ ¬ (255 : Int32) < x := by
  have e : x.toBitVec.toNat ≤ 255 := by
    rw [← h]
    simp only [UInt32.toBitVec_toInt32, UInt16.toBitVec_toUInt32, UInt32.toBitVec_toUInt16, Int32.toBitVec_toUInt32, BitVec.toNat_setWidth, Int32.toBitVec_and, BitVec.toNat_and]
    have q : y.toBitVec.toNat &&& (255 : Int32).toBitVec.toNat ≤ 255 := Nat.and_le_right
    omega
  have e2 : x.toInt = (x.toBitVec.toNat : Int) := by
    have : x.toInt = x.toBitVec.toInt := rfl
    rw [this, BitVec.toInt_eq_toNat_of_lt (by omega)]
  rw [Int32.lt_iff_toInt_lt, Int32.lt_iff_toInt_lt, e2, show (0 : Int32).toInt = 0 from rfl, show (255 : Int32).toInt = 255 from rfl]
  omega
theorem own_narc8 {c : Int32} (h : ¬ c < 0 ∧ ¬ (255 : Int32) < c) : nar .char c = c := ch c (Nat.le_trans (toNat_of (n := 255) h.1 h.2 (by decide)) (by decide))
theorem own_two {y x : Int32} (h : y &&& (3 : Int32) = x) (a : ¬ x = (3 : Int32)) (b : ¬ x = (0 : Int32)) (d : ¬ x = (1 : Int32)) : x = 2 := by
  have e : x.toBitVec.toNat ≤ 3 := by
    rw [← h, Int32.toBitVec_and, BitVec.toNat_and]
    exact Nat.and_le_right
  have o : ∀ z : Int32, x.toBitVec.toNat = z.toBitVec.toNat → x = z := fun z q => Int32.toBitVec_inj.mp (BitVec.eq_of_toNat_eq q)
  have q : x.toBitVec.toNat = 0 ∨ x.toBitVec.toNat = 1 ∨ x.toBitVec.toNat = 2 ∨ x.toBitVec.toNat = 3 := by omega
  rcases q with q | q | q | q
  · exact absurd (o 0 q) b
  · exact absurd (o 1 q) d
  · exact o 2 q
  · exact absurd (o 3 q) a
/-- the name that is asked for, and whether it is the listed one -/
def own_nm (c d nz : Int32) (LN : List Int32) (z : Int32) : Prop := (nz = 1 ∧ (∃ x, LN = [own_lo x]) ∧ z = 0) ∨ (nz = 2 ∧ ∃ x y, LN = [own_lo x, own_lo y] ∧ (((own_lo c = own_lo x ∧ own_lo d = own_lo y) ∧ z = 1) ∨ (¬ (own_lo c = own_lo x ∧ own_lo d = own_lo y) ∧ z = 0)))
theorem own_nm3 {c d nz z : Int32} {LN : List Int32} (h : own_nm c d nz LN z) : ¬ (3 : Int32) = nz := by
  rcases h with ⟨rfl, -⟩ | ⟨rfl, -⟩ <;> decide
/-- what speaksFor answers in the law -/
def own_x (z32 x7 z8 z27 : Int32) (j14 j16 : Int64) : Int32 := own_sp j16 (if z32 = 0 ∨ x7 = 3 then 0 else j14) (if z32 = 0 ∨ ¬ x7 = 2 ∨ (¬ z8 = 0 ∧ ¬ z27 = 0) then 0 else 1)
theorem own_fin {z32 x7 z8 z27 z37 z38 z39 z40 z43 z44 : Int32} {j14 j16 j41 : Int64} (h37 : z37 = own_x z32 x7 z8 z27 j14 j16) (h38 : z38 = if z32 = 0 ∨ x7 = 3 then 0 else 1) (h39 : z39 = if z38 = 0 ∨ ¬ x7 = 2 then 0 else 1) (h40 : z40 = if z38 = 0 ∨ z8 = 0 ∨ z27 = 0 then 0 else 1)
    (h41 : j41 = if z38 = 0 then 0 else j14) (h43 : z43 = if z39 = 0 ∨ ¬ z40 = 0 then 0 else 1) (h44 : z44 = own_sp j16 j41 z43) : z37 = z44 := by
  subst h37 h44
  have a : (if z32 = 0 ∨ x7 = 3 then (0 : Int64) else j14) = j41 := by
    subst h41 h38
    by_cases q : z32 = 0 ∨ x7 = 3 <;> simp [q]
  have b : (if z32 = 0 ∨ ¬ x7 = 2 ∨ (¬ z8 = 0 ∧ ¬ z27 = 0) then (0 : Int32) else 1) = z43 := by
    subst h43 h39 h40 h38
    by_cases q1 : z32 = 0
    · simp [q1]
    · by_cases q2 : x7 = 2
      · subst q2
        by_cases q4 : z8 = 0 <;> by_cases q5 : z27 = 0 <;> simp +decide [q1, q4, q5]
      · simp [q1, q2]
  rw [own_x, a, b]

theorem d5_0 : dK kC0 0 (.iconst 0) 1 := by decide +kernel
theorem d5_1 : dK kC0 1 (.istore 5) 2 := by decide +kernel
theorem d5_3 : dK kC0 3 (.iload 5) 2 := by decide +kernel
theorem d5_5 : dK kC0 5 (.iload 4) 2 := by decide +kernel
theorem d5_7 : dK kC0 7 (.if_icmp .ge 37) 3 := by decide +kernel
theorem d5_10 : dK kC0 10 (.aload_n 0) 1 := by decide +kernel
theorem d5_11 : dK kC0 11 (.iload_n 1) 1 := by decide +kernel
theorem d5_12 : dK kC0 12 .caload 1 := by decide +kernel
theorem d5_13 : dK kC0 13 (.istore 6) 2 := by decide +kernel
theorem d5_15 : dK kC0 15 (.iload 6) 2 := by decide +kernel
theorem d5_17 : dK kC0 17 (.sipush 255) 3 := by decide +kernel
theorem d5_20 : dK kC0 20 (.if_icmp .le 6) 3 := by decide +kernel
theorem d5_26 : dK kC0 26 (.aload_n 2) 1 := by decide +kernel
theorem d5_27 : dK kC0 27 (.iload_n 3) 1 := by decide +kernel
theorem d5_28 : dK kC0 28 (.iload 6) 2 := by decide +kernel
theorem d5_30 : dK kC0 30 .i2b 1 := by decide +kernel
theorem d5_31 : dK kC0 31 .bastore 1 := by decide +kernel
theorem d5_32 : dK kC0 32 (.iinc 1 1) 3 := by decide +kernel
theorem d5_35 : dK kC0 35 (.iinc 3 1) 3 := by decide +kernel
theorem d5_38 : dK kC0 38 (.iinc 5 1) 3 := by decide +kernel
theorem d5_41 : dK kC0 41 (.goto (-38)) 3 := by decide +kernel
theorem d5_44 : dK kC0 44 (.iload 4) 2 := by decide +kernel
theorem d5_46 : dK kC0 46 .ireturn 1 := by decide +kernel
theorem pn_0 : plainName "java/lang/StringUTF16" = true := by first | (simp [plainName, overriddenIn]; done) | decide +kernel
theorem ef_rmInn1 (m : MethodId) (ca : Addr) (da : Addr) : entryFrame m #[(.ref ca), (.int (0 : Int32)), (.ref da), (.int (0 : Int32)), (.int (1 : Int32))] 7 = mkF m 0 #[vr ca, vi 0, vr da, vi 0, vi 1, .unset, .unset] [] := by first | (simp [entryFrame, mkF, argsToLocals, Value.category]; done) | rfl
def Q_rmInn1 (Z : State) (ca : Addr) (kc : ClassId) (da : Addr) (kd : ClassId) (c0 : Int32) (h0 : Heap) (n0 : Nat) (v : Option Value) (h : Heap) (L : List Loc) : Prop := v = some (.int (1 : Int32)) ∧ Fr n0 L ∧ Keep h0 h [da] ∧ Arv Z h da kd .byte (1 : Int32) [(.int (own_lo c0))] (.int (0 : Int32))
theorem rmInn1 (l : Launch) (Z : State) (a0 : Array Value) (hw : own_H Z a0) (ws : List Jvm.Cond) (ca : Addr) (kc : ClassId) (da : Addr) (kd : ClassId) (c0 : Int32) (h0 : Heap) (n0 : Nat) (Z0 : n0 ≤ h0.size) (V_ca : Arv Z h0 ca kc .char (1 : Int32) [(.int c0)] (.int (0 : Int32))) (V_da : Arv Z h0 da kd .byte (1 : Int32) [(.int (0 : Int32))] (.int (0 : Int32))) (g_da : n0 ≤ da) (ne_ca_da : ca ≠ da) (hl0 : ¬ (255 : Int32) < c0) :
    own_Met l mN0 kC0 7 (some .int) ws (own_rm 0 0 0 0) Z h0 #[(.ref ca), (.int (0 : Int32)), (.ref da), (.int (0 : Int32)), (.int (1 : Int32))] (Q_rmInn1 Z ca kc da kd c0 h0 n0) := by
  refine own_met (plainFor_of_name pn_0) (fun m => ef_rmInn1 m ca da) ?_
  intro p e s m below meth c s₁ Φ hΦ X0 hx hby hml hown hnm hret hlk hZ e0
  have B : own_B p c _ _ := ⟨hx, hby, hml⟩
  have K0 : Keep h0 h0 [da] := Keep.refl _ _
  show own_G p e below Φ s₁ (mkF m 0 #[vr ca, vi 0, vr da, vi 0, vi 1, .unset, .unset] [])
  refine o_iconst X0 B d5_0 ?_
  refine o_istore (L' := #[vr ca, vi 0, vr da, vi 0, vi 1, vi 0, .unset]) X0 B d5_1 rfl ?_
  refine o_iload X0 B d5_3 rfl ?_
  refine o_iload X0 B d5_5 rfl ?_
  refine o_icN X0 B d5_7 (XT.ii_ge_f (by decide : ((0 : Int32) < (1 : Int32)))) ?_
  refine o_aloadN X0 B d5_10 rfl rfl ?_
  refine o_iloadN X0 B d5_11 rfl ?_
  refine o_cal (v := (.int c0)) X0 B hZ e0 V_ca ⟨by decide, by decide⟩ rfl d5_12 ?_
  refine o_istore (L' := #[vr ca, vi 0, vr da, vi 0, vi 1, vi 0, vi c0]) X0 B d5_13 rfl ?_
  refine o_iload X0 B d5_15 rfl ?_
  refine o_sipush X0 B d5_17 ?_
  refine o_icY X0 B 26 d5_20 (XT.ii_le_t hl0) rfl ?_
  refine o_aloadN X0 B d5_26 rfl rfl ?_
  refine o_iloadN X0 B d5_27 rfl ?_
  refine o_iload X0 B d5_28 rfl ?_
  refine o_i2b X0 B d5_30 ?_
  refine o_bst X0 B hZ e0 V_da ⟨by decide, by decide⟩ 0 rfl (Nat.le_of_ble_eq_true rfl) d5_31 ?_
  intro T1 h1 X1 e1 W1 V1'
  have V1 : Arv Z h1 da kd .byte (1 : Int32) [(.int (nar .byte (c0.toInt8.toInt32)))] (.int (0 : Int32)) := V1'
  have K1 := K0.wr W1 (Or.inl (List.mem_of_getElem? (i := 0) rfl))
  refine o_iinc (L' := #[vr ca, vi 1, vr da, vi 0, vi 1, vi 0, vi c0]) X1 B d5_32 rfl rfl ?_
  refine o_iinc (L' := #[vr ca, vi 1, vr da, vi 1, vi 1, vi 0, vi c0]) X1 B d5_35 rfl rfl ?_
  refine o_iinc (L' := #[vr ca, vi 1, vr da, vi 1, vi 1, vi 1, vi c0]) X1 B d5_38 rfl rfl ?_
  show own_G p e below Φ T1 (mkF m 41 #[vr ca, vi 1, vr da, vi 1, vi 1, vi 1, vi c0] [])
  refine o_goto X1 B 3 d5_41 rfl ?_
  refine o_iload X1 B d5_3 rfl ?_
  refine o_iload X1 B d5_5 rfl ?_
  refine o_icY X1 B 44 d5_7 (XT.ii_ge_t (by decide : ¬ ((1 : Int32) < (1 : Int32)))) rfl ?_
  refine o_iload X1 B d5_44 rfl ?_
  exact o_rI X1 B hΦ hlk hret d5_46 e1 (by decide) (by decide) ⟨rfl, (Fr.snoc X1 (Fr.nil n0) g_da), K1, V1⟩
theorem ef_rmInn2 (m : MethodId) (ca : Addr) (da : Addr) : entryFrame m #[(.ref ca), (.int (0 : Int32)), (.ref da), (.int (0 : Int32)), (.int (2 : Int32))] 7 = mkF m 0 #[vr ca, vi 0, vr da, vi 0, vi 2, .unset, .unset] [] := by first | (simp [entryFrame, mkF, argsToLocals, Value.category]; done) | rfl
def Q_rmInn2 (Z : State) (ca : Addr) (kc : ClassId) (da : Addr) (kd : ClassId) (c0 : Int32) (c1 : Int32) (h0 : Heap) (n0 : Nat) (v : Option Value) (h : Heap) (L : List Loc) : Prop := v = some (.int (2 : Int32)) ∧ Fr n0 L ∧ Keep h0 h [da] ∧ Arv Z h da kd .byte (2 : Int32) [(.int (own_lo c0)), (.int (own_lo c1))] (.int (0 : Int32))
theorem rmInn2 (l : Launch) (Z : State) (a0 : Array Value) (hw : own_H Z a0) (ws : List Jvm.Cond) (ca : Addr) (kc : ClassId) (da : Addr) (kd : ClassId) (c0 : Int32) (c1 : Int32) (h0 : Heap) (n0 : Nat) (Z0 : n0 ≤ h0.size) (V_ca : Arv Z h0 ca kc .char (2 : Int32) [(.int c0), (.int c1)] (.int (0 : Int32))) (V_da : Arv Z h0 da kd .byte (2 : Int32) [(.int (0 : Int32)), (.int (0 : Int32))] (.int (0 : Int32))) (g_da : n0 ≤ da) (ne_ca_da : ca ≠ da) (hl0 : ¬ (255 : Int32) < c0) (hl1 : ¬ (255 : Int32) < c1) :
    own_Met l mN0 kC0 7 (some .int) ws (own_rm 0 0 0 0) Z h0 #[(.ref ca), (.int (0 : Int32)), (.ref da), (.int (0 : Int32)), (.int (2 : Int32))] (Q_rmInn2 Z ca kc da kd c0 c1 h0 n0) := by
  refine own_met (plainFor_of_name pn_0) (fun m => ef_rmInn2 m ca da) ?_
  intro p e s m below meth c s₁ Φ hΦ X0 hx hby hml hown hnm hret hlk hZ e0
  have B : own_B p c _ _ := ⟨hx, hby, hml⟩
  have K0 : Keep h0 h0 [da] := Keep.refl _ _
  show own_G p e below Φ s₁ (mkF m 0 #[vr ca, vi 0, vr da, vi 0, vi 2, .unset, .unset] [])
  refine o_iconst X0 B d5_0 ?_
  refine o_istore (L' := #[vr ca, vi 0, vr da, vi 0, vi 2, vi 0, .unset]) X0 B d5_1 rfl ?_
  refine o_iload X0 B d5_3 rfl ?_
  refine o_iload X0 B d5_5 rfl ?_
  refine o_icN X0 B d5_7 (XT.ii_ge_f (by decide : ((0 : Int32) < (2 : Int32)))) ?_
  refine o_aloadN X0 B d5_10 rfl rfl ?_
  refine o_iloadN X0 B d5_11 rfl ?_
  refine o_cal (v := (.int c0)) X0 B hZ e0 V_ca ⟨by decide, by decide⟩ rfl d5_12 ?_
  refine o_istore (L' := #[vr ca, vi 0, vr da, vi 0, vi 2, vi 0, vi c0]) X0 B d5_13 rfl ?_
  refine o_iload X0 B d5_15 rfl ?_
  refine o_sipush X0 B d5_17 ?_
  refine o_icY X0 B 26 d5_20 (XT.ii_le_t hl0) rfl ?_
  refine o_aloadN X0 B d5_26 rfl rfl ?_
  refine o_iloadN X0 B d5_27 rfl ?_
  refine o_iload X0 B d5_28 rfl ?_
  refine o_i2b X0 B d5_30 ?_
  refine o_bst X0 B hZ e0 V_da ⟨by decide, by decide⟩ 0 rfl (Nat.le_of_ble_eq_true rfl) d5_31 ?_
  intro T1 h1 X1 e1 W1 V1'
  have V1 : Arv Z h1 da kd .byte (2 : Int32) [(.int (nar .byte (c0.toInt8.toInt32))), (.int (0 : Int32))] (.int (0 : Int32)) := V1'
  have K1 := K0.wr W1 (Or.inl (List.mem_of_getElem? (i := 0) rfl))
  refine o_iinc (L' := #[vr ca, vi 1, vr da, vi 0, vi 2, vi 0, vi c0]) X1 B d5_32 rfl rfl ?_
  refine o_iinc (L' := #[vr ca, vi 1, vr da, vi 1, vi 2, vi 0, vi c0]) X1 B d5_35 rfl rfl ?_
  refine o_iinc (L' := #[vr ca, vi 1, vr da, vi 1, vi 2, vi 1, vi c0]) X1 B d5_38 rfl rfl ?_
  show own_G p e below Φ T1 (mkF m 41 #[vr ca, vi 1, vr da, vi 1, vi 2, vi 1, vi c0] [])
  refine o_goto X1 B 3 d5_41 rfl ?_
  refine o_iload X1 B d5_3 rfl ?_
  refine o_iload X1 B d5_5 rfl ?_
  refine o_icN X1 B d5_7 (XT.ii_ge_f (by decide : ((1 : Int32) < (2 : Int32)))) ?_
  refine o_aloadN X1 B d5_10 rfl rfl ?_
  refine o_iloadN X1 B d5_11 rfl ?_
  refine o_cal (v := (.int c1)) X1 B hZ e1 (V_ca.keep K1 (ninS ne_ca_da nin0)) ⟨by decide, by decide⟩ rfl d5_12 ?_
  refine o_istore (L' := #[vr ca, vi 1, vr da, vi 1, vi 2, vi 1, vi c1]) X1 B d5_13 rfl ?_
  refine o_iload X1 B d5_15 rfl ?_
  refine o_sipush X1 B d5_17 ?_
  refine o_icY X1 B 26 d5_20 (XT.ii_le_t hl1) rfl ?_
  refine o_aloadN X1 B d5_26 rfl rfl ?_
  refine o_iloadN X1 B d5_27 rfl ?_
  refine o_iload X1 B d5_28 rfl ?_
  refine o_i2b X1 B d5_30 ?_
  refine o_bst X1 B hZ e1 V1 ⟨by decide, by decide⟩ 1 rfl (Nat.le_of_ble_eq_true rfl) d5_31 ?_
  intro T2 h2 X2 e2 W2 V2'
  have V2 : Arv Z h2 da kd .byte (2 : Int32) [(.int (nar .byte (c0.toInt8.toInt32))), (.int (nar .byte (c1.toInt8.toInt32)))] (.int (0 : Int32)) := V2'
  have K2 := K1.wr W2 (Or.inl (List.mem_of_getElem? (i := 0) rfl))
  refine o_iinc (L' := #[vr ca, vi 2, vr da, vi 1, vi 2, vi 1, vi c1]) X2 B d5_32 rfl rfl ?_
  refine o_iinc (L' := #[vr ca, vi 2, vr da, vi 2, vi 2, vi 1, vi c1]) X2 B d5_35 rfl rfl ?_
  refine o_iinc (L' := #[vr ca, vi 2, vr da, vi 2, vi 2, vi 2, vi c1]) X2 B d5_38 rfl rfl ?_
  refine o_goto X2 B 3 d5_41 rfl ?_
  show own_G p e below Φ T2 (mkF m 3 #[vr ca, vi 2, vr da, vi 2, vi 2, vi 2, vi c1] [])
  refine o_iload X2 B d5_3 rfl ?_
  refine o_iload X2 B d5_5 rfl ?_
  refine o_icY X2 B 44 d5_7 (XT.ii_ge_t (by decide : ¬ ((2 : Int32) < (2 : Int32)))) rfl ?_
  refine o_iload X2 B d5_44 rfl ?_
  exact o_rI X2 B hΦ hlk hret d5_46 e2 (by decide) (by decide) ⟨rfl, (Fr.snoc X2 (Fr.snoc X1 (Fr.nil n0) g_da) g_da), K2, V2⟩
theorem ef_rmInn3 (m : MethodId) (ca : Addr) (da : Addr) : entryFrame m #[(.ref ca), (.int (0 : Int32)), (.ref da), (.int (0 : Int32)), (.int (3 : Int32))] 7 = mkF m 0 #[vr ca, vi 0, vr da, vi 0, vi 3, .unset, .unset] [] := by first | (simp [entryFrame, mkF, argsToLocals, Value.category]; done) | rfl
def Q_rmInn3 (Z : State) (ca : Addr) (kc : ClassId) (da : Addr) (kd : ClassId) (c0 : Int32) (c1 : Int32) (c2 : Int32) (h0 : Heap) (n0 : Nat) (v : Option Value) (h : Heap) (L : List Loc) : Prop := v = some (.int (3 : Int32)) ∧ Fr n0 L ∧ Keep h0 h [da] ∧ Arv Z h da kd .byte (3 : Int32) [(.int (own_lo c0)), (.int (own_lo c1)), (.int (own_lo c2))] (.int (0 : Int32))
theorem rmInn3 (l : Launch) (Z : State) (a0 : Array Value) (hw : own_H Z a0) (ws : List Jvm.Cond) (ca : Addr) (kc : ClassId) (da : Addr) (kd : ClassId) (c0 : Int32) (c1 : Int32) (c2 : Int32) (h0 : Heap) (n0 : Nat) (Z0 : n0 ≤ h0.size) (V_ca : Arv Z h0 ca kc .char (3 : Int32) [(.int c0), (.int c1), (.int c2)] (.int (0 : Int32))) (V_da : Arv Z h0 da kd .byte (3 : Int32) [(.int (0 : Int32)), (.int (0 : Int32)), (.int (0 : Int32))] (.int (0 : Int32))) (g_da : n0 ≤ da) (ne_ca_da : ca ≠ da) (hl0 : ¬ (255 : Int32) < c0) (hl1 : ¬ (255 : Int32) < c1) (hl2 : ¬ (255 : Int32) < c2) :
    own_Met l mN0 kC0 7 (some .int) ws (own_rm 0 0 0 0) Z h0 #[(.ref ca), (.int (0 : Int32)), (.ref da), (.int (0 : Int32)), (.int (3 : Int32))] (Q_rmInn3 Z ca kc da kd c0 c1 c2 h0 n0) := by
  refine own_met (plainFor_of_name pn_0) (fun m => ef_rmInn3 m ca da) ?_
  intro p e s m below meth c s₁ Φ hΦ X0 hx hby hml hown hnm hret hlk hZ e0
  have B : own_B p c _ _ := ⟨hx, hby, hml⟩
  have K0 : Keep h0 h0 [da] := Keep.refl _ _
  show own_G p e below Φ s₁ (mkF m 0 #[vr ca, vi 0, vr da, vi 0, vi 3, .unset, .unset] [])
  refine o_iconst X0 B d5_0 ?_
  refine o_istore (L' := #[vr ca, vi 0, vr da, vi 0, vi 3, vi 0, .unset]) X0 B d5_1 rfl ?_
  refine o_iload X0 B d5_3 rfl ?_
  refine o_iload X0 B d5_5 rfl ?_
  refine o_icN X0 B d5_7 (XT.ii_ge_f (by decide : ((0 : Int32) < (3 : Int32)))) ?_
  refine o_aloadN X0 B d5_10 rfl rfl ?_
  refine o_iloadN X0 B d5_11 rfl ?_
  refine o_cal (v := (.int c0)) X0 B hZ e0 V_ca ⟨by decide, by decide⟩ rfl d5_12 ?_
  refine o_istore (L' := #[vr ca, vi 0, vr da, vi 0, vi 3, vi 0, vi c0]) X0 B d5_13 rfl ?_
  refine o_iload X0 B d5_15 rfl ?_
  refine o_sipush X0 B d5_17 ?_
  refine o_icY X0 B 26 d5_20 (XT.ii_le_t hl0) rfl ?_
  refine o_aloadN X0 B d5_26 rfl rfl ?_
  refine o_iloadN X0 B d5_27 rfl ?_
  refine o_iload X0 B d5_28 rfl ?_
  refine o_i2b X0 B d5_30 ?_
  refine o_bst X0 B hZ e0 V_da ⟨by decide, by decide⟩ 0 rfl (Nat.le_of_ble_eq_true rfl) d5_31 ?_
  intro T1 h1 X1 e1 W1 V1'
  have V1 : Arv Z h1 da kd .byte (3 : Int32) [(.int (nar .byte (c0.toInt8.toInt32))), (.int (0 : Int32)), (.int (0 : Int32))] (.int (0 : Int32)) := V1'
  have K1 := K0.wr W1 (Or.inl (List.mem_of_getElem? (i := 0) rfl))
  refine o_iinc (L' := #[vr ca, vi 1, vr da, vi 0, vi 3, vi 0, vi c0]) X1 B d5_32 rfl rfl ?_
  refine o_iinc (L' := #[vr ca, vi 1, vr da, vi 1, vi 3, vi 0, vi c0]) X1 B d5_35 rfl rfl ?_
  refine o_iinc (L' := #[vr ca, vi 1, vr da, vi 1, vi 3, vi 1, vi c0]) X1 B d5_38 rfl rfl ?_
  show own_G p e below Φ T1 (mkF m 41 #[vr ca, vi 1, vr da, vi 1, vi 3, vi 1, vi c0] [])
  refine o_goto X1 B 3 d5_41 rfl ?_
  refine o_iload X1 B d5_3 rfl ?_
  refine o_iload X1 B d5_5 rfl ?_
  refine o_icN X1 B d5_7 (XT.ii_ge_f (by decide : ((1 : Int32) < (3 : Int32)))) ?_
  refine o_aloadN X1 B d5_10 rfl rfl ?_
  refine o_iloadN X1 B d5_11 rfl ?_
  refine o_cal (v := (.int c1)) X1 B hZ e1 (V_ca.keep K1 (ninS ne_ca_da nin0)) ⟨by decide, by decide⟩ rfl d5_12 ?_
  refine o_istore (L' := #[vr ca, vi 1, vr da, vi 1, vi 3, vi 1, vi c1]) X1 B d5_13 rfl ?_
  refine o_iload X1 B d5_15 rfl ?_
  refine o_sipush X1 B d5_17 ?_
  refine o_icY X1 B 26 d5_20 (XT.ii_le_t hl1) rfl ?_
  refine o_aloadN X1 B d5_26 rfl rfl ?_
  refine o_iloadN X1 B d5_27 rfl ?_
  refine o_iload X1 B d5_28 rfl ?_
  refine o_i2b X1 B d5_30 ?_
  refine o_bst X1 B hZ e1 V1 ⟨by decide, by decide⟩ 1 rfl (Nat.le_of_ble_eq_true rfl) d5_31 ?_
  intro T2 h2 X2 e2 W2 V2'
  have V2 : Arv Z h2 da kd .byte (3 : Int32) [(.int (nar .byte (c0.toInt8.toInt32))), (.int (nar .byte (c1.toInt8.toInt32))), (.int (0 : Int32))] (.int (0 : Int32)) := V2'
  have K2 := K1.wr W2 (Or.inl (List.mem_of_getElem? (i := 0) rfl))
  refine o_iinc (L' := #[vr ca, vi 2, vr da, vi 1, vi 3, vi 1, vi c1]) X2 B d5_32 rfl rfl ?_
  refine o_iinc (L' := #[vr ca, vi 2, vr da, vi 2, vi 3, vi 1, vi c1]) X2 B d5_35 rfl rfl ?_
  refine o_iinc (L' := #[vr ca, vi 2, vr da, vi 2, vi 3, vi 2, vi c1]) X2 B d5_38 rfl rfl ?_
  refine o_goto X2 B 3 d5_41 rfl ?_
  show own_G p e below Φ T2 (mkF m 3 #[vr ca, vi 2, vr da, vi 2, vi 3, vi 2, vi c1] [])
  refine o_iload X2 B d5_3 rfl ?_
  refine o_iload X2 B d5_5 rfl ?_
  refine o_icN X2 B d5_7 (XT.ii_ge_f (by decide : ((2 : Int32) < (3 : Int32)))) ?_
  refine o_aloadN X2 B d5_10 rfl rfl ?_
  refine o_iloadN X2 B d5_11 rfl ?_
  refine o_cal (v := (.int c2)) X2 B hZ e2 (V_ca.keep K2 (ninS ne_ca_da nin0)) ⟨by decide, by decide⟩ rfl d5_12 ?_
  refine o_istore (L' := #[vr ca, vi 2, vr da, vi 2, vi 3, vi 2, vi c2]) X2 B d5_13 rfl ?_
  refine o_iload X2 B d5_15 rfl ?_
  refine o_sipush X2 B d5_17 ?_
  refine o_icY X2 B 26 d5_20 (XT.ii_le_t hl2) rfl ?_
  refine o_aloadN X2 B d5_26 rfl rfl ?_
  refine o_iloadN X2 B d5_27 rfl ?_
  refine o_iload X2 B d5_28 rfl ?_
  refine o_i2b X2 B d5_30 ?_
  refine o_bst X2 B hZ e2 V2 ⟨by decide, by decide⟩ 2 rfl (Nat.le_of_ble_eq_true rfl) d5_31 ?_
  intro T3 h3 X3 e3 W3 V3'
  have V3 : Arv Z h3 da kd .byte (3 : Int32) [(.int (nar .byte (c0.toInt8.toInt32))), (.int (nar .byte (c1.toInt8.toInt32))), (.int (nar .byte (c2.toInt8.toInt32)))] (.int (0 : Int32)) := V3'
  have K3 := K2.wr W3 (Or.inl (List.mem_of_getElem? (i := 0) rfl))
  refine o_iinc (L' := #[vr ca, vi 3, vr da, vi 2, vi 3, vi 2, vi c2]) X3 B d5_32 rfl rfl ?_
  refine o_iinc (L' := #[vr ca, vi 3, vr da, vi 3, vi 3, vi 2, vi c2]) X3 B d5_35 rfl rfl ?_
  refine o_iinc (L' := #[vr ca, vi 3, vr da, vi 3, vi 3, vi 3, vi c2]) X3 B d5_38 rfl rfl ?_
  refine o_goto X3 B 3 d5_41 rfl ?_
  refine o_iload X3 B d5_3 rfl ?_
  show own_G p e below Φ T3 (mkF m 5 #[vr ca, vi 3, vr da, vi 3, vi 3, vi 3, vi c2] [(.int (3 : Int32))])
  refine o_iload X3 B d5_5 rfl ?_
  refine o_icY X3 B 44 d5_7 (XT.ii_ge_t (by decide : ¬ ((3 : Int32) < (3 : Int32)))) rfl ?_
  refine o_iload X3 B d5_44 rfl ?_
  exact o_rI X3 B hΦ hlk hret d5_46 e3 (by decide) (by decide) ⟨rfl, (Fr.snoc X3 (Fr.snoc X2 (Fr.snoc X1 (Fr.nil n0) g_da) g_da) g_da), K3, V3⟩
theorem d4_0 : dK kC1 0 (.iload_n 2) 1 := by decide +kernel
theorem d4_1 : dK kC1 1 (.newarray .byte) 2 := by decide +kernel
theorem d4_3 : dK kC1 3 (.astore_n 3) 1 := by decide +kernel
theorem d4_4 : dK kC1 4 (.aload_n 0) 1 := by decide +kernel
theorem d4_5 : dK kC1 5 (.iload_n 1) 1 := by decide +kernel
theorem d4_6 : dK kC1 6 (.aload_n 3) 1 := by decide +kernel
theorem d4_7 : dK kC1 7 (.iconst 0) 1 := by decide +kernel
theorem d4_8 : dK kC1 8 (.iload_n 2) 1 := by decide +kernel
theorem d4_9 : dK kC1 9 (.invokestatic 115) 3 := by decide +kernel
theorem pd_0 : parseMethodDescriptor "([CI[BII)I" = some ⟨[(.array .char), .int, (.array .byte), .int, .int], some .int⟩ := by decide +kernel
theorem d4_12 : dK kC1 12 (.istore 4) 2 := by decide +kernel
theorem d4_14 : dK kC1 14 (.iload 4) 2 := by decide +kernel
theorem d4_16 : dK kC1 16 (.iload_n 2) 1 := by decide +kernel
theorem d4_17 : dK kC1 17 (.if_icmp .eq 40) 3 := by decide +kernel
theorem d4_57 : dK kC1 57 (.aload_n 3) 1 := by decide +kernel
theorem d4_58 : dK kC1 58 .areturn 1 := by decide +kernel
theorem ef_rmCmp1 (m : MethodId) (ca : Addr) : entryFrame m #[(.ref ca), (.int (0 : Int32)), (.int (1 : Int32))] 6 = mkF m 0 #[vr ca, vi 0, vi 1, .unset, .unset, .unset] [] := by first | (simp [entryFrame, mkF, argsToLocals, Value.category]; done) | rfl
def Q_rmCmp1 (Z : State) (ca : Addr) (kc : ClassId) (c0 : Int32) (h0 : Heap) (n0 : Nat) (v : Option Value) (h : Heap) (L : List Loc) : Prop := ∃ vb : Addr, h0.size ≤ vb ∧ ∃ kb : ClassId, v = some (.ref vb) ∧ Fr n0 L ∧ Keep h0 h [] ∧ Arv Z h vb kb .byte (1 : Int32) [(.int (own_lo c0))] (.int (0 : Int32))
theorem rmCmp1 (l : Launch) (Z : State) (a0 : Array Value) (hw : own_H Z a0) (ws : List Jvm.Cond) (ca : Addr) (kc : ClassId) (c0 : Int32) (h0 : Heap) (n0 : Nat) (Z0 : n0 ≤ h0.size) (V_ca : Arv Z h0 ca kc .char (1 : Int32) [(.int c0)] (.int (0 : Int32))) (hl0 : ¬ (255 : Int32) < c0) :
    own_Met l mN1 kC1 6 (some (.array .byte)) ws (own_rm 1 1 1 18) Z h0 #[(.ref ca), (.int (0 : Int32)), (.int (1 : Int32))] (Q_rmCmp1 Z ca kc c0 h0 n0) := by
  refine own_met (plainFor_of_name pn_0) (fun m => ef_rmCmp1 m ca) ?_
  intro p e s m below meth c s₁ Φ hΦ X0 hx hby hml hown hnm hret hlk hZ e0
  have B : own_B p c _ _ := ⟨hx, hby, hml⟩
  have K0 : Keep h0 h0 [] := Keep.refl _ _
  show own_G p e below Φ s₁ (mkF m 0 #[vr ca, vi 0, vi 1, .unset, .unset, .unset] [])
  refine o_iloadN X0 B d4_0 rfl ?_
  refine o_np (aty := .byte) X0 B hZ (wd_19 hw) e0 d4_1 (by decide) 1 (by decide) (by decide) (by decide) (by decide) ?_
  intro T1 h1 ka1 ob1 g1 X1 e1 E1 V1'
  have ne_ca_ob1 : ca ≠ ob1 := Nat.ne_of_lt (Nat.lt_of_lt_of_le V_ca.lt (Nat.le_of_eq g1.symm))
  have sz_ob1 : h0.size ≤ ob1 := Nat.le_trans K0.1 (Nat.le_of_eq g1.symm)
  have K1 := K0.ext E1
  have V1 : Arv Z h1 ob1 ka1 .byte (1 : Int32) [(.int (0 : Int32))] (.int (0 : Int32)) := V1'
  refine o_astoreN (L' := #[vr ca, vi 0, vi 1, vr ob1, .unset, .unset]) X1 B d4_3 rfl rfl ?_
  refine o_aloadN X1 B d4_4 rfl rfl ?_
  refine o_iloadN X1 B d4_5 rfl ?_
  refine o_aloadN X1 B d4_6 rfl rfl ?_
  refine o_iconst X1 B d4_7 ?_
  refine o_iloadN X1 B d4_8 rfl ?_
  refine o_cS (argsL := [(.ref ca), (.int (0 : Int32)), (.ref ob1), (.int (0 : Int32)), (.int (1 : Int32))]) (rest := []) X1 B hZ hown (wd_20 hw) (wd_21 hw) (wd_22 hw) (wd_17 hw) (by decide) 0 (rmInn1 l Z a0 hw [] ca kc ob1 ka1 c0 h1 n0 (Nat.le_trans Z0 E1.1) (V_ca.keep K1 nin0) V1 (Nat.le_trans Z0 (Nat.le_of_eq g1.symm)) ne_ca_ob1 hl0) (by decide) (by decide) (lenOf pd_0 rfl) rfl rfl rfl d4_9 e1 (by decide) (by decide) rfl ?_
  rintro _ T2 _ X2 ⟨rfl, N2q, Kq2, p2_0⟩
  have K2 := K1.trans Kq2 (allS (Or.inr sz_ob1) all0)
  refine o_istore (L' := #[vr ca, vi 0, vi 1, vr ob1, vi 1, .unset]) X2 B d4_12 rfl ?_
  refine o_iload X2 B d4_14 rfl ?_
  refine o_iloadN X2 B d4_16 rfl ?_
  refine o_icY X2 B 57 d4_17 (XT.ii_eq_t (by decide : ((1 : Int32) = (1 : Int32)))) rfl ?_
  refine o_aloadN X2 B d4_57 rfl rfl ?_
  exact o_rA X2 B hΦ hlk hret rfl rfl d4_58 rfl (by decide) (by decide) ⟨ob1, sz_ob1, ka1, rfl, (Fr.app (Fr.nil n0) N2q), K2, p2_0⟩
theorem ef_rmCmp2 (m : MethodId) (ca : Addr) : entryFrame m #[(.ref ca), (.int (0 : Int32)), (.int (2 : Int32))] 6 = mkF m 0 #[vr ca, vi 0, vi 2, .unset, .unset, .unset] [] := by first | (simp [entryFrame, mkF, argsToLocals, Value.category]; done) | rfl
def Q_rmCmp2 (Z : State) (ca : Addr) (kc : ClassId) (c0 : Int32) (c1 : Int32) (h0 : Heap) (n0 : Nat) (v : Option Value) (h : Heap) (L : List Loc) : Prop := ∃ vb : Addr, h0.size ≤ vb ∧ ∃ kb : ClassId, v = some (.ref vb) ∧ Fr n0 L ∧ Keep h0 h [] ∧ Arv Z h vb kb .byte (2 : Int32) [(.int (own_lo c0)), (.int (own_lo c1))] (.int (0 : Int32))
theorem rmCmp2 (l : Launch) (Z : State) (a0 : Array Value) (hw : own_H Z a0) (ws : List Jvm.Cond) (ca : Addr) (kc : ClassId) (c0 : Int32) (c1 : Int32) (h0 : Heap) (n0 : Nat) (Z0 : n0 ≤ h0.size) (V_ca : Arv Z h0 ca kc .char (2 : Int32) [(.int c0), (.int c1)] (.int (0 : Int32))) (hl0 : ¬ (255 : Int32) < c0) (hl1 : ¬ (255 : Int32) < c1) :
    own_Met l mN1 kC1 6 (some (.array .byte)) ws (own_rm 1 1 2 18) Z h0 #[(.ref ca), (.int (0 : Int32)), (.int (2 : Int32))] (Q_rmCmp2 Z ca kc c0 c1 h0 n0) := by
  refine own_met (plainFor_of_name pn_0) (fun m => ef_rmCmp2 m ca) ?_
  intro p e s m below meth c s₁ Φ hΦ X0 hx hby hml hown hnm hret hlk hZ e0
  have B : own_B p c _ _ := ⟨hx, hby, hml⟩
  have K0 : Keep h0 h0 [] := Keep.refl _ _
  show own_G p e below Φ s₁ (mkF m 0 #[vr ca, vi 0, vi 2, .unset, .unset, .unset] [])
  refine o_iloadN X0 B d4_0 rfl ?_
  refine o_np (aty := .byte) X0 B hZ (wd_19 hw) e0 d4_1 (by decide) 2 (by decide) (by decide) (by decide) (by decide) ?_
  intro T1 h1 ka1 ob1 g1 X1 e1 E1 V1'
  have ne_ca_ob1 : ca ≠ ob1 := Nat.ne_of_lt (Nat.lt_of_lt_of_le V_ca.lt (Nat.le_of_eq g1.symm))
  have sz_ob1 : h0.size ≤ ob1 := Nat.le_trans K0.1 (Nat.le_of_eq g1.symm)
  have K1 := K0.ext E1
  have V1 : Arv Z h1 ob1 ka1 .byte (2 : Int32) [(.int (0 : Int32)), (.int (0 : Int32))] (.int (0 : Int32)) := V1'
  refine o_astoreN (L' := #[vr ca, vi 0, vi 2, vr ob1, .unset, .unset]) X1 B d4_3 rfl rfl ?_
  refine o_aloadN X1 B d4_4 rfl rfl ?_
  refine o_iloadN X1 B d4_5 rfl ?_
  refine o_aloadN X1 B d4_6 rfl rfl ?_
  refine o_iconst X1 B d4_7 ?_
  refine o_iloadN X1 B d4_8 rfl ?_
  refine o_cS (argsL := [(.ref ca), (.int (0 : Int32)), (.ref ob1), (.int (0 : Int32)), (.int (2 : Int32))]) (rest := []) X1 B hZ hown (wd_20 hw) (wd_21 hw) (wd_22 hw) (wd_17 hw) (by decide) 0 (rmInn2 l Z a0 hw [] ca kc ob1 ka1 c0 c1 h1 n0 (Nat.le_trans Z0 E1.1) (V_ca.keep K1 nin0) V1 (Nat.le_trans Z0 (Nat.le_of_eq g1.symm)) ne_ca_ob1 hl0 hl1) (by decide) (by decide) (lenOf pd_0 rfl) rfl rfl rfl d4_9 e1 (by decide) (by decide) rfl ?_
  rintro _ T2 _ X2 ⟨rfl, N2q, Kq2, p2_0⟩
  have K2 := K1.trans Kq2 (allS (Or.inr sz_ob1) all0)
  refine o_istore (L' := #[vr ca, vi 0, vi 2, vr ob1, vi 2, .unset]) X2 B d4_12 rfl ?_
  refine o_iload X2 B d4_14 rfl ?_
  refine o_iloadN X2 B d4_16 rfl ?_
  refine o_icY X2 B 57 d4_17 (XT.ii_eq_t (by decide : ((2 : Int32) = (2 : Int32)))) rfl ?_
  refine o_aloadN X2 B d4_57 rfl rfl ?_
  exact o_rA X2 B hΦ hlk hret rfl rfl d4_58 rfl (by decide) (by decide) ⟨ob1, sz_ob1, ka1, rfl, (Fr.app (Fr.nil n0) N2q), K2, p2_0⟩
theorem ef_rmCmp3 (m : MethodId) (ca : Addr) : entryFrame m #[(.ref ca), (.int (0 : Int32)), (.int (3 : Int32))] 6 = mkF m 0 #[vr ca, vi 0, vi 3, .unset, .unset, .unset] [] := by first | (simp [entryFrame, mkF, argsToLocals, Value.category]; done) | rfl
def Q_rmCmp3 (Z : State) (ca : Addr) (kc : ClassId) (c0 : Int32) (c1 : Int32) (c2 : Int32) (h0 : Heap) (n0 : Nat) (v : Option Value) (h : Heap) (L : List Loc) : Prop := ∃ vb : Addr, h0.size ≤ vb ∧ ∃ kb : ClassId, v = some (.ref vb) ∧ Fr n0 L ∧ Keep h0 h [] ∧ Arv Z h vb kb .byte (3 : Int32) [(.int (own_lo c0)), (.int (own_lo c1)), (.int (own_lo c2))] (.int (0 : Int32))
theorem rmCmp3 (l : Launch) (Z : State) (a0 : Array Value) (hw : own_H Z a0) (ws : List Jvm.Cond) (ca : Addr) (kc : ClassId) (c0 : Int32) (c1 : Int32) (c2 : Int32) (h0 : Heap) (n0 : Nat) (Z0 : n0 ≤ h0.size) (V_ca : Arv Z h0 ca kc .char (3 : Int32) [(.int c0), (.int c1), (.int c2)] (.int (0 : Int32))) (hl0 : ¬ (255 : Int32) < c0) (hl1 : ¬ (255 : Int32) < c1) (hl2 : ¬ (255 : Int32) < c2) :
    own_Met l mN1 kC1 6 (some (.array .byte)) ws (own_rm 1 1 3 18) Z h0 #[(.ref ca), (.int (0 : Int32)), (.int (3 : Int32))] (Q_rmCmp3 Z ca kc c0 c1 c2 h0 n0) := by
  refine own_met (plainFor_of_name pn_0) (fun m => ef_rmCmp3 m ca) ?_
  intro p e s m below meth c s₁ Φ hΦ X0 hx hby hml hown hnm hret hlk hZ e0
  have B : own_B p c _ _ := ⟨hx, hby, hml⟩
  have K0 : Keep h0 h0 [] := Keep.refl _ _
  show own_G p e below Φ s₁ (mkF m 0 #[vr ca, vi 0, vi 3, .unset, .unset, .unset] [])
  refine o_iloadN X0 B d4_0 rfl ?_
  refine o_np (aty := .byte) X0 B hZ (wd_19 hw) e0 d4_1 (by decide) 3 (by decide) (by decide) (by decide) (by decide) ?_
  intro T1 h1 ka1 ob1 g1 X1 e1 E1 V1'
  have ne_ca_ob1 : ca ≠ ob1 := Nat.ne_of_lt (Nat.lt_of_lt_of_le V_ca.lt (Nat.le_of_eq g1.symm))
  have sz_ob1 : h0.size ≤ ob1 := Nat.le_trans K0.1 (Nat.le_of_eq g1.symm)
  have K1 := K0.ext E1
  have V1 : Arv Z h1 ob1 ka1 .byte (3 : Int32) [(.int (0 : Int32)), (.int (0 : Int32)), (.int (0 : Int32))] (.int (0 : Int32)) := V1'
  refine o_astoreN (L' := #[vr ca, vi 0, vi 3, vr ob1, .unset, .unset]) X1 B d4_3 rfl rfl ?_
  refine o_aloadN X1 B d4_4 rfl rfl ?_
  refine o_iloadN X1 B d4_5 rfl ?_
  refine o_aloadN X1 B d4_6 rfl rfl ?_
  refine o_iconst X1 B d4_7 ?_
  refine o_iloadN X1 B d4_8 rfl ?_
  refine o_cS (argsL := [(.ref ca), (.int (0 : Int32)), (.ref ob1), (.int (0 : Int32)), (.int (3 : Int32))]) (rest := []) X1 B hZ hown (wd_20 hw) (wd_21 hw) (wd_22 hw) (wd_17 hw) (by decide) 0 (rmInn3 l Z a0 hw [] ca kc ob1 ka1 c0 c1 c2 h1 n0 (Nat.le_trans Z0 E1.1) (V_ca.keep K1 nin0) V1 (Nat.le_trans Z0 (Nat.le_of_eq g1.symm)) ne_ca_ob1 hl0 hl1 hl2) (by decide) (by decide) (lenOf pd_0 rfl) rfl rfl rfl d4_9 e1 (by decide) (by decide) rfl ?_
  rintro _ T2 _ X2 ⟨rfl, N2q, Kq2, p2_0⟩
  have K2 := K1.trans Kq2 (allS (Or.inr sz_ob1) all0)
  refine o_istore (L' := #[vr ca, vi 0, vi 3, vr ob1, vi 3, .unset]) X2 B d4_12 rfl ?_
  refine o_iload X2 B d4_14 rfl ?_
  refine o_iloadN X2 B d4_16 rfl ?_
  refine o_icY X2 B 57 d4_17 (XT.ii_eq_t (by decide : ((3 : Int32) = (3 : Int32)))) rfl ?_
  refine o_aloadN X2 B d4_57 rfl rfl ?_
  exact o_rA X2 B hΦ hlk hret rfl rfl d4_58 rfl (by decide) (by decide) ⟨ob1, sz_ob1, ka1, rfl, (Fr.app (Fr.nil n0) N2q), K2, p2_0⟩
theorem d6_0 : dK kC2 0 (.iload_n 1) 1 := by decide +kernel
theorem d6_1 : dK kC2 1 (.aload_n 0) 1 := by decide +kernel
theorem d6_2 : dK kC2 2 .arraylength 1 := by decide +kernel
theorem d6_3 : dK kC2 3 .isub 1 := by decide +kernel
theorem d6_4 : dK kC2 4 (.bipush 31) 2 := by decide +kernel
theorem d6_6 : dK kC2 6 .iushr 1 := by decide +kernel
theorem d6_7 : dK kC2 7 .i2b 1 := by decide +kernel
theorem d6_8 : dK kC2 8 .ireturn 1 := by decide +kernel
theorem ef_rmCfl1 (m : MethodId) (vb : Addr) : entryFrame m #[(.ref vb), (.int (1 : Int32))] 2 = mkF m 0 #[vr vb, vi 1] [] := by first | (simp [entryFrame, mkF, argsToLocals, Value.category]; done) | rfl
def Q_rmCfl1 (Z : State) (vb : Addr) (kb : ClassId) (LL : List Int32) (h0 : Heap) (n0 : Nat) (v : Option Value) (h : Heap) (L : List Loc) : Prop := v = some (.int (0 : Int32)) ∧ Fr n0 L ∧ h = h0
theorem rmCfl1 (l : Launch) (Z : State) (a0 : Array Value) (hw : own_H Z a0) (ws : List Jvm.Cond) (vb : Addr) (kb : ClassId) (LL : List Int32) (h0 : Heap) (n0 : Nat) (Z0 : n0 ≤ h0.size) (V_vb : Arv Z h0 vb kb .byte (1 : Int32) (own_vs LL) (.int (0 : Int32))) :
    own_Met l mN2 kC2 2 (some .byte) ws (own_rm 0 0 0 0) Z h0 #[(.ref vb), (.int (1 : Int32))] (Q_rmCfl1 Z vb kb LL h0 n0) := by
  refine own_met (plainFor_of_name pn_0) (fun m => ef_rmCfl1 m vb) ?_
  intro p e s m below meth c s₁ Φ hΦ X0 hx hby hml hown hnm hret hlk hZ e0
  have B : own_B p c _ _ := ⟨hx, hby, hml⟩
  show own_G p e below Φ s₁ (mkF m 0 #[vr vb, vi 1] [])
  refine o_iloadN X0 B d6_0 rfl ?_
  refine o_aloadN X0 B d6_1 rfl rfl ?_
  refine o_len X0 B hZ e0 V_vb d6_2 ?_
  refine o_isub X0 B d6_3 ?_
  refine o_bipush X0 B d6_4 ?_
  refine o_iushr X0 B d6_6 ?_
  refine o_i2b X0 B d6_7 ?_
  exact o_rZ X0 B hΦ hlk hret (by simp) d6_8 (0 : Int32) rfl e0 (by decide) (by decide) ⟨rfl, (Fr.nil n0), rfl⟩
theorem ef_rmCfl2 (m : MethodId) (vb : Addr) : entryFrame m #[(.ref vb), (.int (2 : Int32))] 2 = mkF m 0 #[vr vb, vi 2] [] := by first | (simp [entryFrame, mkF, argsToLocals, Value.category]; done) | rfl
def Q_rmCfl2 (Z : State) (vb : Addr) (kb : ClassId) (LL : List Int32) (h0 : Heap) (n0 : Nat) (v : Option Value) (h : Heap) (L : List Loc) : Prop := v = some (.int (0 : Int32)) ∧ Fr n0 L ∧ h = h0
theorem rmCfl2 (l : Launch) (Z : State) (a0 : Array Value) (hw : own_H Z a0) (ws : List Jvm.Cond) (vb : Addr) (kb : ClassId) (LL : List Int32) (h0 : Heap) (n0 : Nat) (Z0 : n0 ≤ h0.size) (V_vb : Arv Z h0 vb kb .byte (2 : Int32) (own_vs LL) (.int (0 : Int32))) :
    own_Met l mN2 kC2 2 (some .byte) ws (own_rm 0 0 0 0) Z h0 #[(.ref vb), (.int (2 : Int32))] (Q_rmCfl2 Z vb kb LL h0 n0) := by
  refine own_met (plainFor_of_name pn_0) (fun m => ef_rmCfl2 m vb) ?_
  intro p e s m below meth c s₁ Φ hΦ X0 hx hby hml hown hnm hret hlk hZ e0
  have B : own_B p c _ _ := ⟨hx, hby, hml⟩
  show own_G p e below Φ s₁ (mkF m 0 #[vr vb, vi 2] [])
  refine o_iloadN X0 B d6_0 rfl ?_
  refine o_aloadN X0 B d6_1 rfl rfl ?_
  refine o_len X0 B hZ e0 V_vb d6_2 ?_
  refine o_isub X0 B d6_3 ?_
  refine o_bipush X0 B d6_4 ?_
  refine o_iushr X0 B d6_6 ?_
  refine o_i2b X0 B d6_7 ?_
  exact o_rZ X0 B hΦ hlk hret (by simp) d6_8 (0 : Int32) rfl e0 (by decide) (by decide) ⟨rfl, (Fr.nil n0), rfl⟩
theorem ef_rmCfl3 (m : MethodId) (vb : Addr) : entryFrame m #[(.ref vb), (.int (3 : Int32))] 2 = mkF m 0 #[vr vb, vi 3] [] := by first | (simp [entryFrame, mkF, argsToLocals, Value.category]; done) | rfl
def Q_rmCfl3 (Z : State) (vb : Addr) (kb : ClassId) (LL : List Int32) (h0 : Heap) (n0 : Nat) (v : Option Value) (h : Heap) (L : List Loc) : Prop := v = some (.int (0 : Int32)) ∧ Fr n0 L ∧ h = h0
theorem rmCfl3 (l : Launch) (Z : State) (a0 : Array Value) (hw : own_H Z a0) (ws : List Jvm.Cond) (vb : Addr) (kb : ClassId) (LL : List Int32) (h0 : Heap) (n0 : Nat) (Z0 : n0 ≤ h0.size) (V_vb : Arv Z h0 vb kb .byte (3 : Int32) (own_vs LL) (.int (0 : Int32))) :
    own_Met l mN2 kC2 2 (some .byte) ws (own_rm 0 0 0 0) Z h0 #[(.ref vb), (.int (3 : Int32))] (Q_rmCfl3 Z vb kb LL h0 n0) := by
  refine own_met (plainFor_of_name pn_0) (fun m => ef_rmCfl3 m vb) ?_
  intro p e s m below meth c s₁ Φ hΦ X0 hx hby hml hown hnm hret hlk hZ e0
  have B : own_B p c _ _ := ⟨hx, hby, hml⟩
  show own_G p e below Φ s₁ (mkF m 0 #[vr vb, vi 3] [])
  refine o_iloadN X0 B d6_0 rfl ?_
  refine o_aloadN X0 B d6_1 rfl rfl ?_
  refine o_len X0 B hZ e0 V_vb d6_2 ?_
  refine o_isub X0 B d6_3 ?_
  refine o_bipush X0 B d6_4 ?_
  refine o_iushr X0 B d6_6 ?_
  refine o_i2b X0 B d6_7 ?_
  exact o_rZ X0 B hΦ hlk hret (by simp) d6_8 (0 : Int32) rfl e0 (by decide) (by decide) ⟨rfl, (Fr.nil n0), rfl⟩
theorem d2_0 : dK kC3 0 (.aload_n 0) 1 := by decide +kernel
theorem d2_1 : dK kC3 1 (.invokespecial 1) 3 := by decide +kernel
theorem d2_4 : dK kC3 4 (.iload_n 3) 1 := by decide +kernel
theorem d2_5 : dK kC3 5 (.ifCond .ne 22) 3 := by decide +kernel
theorem d2_27 : dK kC3 27 (.getstatic 38) 3 := by decide +kernel
theorem d2_30 : dK kC3 30 (.ifCond .eq 28) 3 := by decide +kernel
theorem d2_33 : dK kC3 33 (.aload_n 1) 1 := by decide +kernel
theorem d2_34 : dK kC3 34 (.iload_n 2) 1 := by decide +kernel
theorem d2_35 : dK kC3 35 (.iload_n 3) 1 := by decide +kernel
theorem d2_36 : dK kC3 36 (.invokestatic 177) 3 := by decide +kernel
theorem pd_1 : parseMethodDescriptor "([CII)[B" = some ⟨[(.array .char), .int, .int], some (.array .byte)⟩ := by decide +kernel
theorem d2_39 : dK kC3 39 (.astore 5) 2 := by decide +kernel
theorem d2_41 : dK kC3 41 (.aload_n 0) 1 := by decide +kernel
theorem d2_42 : dK kC3 42 (.aload 5) 2 := by decide +kernel
theorem d2_44 : dK kC3 44 (.iload_n 3) 1 := by decide +kernel
theorem d2_45 : dK kC3 45 (.invokestatic 47) 3 := by decide +kernel
theorem pd_2 : parseMethodDescriptor "([BI)B" = some ⟨[(.array .byte), .int], some .byte⟩ := by decide +kernel
theorem d2_48 : dK kC3 48 (.putfield 15) 3 := by decide +kernel
theorem d2_51 : dK kC3 51 (.aload_n 0) 1 := by decide +kernel
theorem d2_52 : dK kC3 52 (.aload 5) 2 := by decide +kernel
theorem d2_54 : dK kC3 54 (.putfield 9) 3 := by decide +kernel
def sl_0 {Z : State} {a0 : Array Value} (hw : own_H Z a0) := slot_ne (C := "java/lang/String") (Or.inr (wd_29 hw)) (Or.inr (wd_27 hw)) (by decide) (t := (.array .byte)) (t' := .byte) (by decide) (by decide)
theorem d2_57 : dK kC3 57 .return_ 1 := by decide +kernel
def sl_1 {Z : State} {a0 : Array Value} (hw : own_H Z a0) := slot_ne (C := "java/lang/String") (Or.inr (wd_27 hw)) (Or.inr (wd_29 hw)) (by decide) (t := .byte) (t' := (.array .byte)) (by decide) (by decide)
theorem pn_1 : plainName "java/lang/String" = true := by first | (simp [plainName, overriddenIn]; done) | decide +kernel
theorem ef_rmIn2_1 (m : MethodId) (a1 : Addr) (ca : Addr) : entryFrame m #[(.ref a1), (.ref ca), (.int (0 : Int32)), (.int (1 : Int32)), .null] 6 = mkF m 0 #[vr a1, vr ca, vi 0, vi 1, .val .null, .unset] [] := by first | (simp [entryFrame, mkF, argsToLocals, Value.category]; done) | rfl
def Q_rmIn2_1 (Z : State) (a1 : Addr) (gz : Int32) (ca : Addr) (kc : ClassId) (c0 : Int32) (u1 : Value) (h0 : Heap) (n0 : Nat) (v : Option Value) (h : Heap) (L : List Loc) : Prop := ∃ vb : Addr, h0.size ≤ vb ∧ ∃ kb : ClassId, v = none ∧ Fr n0 L ∧ Keep h0 h [a1] ∧ fE1 Z h a1 ∧ fF1 Z h a1 (.ref vb) ∧ fF2 Z h a1 (.int (0 : Int32)) ∧ Arv Z h vb kb .byte (1 : Int32) [(.int (own_lo c0))] (.int (0 : Int32))
theorem rmIn2_1 (l : Launch) (Z : State) (a0 : Array Value) (hw : own_H Z a0) (ws : List Jvm.Cond) (a1 : Addr) (gz : Int32) (ca : Addr) (kc : ClassId) (c0 : Int32) (u1 : Value) (h0 : Heap) (n0 : Nat) (Z0 : n0 ≤ h0.size) (O0 : Old Z n0 h0) (S_COMPACT_STRINGS : Sta Z Z.heap "java/lang/String" "COMPACT_STRINGS" "Z" (.int gz)) (hgz : ¬ gz = (0 : Int32)) (E_a1 : fE1 Z h0 a1) (F_value_a1 : fF1 Z h0 a1 .null) (F_coder_a1 : fF2 Z h0 a1 u1) (g_a1 : n0 ≤ a1) (V_ca : Arv Z h0 ca kc .char (1 : Int32) [(.int c0)] (.int (0 : Int32))) (hl0 : ¬ (255 : Int32) < c0) :
    own_Met l mN4 kC3 6 none ws (own_rm 2 1 1 35) Z h0 #[(.ref a1), (.ref ca), (.int (0 : Int32)), (.int (1 : Int32)), .null] (Q_rmIn2_1 Z a1 gz ca kc c0 u1 h0 n0) := by
  refine own_met (plainFor_of_name pn_1) (fun m => ef_rmIn2_1 m a1 ca) ?_
  intro p e s m below meth c s₁ Φ hΦ X0 hx hby hml hown hnm hret hlk hZ e0
  have B : own_B p c _ _ := ⟨hx, hby, hml⟩
  have K0 : Keep h0 h0 [a1] := Keep.refl _ _
  show own_G p e below Φ s₁ (mkF m 0 #[vr a1, vr ca, vi 0, vi 1, .val .null, .unset] [])
  refine o_aloadN X0 B d2_0 rfl rfl ?_
  refine o_io X0 B hZ hown (wd_11 hw) (wd_12 hw) (wd_13 hw) e0 d2_1 (by decide) 0 rfl (by decide) rfl ?_
  intro T1 X1 e1
  refine o_iloadN X1 B d2_4 rfl ?_
  refine o_ifY X1 B 27 d2_5 (XT.i0_ne_t (by decide : ¬ ((1 : Int32) = (0 : Int32)))) rfl ?_
  refine o_gs X1 B hZ hown (wd_14 hw) Via.refl e1 (S_COMPACT_STRINGS.ext O0.2) d2_27 ?_
  intro T2 X2 e2
  refine o_ifN X2 B d2_30 (XT.i0_eq_f hgz) ?_
  refine o_aloadN X2 B d2_33 rfl rfl ?_
  refine o_iloadN X2 B d2_34 rfl ?_
  refine o_iloadN X2 B d2_35 rfl ?_
  refine o_cS (argsL := [(.ref ca), (.int (0 : Int32)), (.int (1 : Int32))]) (rest := []) X2 B hZ hown (wd_15 hw) (wd_16 hw) (wd_18 hw) (wd_17 hw) (by decide) 0 (rmCmp1 l Z a0 hw [] ca kc c0 h0 n0 Z0 V_ca hl0) (by decide) (by decide) (lenOf pd_1 rfl) rfl rfl rfl d2_36 e2 (by decide) (by decide) rfl ?_
  rintro _ T3 _ X3 ⟨vb_3, ns_vb_3, kb_3, rfl, N3q, Kq3, p3_0⟩
  have ne_a1_vb_3 : a1 ≠ vb_3 := Nat.ne_of_lt (Nat.lt_of_lt_of_le E_a1.lt ns_vb_3)
  have K3 := K0.trans Kq3 all0
  refine o_astore (L' := #[vr a1, vr ca, vi 0, vi 1, .val .null, vr vb_3]) X3 B d2_39 rfl rfl ?_
  refine o_aloadN X3 B d2_41 rfl rfl ?_
  refine o_aload X3 B d2_42 rfl rfl ?_
  refine o_iloadN X3 B d2_44 rfl ?_
  refine o_cS (argsL := [(.ref vb_3), (.int (1 : Int32))]) (rest := [(.ref a1)]) X3 B hZ hown (wd_23 hw) (wd_24 hw) (wd_25 hw) (wd_17 hw) (by decide) 1 (rmCfl1 l Z a0 hw [] vb_3 kb_3 ([(own_lo c0)]) T3.heap n0 (Nat.le_trans Z0 Kq3.1) p3_0) (by decide) (by decide) (lenOf pd_2 rfl) rfl rfl rfl d2_45 rfl (by decide) (by decide) rfl ?_
  rintro _ T5 _ X5 ⟨rfl, N5q, hs5⟩
  have f_2 := F_coder_a1.keep Kq3 nin0
  refine o_pfN (ty := .byte) (v' := (.int (0 : Int32))) X5 B hZ hown (wd_26 hw) Via.refl hs5 f_2 (E_a1.keep K3) (Or.inr ⟨(wd_27 hw), rfl, hnm⟩) (wd_2 hw) (by decide) rfl (fits_nar_byte (0 : Int32)) d2_48 ?_
  intro T6 h6 X6 e6 W6
  have K6 := K3.wr W6 (Or.inl (List.mem_of_getElem? (i := 0) rfl))
  have f6w := f_2.same W6
  refine o_aloadN X6 B d2_51 rfl rfl ?_
  refine o_aload X6 B d2_52 rfl rfl ?_
  have f_5 : fF1 Z h6 a1 .null := (F_value_a1.keep Kq3 nin0).other W6 (Or.inr (sl_0 hw))
  refine o_pf (ty := (.array .byte)) X6 B hZ hown (wd_28 hw) Via.refl e6 f_5 (E_a1.keep K6) (Or.inr ⟨(wd_29 hw), rfl, hnm⟩) (wd_2 hw) (by decide) rfl rfl d2_54 ?_
  intro T8 h8 X8 e8 W8
  have K8 := K6.wr W8 (Or.inl (List.mem_of_getElem? (i := 0) rfl))
  have f8w := f_5.same W8
  have f_7 : fF2 Z h8 a1 (.int (0 : Int32)) := f6w.other W8 (Or.inr (sl_1 hw))
  exact o_rV X8 B hΦ hlk hret d2_57 e8 (by decide) (by decide) ⟨vb_3, (Nat.le_trans K0.1 ns_vb_3), kb_3, rfl, (Fr.snoc X8 (Fr.snoc X6 (Fr.app (Fr.app (Fr.nil n0) N3q) N5q) g_a1) g_a1), K8, (E_a1.keep K8), f8w, f_7, ((p3_0.other W6 (Ne.symm ne_a1_vb_3)).other W8 (Ne.symm ne_a1_vb_3))⟩
theorem ef_rmIn2_2 (m : MethodId) (a1 : Addr) (ca : Addr) : entryFrame m #[(.ref a1), (.ref ca), (.int (0 : Int32)), (.int (2 : Int32)), .null] 6 = mkF m 0 #[vr a1, vr ca, vi 0, vi 2, .val .null, .unset] [] := by first | (simp [entryFrame, mkF, argsToLocals, Value.category]; done) | rfl
def Q_rmIn2_2 (Z : State) (a1 : Addr) (gz : Int32) (ca : Addr) (kc : ClassId) (c0 : Int32) (c1 : Int32) (u1 : Value) (h0 : Heap) (n0 : Nat) (v : Option Value) (h : Heap) (L : List Loc) : Prop := ∃ vb : Addr, h0.size ≤ vb ∧ ∃ kb : ClassId, v = none ∧ Fr n0 L ∧ Keep h0 h [a1] ∧ fE1 Z h a1 ∧ fF1 Z h a1 (.ref vb) ∧ fF2 Z h a1 (.int (0 : Int32)) ∧ Arv Z h vb kb .byte (2 : Int32) [(.int (own_lo c0)), (.int (own_lo c1))] (.int (0 : Int32))
theorem rmIn2_2 (l : Launch) (Z : State) (a0 : Array Value) (hw : own_H Z a0) (ws : List Jvm.Cond) (a1 : Addr) (gz : Int32) (ca : Addr) (kc : ClassId) (c0 : Int32) (c1 : Int32) (u1 : Value) (h0 : Heap) (n0 : Nat) (Z0 : n0 ≤ h0.size) (O0 : Old Z n0 h0) (S_COMPACT_STRINGS : Sta Z Z.heap "java/lang/String" "COMPACT_STRINGS" "Z" (.int gz)) (hgz : ¬ gz = (0 : Int32)) (E_a1 : fE1 Z h0 a1) (F_value_a1 : fF1 Z h0 a1 .null) (F_coder_a1 : fF2 Z h0 a1 u1) (g_a1 : n0 ≤ a1) (V_ca : Arv Z h0 ca kc .char (2 : Int32) [(.int c0), (.int c1)] (.int (0 : Int32))) (hl0 : ¬ (255 : Int32) < c0) (hl1 : ¬ (255 : Int32) < c1) :
    own_Met l mN4 kC3 6 none ws (own_rm 2 1 2 35) Z h0 #[(.ref a1), (.ref ca), (.int (0 : Int32)), (.int (2 : Int32)), .null] (Q_rmIn2_2 Z a1 gz ca kc c0 c1 u1 h0 n0) := by
  refine own_met (plainFor_of_name pn_1) (fun m => ef_rmIn2_2 m a1 ca) ?_
  intro p e s m below meth c s₁ Φ hΦ X0 hx hby hml hown hnm hret hlk hZ e0
  have B : own_B p c _ _ := ⟨hx, hby, hml⟩
  have K0 : Keep h0 h0 [a1] := Keep.refl _ _
  show own_G p e below Φ s₁ (mkF m 0 #[vr a1, vr ca, vi 0, vi 2, .val .null, .unset] [])
  refine o_aloadN X0 B d2_0 rfl rfl ?_
  refine o_io X0 B hZ hown (wd_11 hw) (wd_12 hw) (wd_13 hw) e0 d2_1 (by decide) 0 rfl (by decide) rfl ?_
  intro T1 X1 e1
  refine o_iloadN X1 B d2_4 rfl ?_
  refine o_ifY X1 B 27 d2_5 (XT.i0_ne_t (by decide : ¬ ((2 : Int32) = (0 : Int32)))) rfl ?_
  refine o_gs X1 B hZ hown (wd_14 hw) Via.refl e1 (S_COMPACT_STRINGS.ext O0.2) d2_27 ?_
  intro T2 X2 e2
  refine o_ifN X2 B d2_30 (XT.i0_eq_f hgz) ?_
  refine o_aloadN X2 B d2_33 rfl rfl ?_
  refine o_iloadN X2 B d2_34 rfl ?_
  refine o_iloadN X2 B d2_35 rfl ?_
  refine o_cS (argsL := [(.ref ca), (.int (0 : Int32)), (.int (2 : Int32))]) (rest := []) X2 B hZ hown (wd_15 hw) (wd_16 hw) (wd_18 hw) (wd_17 hw) (by decide) 0 (rmCmp2 l Z a0 hw [] ca kc c0 c1 h0 n0 Z0 V_ca hl0 hl1) (by decide) (by decide) (lenOf pd_1 rfl) rfl rfl rfl d2_36 e2 (by decide) (by decide) rfl ?_
  rintro _ T3 _ X3 ⟨vb_3, ns_vb_3, kb_3, rfl, N3q, Kq3, p3_0⟩
  have ne_a1_vb_3 : a1 ≠ vb_3 := Nat.ne_of_lt (Nat.lt_of_lt_of_le E_a1.lt ns_vb_3)
  have K3 := K0.trans Kq3 all0
  refine o_astore (L' := #[vr a1, vr ca, vi 0, vi 2, .val .null, vr vb_3]) X3 B d2_39 rfl rfl ?_
  refine o_aloadN X3 B d2_41 rfl rfl ?_
  refine o_aload X3 B d2_42 rfl rfl ?_
  refine o_iloadN X3 B d2_44 rfl ?_
  refine o_cS (argsL := [(.ref vb_3), (.int (2 : Int32))]) (rest := [(.ref a1)]) X3 B hZ hown (wd_23 hw) (wd_24 hw) (wd_25 hw) (wd_17 hw) (by decide) 1 (rmCfl2 l Z a0 hw [] vb_3 kb_3 ([(own_lo c0), (own_lo c1)]) T3.heap n0 (Nat.le_trans Z0 Kq3.1) p3_0) (by decide) (by decide) (lenOf pd_2 rfl) rfl rfl rfl d2_45 rfl (by decide) (by decide) rfl ?_
  rintro _ T5 _ X5 ⟨rfl, N5q, hs5⟩
  have f_2 := F_coder_a1.keep Kq3 nin0
  refine o_pfN (ty := .byte) (v' := (.int (0 : Int32))) X5 B hZ hown (wd_26 hw) Via.refl hs5 f_2 (E_a1.keep K3) (Or.inr ⟨(wd_27 hw), rfl, hnm⟩) (wd_2 hw) (by decide) rfl (fits_nar_byte (0 : Int32)) d2_48 ?_
  intro T6 h6 X6 e6 W6
  have K6 := K3.wr W6 (Or.inl (List.mem_of_getElem? (i := 0) rfl))
  have f6w := f_2.same W6
  refine o_aloadN X6 B d2_51 rfl rfl ?_
  refine o_aload X6 B d2_52 rfl rfl ?_
  have f_5 : fF1 Z h6 a1 .null := (F_value_a1.keep Kq3 nin0).other W6 (Or.inr (sl_0 hw))
  refine o_pf (ty := (.array .byte)) X6 B hZ hown (wd_28 hw) Via.refl e6 f_5 (E_a1.keep K6) (Or.inr ⟨(wd_29 hw), rfl, hnm⟩) (wd_2 hw) (by decide) rfl rfl d2_54 ?_
  intro T8 h8 X8 e8 W8
  have K8 := K6.wr W8 (Or.inl (List.mem_of_getElem? (i := 0) rfl))
  have f8w := f_5.same W8
  have f_7 : fF2 Z h8 a1 (.int (0 : Int32)) := f6w.other W8 (Or.inr (sl_1 hw))
  exact o_rV X8 B hΦ hlk hret d2_57 e8 (by decide) (by decide) ⟨vb_3, (Nat.le_trans K0.1 ns_vb_3), kb_3, rfl, (Fr.snoc X8 (Fr.snoc X6 (Fr.app (Fr.app (Fr.nil n0) N3q) N5q) g_a1) g_a1), K8, (E_a1.keep K8), f8w, f_7, ((p3_0.other W6 (Ne.symm ne_a1_vb_3)).other W8 (Ne.symm ne_a1_vb_3))⟩
theorem ef_rmIn2_3 (m : MethodId) (a1 : Addr) (ca : Addr) : entryFrame m #[(.ref a1), (.ref ca), (.int (0 : Int32)), (.int (3 : Int32)), .null] 6 = mkF m 0 #[vr a1, vr ca, vi 0, vi 3, .val .null, .unset] [] := by first | (simp [entryFrame, mkF, argsToLocals, Value.category]; done) | rfl
def Q_rmIn2_3 (Z : State) (a1 : Addr) (gz : Int32) (ca : Addr) (kc : ClassId) (c0 : Int32) (c1 : Int32) (c2 : Int32) (u1 : Value) (h0 : Heap) (n0 : Nat) (v : Option Value) (h : Heap) (L : List Loc) : Prop := ∃ vb : Addr, h0.size ≤ vb ∧ ∃ kb : ClassId, v = none ∧ Fr n0 L ∧ Keep h0 h [a1] ∧ fE1 Z h a1 ∧ fF1 Z h a1 (.ref vb) ∧ fF2 Z h a1 (.int (0 : Int32)) ∧ Arv Z h vb kb .byte (3 : Int32) [(.int (own_lo c0)), (.int (own_lo c1)), (.int (own_lo c2))] (.int (0 : Int32))
theorem rmIn2_3 (l : Launch) (Z : State) (a0 : Array Value) (hw : own_H Z a0) (ws : List Jvm.Cond) (a1 : Addr) (gz : Int32) (ca : Addr) (kc : ClassId) (c0 : Int32) (c1 : Int32) (c2 : Int32) (u1 : Value) (h0 : Heap) (n0 : Nat) (Z0 : n0 ≤ h0.size) (O0 : Old Z n0 h0) (S_COMPACT_STRINGS : Sta Z Z.heap "java/lang/String" "COMPACT_STRINGS" "Z" (.int gz)) (hgz : ¬ gz = (0 : Int32)) (E_a1 : fE1 Z h0 a1) (F_value_a1 : fF1 Z h0 a1 .null) (F_coder_a1 : fF2 Z h0 a1 u1) (g_a1 : n0 ≤ a1) (V_ca : Arv Z h0 ca kc .char (3 : Int32) [(.int c0), (.int c1), (.int c2)] (.int (0 : Int32))) (hl0 : ¬ (255 : Int32) < c0) (hl1 : ¬ (255 : Int32) < c1) (hl2 : ¬ (255 : Int32) < c2) :
    own_Met l mN4 kC3 6 none ws (own_rm 2 1 3 35) Z h0 #[(.ref a1), (.ref ca), (.int (0 : Int32)), (.int (3 : Int32)), .null] (Q_rmIn2_3 Z a1 gz ca kc c0 c1 c2 u1 h0 n0) := by
  refine own_met (plainFor_of_name pn_1) (fun m => ef_rmIn2_3 m a1 ca) ?_
  intro p e s m below meth c s₁ Φ hΦ X0 hx hby hml hown hnm hret hlk hZ e0
  have B : own_B p c _ _ := ⟨hx, hby, hml⟩
  have K0 : Keep h0 h0 [a1] := Keep.refl _ _
  show own_G p e below Φ s₁ (mkF m 0 #[vr a1, vr ca, vi 0, vi 3, .val .null, .unset] [])
  refine o_aloadN X0 B d2_0 rfl rfl ?_
  refine o_io X0 B hZ hown (wd_11 hw) (wd_12 hw) (wd_13 hw) e0 d2_1 (by decide) 0 rfl (by decide) rfl ?_
  intro T1 X1 e1
  refine o_iloadN X1 B d2_4 rfl ?_
  refine o_ifY X1 B 27 d2_5 (XT.i0_ne_t (by decide : ¬ ((3 : Int32) = (0 : Int32)))) rfl ?_
  refine o_gs X1 B hZ hown (wd_14 hw) Via.refl e1 (S_COMPACT_STRINGS.ext O0.2) d2_27 ?_
  intro T2 X2 e2
  refine o_ifN X2 B d2_30 (XT.i0_eq_f hgz) ?_
  refine o_aloadN X2 B d2_33 rfl rfl ?_
  refine o_iloadN X2 B d2_34 rfl ?_
  refine o_iloadN X2 B d2_35 rfl ?_
  refine o_cS (argsL := [(.ref ca), (.int (0 : Int32)), (.int (3 : Int32))]) (rest := []) X2 B hZ hown (wd_15 hw) (wd_16 hw) (wd_18 hw) (wd_17 hw) (by decide) 0 (rmCmp3 l Z a0 hw [] ca kc c0 c1 c2 h0 n0 Z0 V_ca hl0 hl1 hl2) (by decide) (by decide) (lenOf pd_1 rfl) rfl rfl rfl d2_36 e2 (by decide) (by decide) rfl ?_
  rintro _ T3 _ X3 ⟨vb_3, ns_vb_3, kb_3, rfl, N3q, Kq3, p3_0⟩
  have ne_a1_vb_3 : a1 ≠ vb_3 := Nat.ne_of_lt (Nat.lt_of_lt_of_le E_a1.lt ns_vb_3)
  have K3 := K0.trans Kq3 all0
  refine o_astore (L' := #[vr a1, vr ca, vi 0, vi 3, .val .null, vr vb_3]) X3 B d2_39 rfl rfl ?_
  refine o_aloadN X3 B d2_41 rfl rfl ?_
  refine o_aload X3 B d2_42 rfl rfl ?_
  refine o_iloadN X3 B d2_44 rfl ?_
  refine o_cS (argsL := [(.ref vb_3), (.int (3 : Int32))]) (rest := [(.ref a1)]) X3 B hZ hown (wd_23 hw) (wd_24 hw) (wd_25 hw) (wd_17 hw) (by decide) 1 (rmCfl3 l Z a0 hw [] vb_3 kb_3 ([(own_lo c0), (own_lo c1), (own_lo c2)]) T3.heap n0 (Nat.le_trans Z0 Kq3.1) p3_0) (by decide) (by decide) (lenOf pd_2 rfl) rfl rfl rfl d2_45 rfl (by decide) (by decide) rfl ?_
  rintro _ T5 _ X5 ⟨rfl, N5q, hs5⟩
  have f_2 := F_coder_a1.keep Kq3 nin0
  refine o_pfN (ty := .byte) (v' := (.int (0 : Int32))) X5 B hZ hown (wd_26 hw) Via.refl hs5 f_2 (E_a1.keep K3) (Or.inr ⟨(wd_27 hw), rfl, hnm⟩) (wd_2 hw) (by decide) rfl (fits_nar_byte (0 : Int32)) d2_48 ?_
  intro T6 h6 X6 e6 W6
  have K6 := K3.wr W6 (Or.inl (List.mem_of_getElem? (i := 0) rfl))
  have f6w := f_2.same W6
  refine o_aloadN X6 B d2_51 rfl rfl ?_
  refine o_aload X6 B d2_52 rfl rfl ?_
  have f_5 : fF1 Z h6 a1 .null := (F_value_a1.keep Kq3 nin0).other W6 (Or.inr (sl_0 hw))
  refine o_pf (ty := (.array .byte)) X6 B hZ hown (wd_28 hw) Via.refl e6 f_5 (E_a1.keep K6) (Or.inr ⟨(wd_29 hw), rfl, hnm⟩) (wd_2 hw) (by decide) rfl rfl d2_54 ?_
  intro T8 h8 X8 e8 W8
  have K8 := K6.wr W8 (Or.inl (List.mem_of_getElem? (i := 0) rfl))
  have f8w := f_5.same W8
  have f_7 : fF2 Z h8 a1 (.int (0 : Int32)) := f6w.other W8 (Or.inr (sl_1 hw))
  exact o_rV X8 B hΦ hlk hret d2_57 e8 (by decide) (by decide) ⟨vb_3, (Nat.le_trans K0.1 ns_vb_3), kb_3, rfl, (Fr.snoc X8 (Fr.snoc X6 (Fr.app (Fr.app (Fr.nil n0) N3q) N5q) g_a1) g_a1), K8, (E_a1.keep K8), f8w, f_7, ((p3_0.other W6 (Ne.symm ne_a1_vb_3)).other W8 (Ne.symm ne_a1_vb_3))⟩
theorem d1_0 : dK kC5 0 (.aload_n 0) 1 := by decide +kernel
theorem d1_1 : dK kC5 1 (.aload_n 1) 1 := by decide +kernel
theorem d1_2 : dK kC5 2 (.iconst 0) 1 := by decide +kernel
theorem d1_3 : dK kC5 3 (.aload_n 1) 1 := by decide +kernel
theorem d1_4 : dK kC5 4 .arraylength 1 := by decide +kernel
theorem d1_5 : dK kC5 5 .aconst_null 1 := by decide +kernel
theorem d1_6 : dK kC5 6 (.invokespecial 27) 3 := by decide +kernel
theorem pd_3 : parseMethodDescriptor "([CIILjava/lang/Void;)V" = some ⟨[(.array .char), .int, .int, (.object "java/lang/Void")], none⟩ := by decide +kernel
theorem d1_9 : dK kC5 9 .return_ 1 := by decide +kernel
theorem ef_rmIn1_1 (m : MethodId) (a1 : Addr) (ca : Addr) : entryFrame m #[(.ref a1), (.ref ca)] 2 = mkF m 0 #[vr a1, vr ca] [] := by first | (simp [entryFrame, mkF, argsToLocals, Value.category]; done) | rfl
def Q_rmIn1_1 (Z : State) (a1 : Addr) (gz : Int32) (ca : Addr) (kc : ClassId) (c0 : Int32) (u1 : Value) (h0 : Heap) (n0 : Nat) (v : Option Value) (h : Heap) (L : List Loc) : Prop := ∃ vb : Addr, h0.size ≤ vb ∧ ∃ kb : ClassId, v = none ∧ Fr n0 L ∧ Keep h0 h [a1] ∧ fE1 Z h a1 ∧ fF1 Z h a1 (.ref vb) ∧ fF2 Z h a1 (.int (0 : Int32)) ∧ Arv Z h vb kb .byte (1 : Int32) [(.int (own_lo c0))] (.int (0 : Int32))
theorem rmIn1_1 (l : Launch) (Z : State) (a0 : Array Value) (hw : own_H Z a0) (ws : List Jvm.Cond) (a1 : Addr) (gz : Int32) (ca : Addr) (kc : ClassId) (c0 : Int32) (u1 : Value) (h0 : Heap) (n0 : Nat) (Z0 : n0 ≤ h0.size) (O0 : Old Z n0 h0) (S_COMPACT_STRINGS : Sta Z Z.heap "java/lang/String" "COMPACT_STRINGS" "Z" (.int gz)) (hgz : ¬ gz = (0 : Int32)) (E_a1 : fE1 Z h0 a1) (F_value_a1 : fF1 Z h0 a1 .null) (F_coder_a1 : fF2 Z h0 a1 u1) (g_a1 : n0 ≤ a1) (V_ca : Arv Z h0 ca kc .char (1 : Int32) [(.int c0)] (.int (0 : Int32))) (hl0 : ¬ (255 : Int32) < c0) :
    own_Met l mN5 kC5 2 none ws (own_rm 3 1 1 52) Z h0 #[(.ref a1), (.ref ca)] (Q_rmIn1_1 Z a1 gz ca kc c0 u1 h0 n0) := by
  refine own_met (plainFor_of_name pn_1) (fun m => ef_rmIn1_1 m a1 ca) ?_
  intro p e s m below meth c s₁ Φ hΦ X0 hx hby hml hown hnm hret hlk hZ e0
  have B : own_B p c _ _ := ⟨hx, hby, hml⟩
  have K0 : Keep h0 h0 [a1] := Keep.refl _ _
  show own_G p e below Φ s₁ (mkF m 0 #[vr a1, vr ca] [])
  refine o_aloadN X0 B d1_0 rfl rfl ?_
  refine o_aloadN X0 B d1_1 rfl rfl ?_
  refine o_iconst X0 B d1_2 ?_
  refine o_aloadN X0 B d1_3 rfl rfl ?_
  refine o_len X0 B hZ e0 V_ca d1_4 ?_
  refine o_anull X0 B d1_5 ?_
  refine o_cI (argsL := [(.ref ca), (.int (0 : Int32)), (.int (1 : Int32)), .null]) (rest := []) X0 B hZ hown rfl (wd_7 hw) (wd_8 hw) (wd_10 hw) (wd_3 hw) (by decide) rfl 0 (rmIn2_1 l Z a0 hw [] a1 gz ca kc c0 u1 h0 n0 Z0 O0 S_COMPACT_STRINGS hgz E_a1 F_value_a1 F_coder_a1 g_a1 V_ca hl0) (by decide) (by decide) (lenOf pd_3 rfl) rfl rfl rfl d1_6 e0 (by decide) (by decide) rfl ?_
  rintro _ T1 _ X1 ⟨vb_1, ns_vb_1, kb_1, rfl, N1q, Kq1, p1_0, p1_1, p1_2, p1_3⟩
  have K1 := K0.trans Kq1 (allS (Or.inl (List.mem_of_getElem? (i := 0) rfl)) all0)
  exact o_rV X1 B hΦ hlk hret d1_9 rfl (by decide) (by decide) ⟨vb_1, (Nat.le_trans K0.1 ns_vb_1), kb_1, rfl, (Fr.app (Fr.nil n0) N1q), K1, p1_0, p1_1, p1_2, p1_3⟩
theorem ef_rmIn1_2 (m : MethodId) (a1 : Addr) (ca : Addr) : entryFrame m #[(.ref a1), (.ref ca)] 2 = mkF m 0 #[vr a1, vr ca] [] := by first | (simp [entryFrame, mkF, argsToLocals, Value.category]; done) | rfl
def Q_rmIn1_2 (Z : State) (a1 : Addr) (gz : Int32) (ca : Addr) (kc : ClassId) (c0 : Int32) (c1 : Int32) (u1 : Value) (h0 : Heap) (n0 : Nat) (v : Option Value) (h : Heap) (L : List Loc) : Prop := ∃ vb : Addr, h0.size ≤ vb ∧ ∃ kb : ClassId, v = none ∧ Fr n0 L ∧ Keep h0 h [a1] ∧ fE1 Z h a1 ∧ fF1 Z h a1 (.ref vb) ∧ fF2 Z h a1 (.int (0 : Int32)) ∧ Arv Z h vb kb .byte (2 : Int32) [(.int (own_lo c0)), (.int (own_lo c1))] (.int (0 : Int32))
theorem rmIn1_2 (l : Launch) (Z : State) (a0 : Array Value) (hw : own_H Z a0) (ws : List Jvm.Cond) (a1 : Addr) (gz : Int32) (ca : Addr) (kc : ClassId) (c0 : Int32) (c1 : Int32) (u1 : Value) (h0 : Heap) (n0 : Nat) (Z0 : n0 ≤ h0.size) (O0 : Old Z n0 h0) (S_COMPACT_STRINGS : Sta Z Z.heap "java/lang/String" "COMPACT_STRINGS" "Z" (.int gz)) (hgz : ¬ gz = (0 : Int32)) (E_a1 : fE1 Z h0 a1) (F_value_a1 : fF1 Z h0 a1 .null) (F_coder_a1 : fF2 Z h0 a1 u1) (g_a1 : n0 ≤ a1) (V_ca : Arv Z h0 ca kc .char (2 : Int32) [(.int c0), (.int c1)] (.int (0 : Int32))) (hl0 : ¬ (255 : Int32) < c0) (hl1 : ¬ (255 : Int32) < c1) :
    own_Met l mN5 kC5 2 none ws (own_rm 3 1 2 52) Z h0 #[(.ref a1), (.ref ca)] (Q_rmIn1_2 Z a1 gz ca kc c0 c1 u1 h0 n0) := by
  refine own_met (plainFor_of_name pn_1) (fun m => ef_rmIn1_2 m a1 ca) ?_
  intro p e s m below meth c s₁ Φ hΦ X0 hx hby hml hown hnm hret hlk hZ e0
  have B : own_B p c _ _ := ⟨hx, hby, hml⟩
  have K0 : Keep h0 h0 [a1] := Keep.refl _ _
  show own_G p e below Φ s₁ (mkF m 0 #[vr a1, vr ca] [])
  refine o_aloadN X0 B d1_0 rfl rfl ?_
  refine o_aloadN X0 B d1_1 rfl rfl ?_
  refine o_iconst X0 B d1_2 ?_
  refine o_aloadN X0 B d1_3 rfl rfl ?_
  refine o_len X0 B hZ e0 V_ca d1_4 ?_
  refine o_anull X0 B d1_5 ?_
  refine o_cI (argsL := [(.ref ca), (.int (0 : Int32)), (.int (2 : Int32)), .null]) (rest := []) X0 B hZ hown rfl (wd_7 hw) (wd_8 hw) (wd_10 hw) (wd_3 hw) (by decide) rfl 0 (rmIn2_2 l Z a0 hw [] a1 gz ca kc c0 c1 u1 h0 n0 Z0 O0 S_COMPACT_STRINGS hgz E_a1 F_value_a1 F_coder_a1 g_a1 V_ca hl0 hl1) (by decide) (by decide) (lenOf pd_3 rfl) rfl rfl rfl d1_6 e0 (by decide) (by decide) rfl ?_
  rintro _ T1 _ X1 ⟨vb_1, ns_vb_1, kb_1, rfl, N1q, Kq1, p1_0, p1_1, p1_2, p1_3⟩
  have K1 := K0.trans Kq1 (allS (Or.inl (List.mem_of_getElem? (i := 0) rfl)) all0)
  exact o_rV X1 B hΦ hlk hret d1_9 rfl (by decide) (by decide) ⟨vb_1, (Nat.le_trans K0.1 ns_vb_1), kb_1, rfl, (Fr.app (Fr.nil n0) N1q), K1, p1_0, p1_1, p1_2, p1_3⟩
theorem ef_rmIn1_3 (m : MethodId) (a1 : Addr) (ca : Addr) : entryFrame m #[(.ref a1), (.ref ca)] 2 = mkF m 0 #[vr a1, vr ca] [] := by first | (simp [entryFrame, mkF, argsToLocals, Value.category]; done) | rfl
def Q_rmIn1_3 (Z : State) (a1 : Addr) (gz : Int32) (ca : Addr) (kc : ClassId) (c0 : Int32) (c1 : Int32) (c2 : Int32) (u1 : Value) (h0 : Heap) (n0 : Nat) (v : Option Value) (h : Heap) (L : List Loc) : Prop := ∃ vb : Addr, h0.size ≤ vb ∧ ∃ kb : ClassId, v = none ∧ Fr n0 L ∧ Keep h0 h [a1] ∧ fE1 Z h a1 ∧ fF1 Z h a1 (.ref vb) ∧ fF2 Z h a1 (.int (0 : Int32)) ∧ Arv Z h vb kb .byte (3 : Int32) [(.int (own_lo c0)), (.int (own_lo c1)), (.int (own_lo c2))] (.int (0 : Int32))
theorem rmIn1_3 (l : Launch) (Z : State) (a0 : Array Value) (hw : own_H Z a0) (ws : List Jvm.Cond) (a1 : Addr) (gz : Int32) (ca : Addr) (kc : ClassId) (c0 : Int32) (c1 : Int32) (c2 : Int32) (u1 : Value) (h0 : Heap) (n0 : Nat) (Z0 : n0 ≤ h0.size) (O0 : Old Z n0 h0) (S_COMPACT_STRINGS : Sta Z Z.heap "java/lang/String" "COMPACT_STRINGS" "Z" (.int gz)) (hgz : ¬ gz = (0 : Int32)) (E_a1 : fE1 Z h0 a1) (F_value_a1 : fF1 Z h0 a1 .null) (F_coder_a1 : fF2 Z h0 a1 u1) (g_a1 : n0 ≤ a1) (V_ca : Arv Z h0 ca kc .char (3 : Int32) [(.int c0), (.int c1), (.int c2)] (.int (0 : Int32))) (hl0 : ¬ (255 : Int32) < c0) (hl1 : ¬ (255 : Int32) < c1) (hl2 : ¬ (255 : Int32) < c2) :
    own_Met l mN5 kC5 2 none ws (own_rm 3 1 3 52) Z h0 #[(.ref a1), (.ref ca)] (Q_rmIn1_3 Z a1 gz ca kc c0 c1 c2 u1 h0 n0) := by
  refine own_met (plainFor_of_name pn_1) (fun m => ef_rmIn1_3 m a1 ca) ?_
  intro p e s m below meth c s₁ Φ hΦ X0 hx hby hml hown hnm hret hlk hZ e0
  have B : own_B p c _ _ := ⟨hx, hby, hml⟩
  have K0 : Keep h0 h0 [a1] := Keep.refl _ _
  show own_G p e below Φ s₁ (mkF m 0 #[vr a1, vr ca] [])
  refine o_aloadN X0 B d1_0 rfl rfl ?_
  refine o_aloadN X0 B d1_1 rfl rfl ?_
  refine o_iconst X0 B d1_2 ?_
  refine o_aloadN X0 B d1_3 rfl rfl ?_
  refine o_len X0 B hZ e0 V_ca d1_4 ?_
  refine o_anull X0 B d1_5 ?_
  refine o_cI (argsL := [(.ref ca), (.int (0 : Int32)), (.int (3 : Int32)), .null]) (rest := []) X0 B hZ hown rfl (wd_7 hw) (wd_8 hw) (wd_10 hw) (wd_3 hw) (by decide) rfl 0 (rmIn2_3 l Z a0 hw [] a1 gz ca kc c0 c1 c2 u1 h0 n0 Z0 O0 S_COMPACT_STRINGS hgz E_a1 F_value_a1 F_coder_a1 g_a1 V_ca hl0 hl1 hl2) (by decide) (by decide) (lenOf pd_3 rfl) rfl rfl rfl d1_6 e0 (by decide) (by decide) rfl ?_
  rintro _ T1 _ X1 ⟨vb_1, ns_vb_1, kb_1, rfl, N1q, Kq1, p1_0, p1_1, p1_2, p1_3⟩
  have K1 := K0.trans Kq1 (allS (Or.inl (List.mem_of_getElem? (i := 0) rfl)) all0)
  exact o_rV X1 B hΦ hlk hret d1_9 rfl (by decide) (by decide) ⟨vb_1, (Nat.le_trans K0.1 ns_vb_1), kb_1, rfl, (Fr.app (Fr.nil n0) N1q), K1, p1_0, p1_1, p1_2, p1_3⟩
theorem d8_0 : dK kC6 0 (.iload_n 0) 1 := by decide +kernel
theorem d8_1 : dK kC6 1 (.sipush 255) 3 := by decide +kernel
theorem d8_4 : dK kC6 4 (.if_icmp .gt 7) 3 := by decide +kernel
theorem d8_7 : dK kC6 7 (.iconst 1) 1 := by decide +kernel
theorem d8_8 : dK kC6 8 (.goto 4) 3 := by decide +kernel
theorem d8_12 : dK kC6 12 .ireturn 1 := by decide +kernel
theorem pn_2 : plainName "java/lang/StringLatin1" = true := by first | (simp [plainName, overriddenIn]; done) | decide +kernel
theorem ef_rmCan (m : MethodId) (c0 : Int32) : entryFrame m #[(.int c0)] 1 = mkF m 0 #[vi c0] [] := by first | (simp [entryFrame, mkF, argsToLocals, Value.category]; done) | rfl
def Q_rmCan (Z : State) (c0 : Int32) (h0 : Heap) (n0 : Nat) (v : Option Value) (h : Heap) (L : List Loc) : Prop := v = some (.int (1 : Int32)) ∧ Fr n0 L ∧ h = h0
theorem rmCan (l : Launch) (Z : State) (a0 : Array Value) (hw : own_H Z a0) (ws : List Jvm.Cond) (c0 : Int32) (h0 : Heap) (n0 : Nat) (Z0 : n0 ≤ h0.size) (hl0 : ¬ (255 : Int32) < c0) :
    own_Met l mN6 kC6 1 (some .boolean) ws (own_rm 0 0 0 0) Z h0 #[(.int c0)] (Q_rmCan Z c0 h0 n0) := by
  refine own_met (plainFor_of_name pn_2) (fun m => ef_rmCan m c0) ?_
  intro p e s m below meth c s₁ Φ hΦ X0 hx hby hml hown hnm hret hlk hZ e0
  have B : own_B p c _ _ := ⟨hx, hby, hml⟩
  show own_G p e below Φ s₁ (mkF m 0 #[vi c0] [])
  refine o_iloadN X0 B d8_0 rfl ?_
  refine o_sipush X0 B d8_1 ?_
  refine o_icN X0 B d8_4 (XT.ii_gt_f hl0) ?_
  refine o_iconst X0 B d8_7 ?_
  refine o_goto X0 B 12 d8_8 rfl ?_
  exact o_rZ X0 B hΦ hlk hret (by simp) d8_12 (1 : Int32) rfl e0 (by decide) (by decide) ⟨rfl, (Fr.nil n0), rfl⟩
theorem d9_0 : dK kC7 0 (.iconst 1) 1 := by decide +kernel
theorem d9_1 : dK kC7 1 (.newarray .byte) 2 := by decide +kernel
theorem d9_3 : dK kC7 3 .dup 1 := by decide +kernel
theorem d9_4 : dK kC7 4 (.iconst 0) 1 := by decide +kernel
theorem d9_5 : dK kC7 5 (.iload_n 0) 1 := by decide +kernel
theorem d9_6 : dK kC7 6 .i2b 1 := by decide +kernel
theorem d9_7 : dK kC7 7 .bastore 1 := by decide +kernel
theorem d9_8 : dK kC7 8 .areturn 1 := by decide +kernel
theorem ef_rmTb1 (m : MethodId) (c0 : Int32) : entryFrame m #[(.int c0)] 1 = mkF m 0 #[vi c0] [] := by first | (simp [entryFrame, mkF, argsToLocals, Value.category]; done) | rfl
def Q_rmTb1 (Z : State) (c0 : Int32) (h0 : Heap) (n0 : Nat) (v : Option Value) (h : Heap) (L : List Loc) : Prop := ∃ vb : Addr, h0.size ≤ vb ∧ ∃ kb : ClassId, v = some (.ref vb) ∧ Fr n0 L ∧ Keep h0 h [] ∧ Arv Z h vb kb .byte (1 : Int32) [(.int (own_lo c0))] (.int (0 : Int32))
theorem rmTb1 (l : Launch) (Z : State) (a0 : Array Value) (hw : own_H Z a0) (ws : List Jvm.Cond) (c0 : Int32) (h0 : Heap) (n0 : Nat) (Z0 : n0 ≤ h0.size)  :
    own_Met l mN7 kC7 1 (some (.array .byte)) ws (own_rm 0 1 1 0) Z h0 #[(.int c0)] (Q_rmTb1 Z c0 h0 n0) := by
  refine own_met (plainFor_of_name pn_2) (fun m => ef_rmTb1 m c0) ?_
  intro p e s m below meth c s₁ Φ hΦ X0 hx hby hml hown hnm hret hlk hZ e0
  have B : own_B p c _ _ := ⟨hx, hby, hml⟩
  have K0 : Keep h0 h0 [] := Keep.refl _ _
  show own_G p e below Φ s₁ (mkF m 0 #[vi c0] [])
  refine o_iconst X0 B d9_0 ?_
  refine o_np (aty := .byte) X0 B hZ (wd_19 hw) e0 d9_1 (by decide) 1 (by decide) (by decide) (by decide) (by decide) ?_
  intro T1 h1 ka1 ob1 g1 X1 e1 E1 V1'
  have sz_ob1 : h0.size ≤ ob1 := Nat.le_trans K0.1 (Nat.le_of_eq g1.symm)
  have K1 := K0.ext E1
  have V1 : Arv Z h1 ob1 ka1 .byte (1 : Int32) [(.int (0 : Int32))] (.int (0 : Int32)) := V1'
  refine o_dup X1 B d9_3 rfl ?_
  refine o_iconst X1 B d9_4 ?_
  refine o_iloadN X1 B d9_5 rfl ?_
  refine o_i2b X1 B d9_6 ?_
  refine o_bst X1 B hZ e1 V1 ⟨by decide, by decide⟩ 0 rfl (Nat.le_of_ble_eq_true rfl) d9_7 ?_
  intro T2 h2 X2 e2 W2 V2'
  have V2 : Arv Z h2 ob1 ka1 .byte (1 : Int32) [(.int (nar .byte (c0.toInt8.toInt32)))] (.int (0 : Int32)) := V2'
  have K2 := K1.wr W2 (Or.inr sz_ob1)
  exact o_rA X2 B hΦ hlk hret rfl rfl d9_8 e2 (by decide) (by decide) ⟨ob1, sz_ob1, ka1, rfl, (Fr.snoc X2 (Fr.nil n0) (Nat.le_trans Z0 (Nat.le_of_eq g1.symm))), K2, V2⟩
theorem d10_0 : dK kC8 0 (.aload_n 0) 1 := by decide +kernel
theorem d10_1 : dK kC8 1 (.invokespecial 1) 3 := by decide +kernel
theorem d10_4 : dK kC8 4 (.aload_n 0) 1 := by decide +kernel
theorem d10_5 : dK kC8 5 (.aload_n 1) 1 := by decide +kernel
theorem d10_6 : dK kC8 6 (.putfield 9) 3 := by decide +kernel
theorem d10_9 : dK kC8 9 (.aload_n 0) 1 := by decide +kernel
theorem d10_10 : dK kC8 10 (.iload_n 2) 1 := by decide +kernel
theorem d10_11 : dK kC8 11 (.putfield 15) 3 := by decide +kernel
theorem d10_14 : dK kC8 14 .return_ 1 := by decide +kernel
def sl_2 {Z : State} {a0 : Array Value} (hw : own_H Z a0) := slot_ne (C := "java/lang/String") (Or.inl (wd_166 hw)) (Or.inr (wd_29 hw)) (by decide) (t := .int) (t' := (.array .byte)) (by decide) (by decide)
def sl_3 {Z : State} {a0 : Array Value} (hw : own_H Z a0) := slot_ne (C := "java/lang/String") (Or.inl (wd_166 hw)) (Or.inr (wd_27 hw)) (by decide) (t := .int) (t' := .byte) (by decide) (by decide)
def sl_4 {Z : State} {a0 : Array Value} (hw : own_H Z a0) := slot_ne (C := "java/lang/String") (Or.inl (wd_168 hw)) (Or.inr (wd_29 hw)) (by decide) (t := .boolean) (t' := (.array .byte)) (by decide) (by decide)
def sl_5 {Z : State} {a0 : Array Value} (hw : own_H Z a0) := slot_ne (C := "java/lang/String") (Or.inl (wd_168 hw)) (Or.inr (wd_27 hw)) (by decide) (t := .boolean) (t' := .byte) (by decide) (by decide)
theorem ef_rmIbb (m : MethodId) (a1 : Addr) (vb : Addr) : entryFrame m #[(.ref a1), (.ref vb), (.int (0 : Int32))] 3 = mkF m 0 #[vr a1, vr vb, vi 0] [] := by first | (simp [entryFrame, mkF, argsToLocals, Value.category]; done) | rfl
def Q_rmIbb (Z : State) (a1 : Addr) (vb : Addr) (u1 : Value) (h0 : Heap) (n0 : Nat) (v : Option Value) (h : Heap) (L : List Loc) : Prop := v = none ∧ Fr n0 L ∧ Keep h0 h [a1] ∧ fE1 Z h a1 ∧ fF1 Z h a1 (.ref vb) ∧ fF2 Z h a1 (.int (0 : Int32)) ∧ fF3 Z h a1 (.int (0 : Int32)) ∧ fF4 Z h a1 (.int (0 : Int32))
theorem rmIbb (l : Launch) (Z : State) (a0 : Array Value) (hw : own_H Z a0) (ws : List Jvm.Cond) (a1 : Addr) (vb : Addr) (u1 : Value) (h0 : Heap) (n0 : Nat) (Z0 : n0 ≤ h0.size) (E_a1 : fE1 Z h0 a1) (F_value_a1 : fF1 Z h0 a1 .null) (F_coder_a1 : fF2 Z h0 a1 u1) (F_hash_a1 : fF3 Z h0 a1 (.int (0 : Int32))) (F_hashIsZero_a1 : fF4 Z h0 a1 (.int (0 : Int32))) (g_a1 : n0 ≤ a1) :
    own_Met l mN8 kC8 3 none ws (own_rm 1 0 0 12) Z h0 #[(.ref a1), (.ref vb), (.int (0 : Int32))] (Q_rmIbb Z a1 vb u1 h0 n0) := by
  refine own_met (plainFor_of_name pn_1) (fun m => ef_rmIbb m a1 vb) ?_
  intro p e s m below meth c s₁ Φ hΦ X0 hx hby hml hown hnm hret hlk hZ e0
  have B : own_B p c _ _ := ⟨hx, hby, hml⟩
  have K0 : Keep h0 h0 [a1] := Keep.refl _ _
  show own_G p e below Φ s₁ (mkF m 0 #[vr a1, vr vb, vi 0] [])
  refine o_aloadN X0 B d10_0 rfl rfl ?_
  refine o_io X0 B hZ hown (wd_11 hw) (wd_12 hw) (wd_13 hw) e0 d10_1 (by decide) 0 rfl (by decide) rfl ?_
  intro T1 X1 e1
  refine o_aloadN X1 B d10_4 rfl rfl ?_
  refine o_aloadN X1 B d10_5 rfl rfl ?_
  refine o_pf (ty := (.array .byte)) X1 B hZ hown (wd_28 hw) Via.refl e1 F_value_a1 E_a1 (Or.inr ⟨(wd_29 hw), rfl, hnm⟩) (wd_2 hw) (by decide) rfl rfl d10_6 ?_
  intro T2 h2 X2 e2 W2
  have K2 := K0.wr W2 (Or.inl (List.mem_of_getElem? (i := 0) rfl))
  have f2w := F_value_a1.same W2
  refine o_aloadN X2 B d10_9 rfl rfl ?_
  refine o_iloadN X2 B d10_10 rfl ?_
  have f_2 : fF2 Z h2 a1 u1 := F_coder_a1.other W2 (Or.inr (sl_1 hw))
  refine o_pfN (ty := .byte) (v' := (.int (0 : Int32))) X2 B hZ hown (wd_26 hw) Via.refl e2 f_2 (E_a1.keep K2) (Or.inr ⟨(wd_27 hw), rfl, hnm⟩) (wd_2 hw) (by decide) rfl (fits_nar_byte (0 : Int32)) d10_11 ?_
  intro T3 h3 X3 e3 W3
  have K3 := K2.wr W3 (Or.inl (List.mem_of_getElem? (i := 0) rfl))
  have f3w := f_2.same W3
  have f_4 : fF1 Z h3 a1 (.ref vb) := f2w.other W3 (Or.inr (sl_0 hw))
  have f_5 : fF3 Z h2 a1 (.int (0 : Int32)) := F_hash_a1.other W2 (Or.inr (sl_2 hw))
  have f_6 : fF3 Z h3 a1 (.int (0 : Int32)) := f_5.other W3 (Or.inr (sl_3 hw))
  have f_7 : fF4 Z h2 a1 (.int (0 : Int32)) := F_hashIsZero_a1.other W2 (Or.inr (sl_4 hw))
  have f_8 : fF4 Z h3 a1 (.int (0 : Int32)) := f_7.other W3 (Or.inr (sl_5 hw))
  exact o_rV X3 B hΦ hlk hret d10_14 e3 (by decide) (by decide) ⟨rfl, (Fr.snoc X3 (Fr.snoc X2 (Fr.nil n0) g_a1) g_a1), K3, (E_a1.keep K3), f_4, f3w, f_6, f_8⟩
theorem d7_0 : dK kC9 0 (.getstatic 38) 3 := by decide +kernel
theorem d7_3 : dK kC9 3 (.ifCond .eq 23) 3 := by decide +kernel
theorem d7_6 : dK kC9 6 (.iload_n 0) 1 := by decide +kernel
theorem d7_7 : dK kC9 7 (.invokestatic 1015) 3 := by decide +kernel
theorem pd_4 : parseMethodDescriptor "(C)Z" = some ⟨[.char], some .boolean⟩ := by decide +kernel
theorem d7_10 : dK kC9 10 (.ifCond .eq 16) 3 := by decide +kernel
theorem d7_13 : dK kC9 13 (.new 10) 3 := by decide +kernel
theorem d7_16 : dK kC9 16 .dup 1 := by decide +kernel
theorem d7_17 : dK kC9 17 (.iload_n 0) 1 := by decide +kernel
theorem d7_18 : dK kC9 18 (.invokestatic 1018) 3 := by decide +kernel
theorem pd_5 : parseMethodDescriptor "(C)[B" = some ⟨[.char], some (.array .byte)⟩ := by decide +kernel
theorem d7_21 : dK kC9 21 (.iconst 0) 1 := by decide +kernel
theorem d7_22 : dK kC9 22 (.invokespecial 209) 3 := by decide +kernel
theorem pd_6 : parseMethodDescriptor "([BB)V" = some ⟨[(.array .byte), .byte], none⟩ := by decide +kernel
theorem d7_25 : dK kC9 25 .areturn 1 := by decide +kernel
theorem ef_rmVal (m : MethodId) (c0 : Int32) : entryFrame m #[(.int c0)] 1 = mkF m 0 #[vi c0] [] := by first | (simp [entryFrame, mkF, argsToLocals, Value.category]; done) | rfl
def Q_rmVal (Z : State) (c0 : Int32) (gz : Int32) (h0 : Heap) (n0 : Nat) (v : Option Value) (h : Heap) (L : List Loc) : Prop := ∃ so : Addr, h0.size ≤ so ∧ ∃ vb : Addr, h0.size ≤ vb ∧ ∃ kb : ClassId, v = some (.ref so) ∧ Fr n0 L ∧ Keep h0 h [] ∧ fE1 Z h so ∧ fF1 Z h so (.ref vb) ∧ fF2 Z h so (.int (0 : Int32)) ∧ Arv Z h vb kb .byte (1 : Int32) [(.int (own_lo c0))] (.int (0 : Int32)) ∧ fF3 Z h so (.int (0 : Int32)) ∧ fF4 Z h so (.int (0 : Int32))
theorem rmVal (l : Launch) (Z : State) (a0 : Array Value) (hw : own_H Z a0) (ws : List Jvm.Cond) (c0 : Int32) (gz : Int32) (h0 : Heap) (n0 : Nat) (Z0 : n0 ≤ h0.size) (O0 : Old Z n0 h0) (S_COMPACT_STRINGS : Sta Z Z.heap "java/lang/String" "COMPACT_STRINGS" "Z" (.int gz)) (hgz : ¬ gz = (0 : Int32)) (hl0 : ¬ (255 : Int32) < c0) :
    own_Met l mN9 kC9 1 (some (.object "java/lang/String")) ws (own_rm 2 2 5 27) Z h0 #[(.int c0)] (Q_rmVal Z c0 gz h0 n0) := by
  refine own_met (plainFor_of_name pn_1) (fun m => ef_rmVal m c0) ?_
  intro p e s m below meth c s₁ Φ hΦ X0 hx hby hml hown hnm hret hlk hZ e0
  have B : own_B p c _ _ := ⟨hx, hby, hml⟩
  have K0 : Keep h0 h0 [] := Keep.refl _ _
  show own_G p e below Φ s₁ (mkF m 0 #[vi c0] [])
  refine o_gs X0 B hZ hown (wd_14 hw) Via.refl e0 (S_COMPACT_STRINGS.ext O0.2) d7_0 ?_
  intro T1 X1 e1
  refine o_ifN X1 B d7_3 (XT.i0_eq_f hgz) ?_
  refine o_iloadN X1 B d7_6 rfl ?_
  refine o_cS (argsL := [(.int c0)]) (rest := []) X1 B hZ hown (wd_33 hw) (wd_34 hw) (wd_36 hw) (wd_35 hw) (by decide) 0 (rmCan l Z a0 hw [] c0 h0 n0 Z0 hl0) (by decide) (by decide) (lenOf pd_4 rfl) rfl rfl rfl d7_7 e1 (by decide) (by decide) rfl ?_
  rintro _ T2 _ X2 ⟨rfl, N2q, hs2⟩
  refine o_ifN X2 B d7_10 (XT.i0_eq_f (by decide : ¬ ((1 : Int32) = (0 : Int32)))) ?_
  refine o_new X2 B hZ hown (wd_37 hw) (wd_2 hw) (wd_3 hw) hs2 d7_13 (by decide) (by decide) ?_
  intro T3 h3 ob3 g3 X3 e3 E3 A3 D3
  have sz_ob3 : h0.size ≤ ob3 := Nat.le_trans K0.1 (Nat.le_of_eq g3.symm)
  have K3 := K0.ext E3
  have Zp3 : n0 ≤ h3.size := Nat.le_trans Z0 E3.1
  have F_coder_ob3 : fF2 Z h3 ob3 (.int (0 : Int32)) := D3 (Or.inr (wd_27 hw)) (ty := .byte) (by decide)
  have F_value_ob3 : fF1 Z h3 ob3 .null := D3 (Or.inr (wd_29 hw)) (ty := (.array .byte)) (by decide)
  have F_hash_ob3 : fF3 Z h3 ob3 (.int (0 : Int32)) := D3 (Or.inl (wd_166 hw)) (ty := .int) (by decide)
  have F_hashIsZero_ob3 : fF4 Z h3 ob3 (.int (0 : Int32)) := D3 (Or.inl (wd_168 hw)) (ty := .boolean) (by decide)
  refine o_dup X3 B d7_16 rfl ?_
  refine o_iloadN X3 B d7_17 rfl ?_
  refine o_cS (argsL := [(.int c0)]) (rest := [(.ref ob3), (.ref ob3)]) X3 B hZ hown (wd_38 hw) (wd_39 hw) (wd_40 hw) (wd_35 hw) (by decide) 2 (rmTb1 l Z a0 hw [] c0 h3 n0 Zp3 ) (by decide) (by decide) (lenOf pd_5 rfl) rfl rfl rfl d7_18 e3 (by decide) (by decide) rfl ?_
  rintro _ T5 _ X5 ⟨vb_5, ns_vb_5, kb_5, rfl, N5q, Kq5, p5_0⟩
  have ne_ob3_vb_5 : ob3 ≠ vb_5 := Nat.ne_of_lt (Nat.lt_of_lt_of_le A3.lt ns_vb_5)
  have K5 := K3.trans Kq5 all0
  refine o_iconst X5 B d7_21 ?_
  refine o_cI (argsL := [(.ref vb_5), (.int (0 : Int32))]) (rest := [(.ref ob3)]) X5 B hZ hown rfl (wd_41 hw) (wd_42 hw) (wd_43 hw) (wd_3 hw) (by decide) rfl 1 (rmIbb l Z a0 hw [] ob3 vb_5 (.int (0 : Int32)) T5.heap n0 (Nat.le_trans Zp3 Kq5.1) (A3.keep Kq5) (F_value_ob3.keep Kq5 nin0) (F_coder_ob3.keep Kq5 nin0) (F_hash_ob3.keep Kq5 nin0) (F_hashIsZero_ob3.keep Kq5 nin0) (Nat.le_trans Z0 (Nat.le_of_eq g3.symm))) (by decide) (by decide) (lenOf pd_6 rfl) rfl rfl rfl d7_22 rfl (by decide) (by decide) rfl ?_
  rintro _ T7 _ X7 ⟨rfl, N7q, Kq7, p7_0, p7_1, p7_2, p7_3, p7_4⟩
  have K7 := K5.trans Kq7 (allS (Or.inr sz_ob3) all0)
  exact o_rA X7 B hΦ hlk hret rfl rfl d7_25 rfl (by decide) (by decide) ⟨ob3, sz_ob3, vb_5, (Nat.le_trans K3.1 ns_vb_5), kb_5, rfl, (Fr.app (Fr.app (Fr.app (Fr.nil n0) N2q) N5q) N7q), K7, p7_0, p7_1, p7_2, (p5_0.keep Kq7 (ninS (Ne.symm ne_ob3_vb_5) nin0)), p7_3, p7_4⟩
theorem d13_0 : dK kC10 0 (.aload_n 0) 1 := by decide +kernel
theorem d13_1 : dK kC10 1 (.invokespecial 1) 3 := by decide +kernel
theorem d13_4 : dK kC10 4 .return_ 1 := by decide +kernel
theorem pn_3 : plainName "java/util/AbstractCollection" = true := by first | (simp [plainName, overriddenIn]; done) | decide +kernel
theorem ef_rmAcin (m : MethodId) (a1 : Addr) : entryFrame m #[(.ref a1)] 1 = mkF m 0 #[vr a1] [] := by first | (simp [entryFrame, mkF, argsToLocals, Value.category]; done) | rfl
def Q_rmAcin (Z : State) (a1 : Addr) (h0 : Heap) (n0 : Nat) (v : Option Value) (h : Heap) (L : List Loc) : Prop := v = none ∧ Fr n0 L ∧ h = h0
theorem rmAcin (l : Launch) (Z : State) (a0 : Array Value) (hw : own_H Z a0) (ws : List Jvm.Cond) (a1 : Addr) (h0 : Heap) (n0 : Nat) (Z0 : n0 ≤ h0.size)  :
    own_Met l mN10 kC10 1 none ws (own_rm 1 0 0 12) Z h0 #[(.ref a1)] (Q_rmAcin Z a1 h0 n0) := by
  refine own_met (plainFor_of_name pn_3) (fun m => ef_rmAcin m a1) ?_
  intro p e s m below meth c s₁ Φ hΦ X0 hx hby hml hown hnm hret hlk hZ e0
  have B : own_B p c _ _ := ⟨hx, hby, hml⟩
  show own_G p e below Φ s₁ (mkF m 0 #[vr a1] [])
  refine o_aloadN X0 B d13_0 rfl rfl ?_
  refine o_io X0 B hZ hown (wd_62 hw) (wd_12 hw) (wd_13 hw) e0 d13_1 (by decide) 0 rfl (by decide) rfl ?_
  intro T1 X1 e1
  exact o_rV X1 B hΦ hlk hret d13_4 e1 (by decide) (by decide) ⟨rfl, (Fr.nil n0), rfl⟩
theorem d12_0 : dK kC11 0 (.aload_n 0) 1 := by decide +kernel
theorem d12_1 : dK kC11 1 (.invokespecial 1) 3 := by decide +kernel
theorem pd_7 : parseMethodDescriptor "()V" = some ⟨[], none⟩ := by decide +kernel
theorem d12_4 : dK kC11 4 (.aload_n 0) 1 := by decide +kernel
theorem d12_5 : dK kC11 5 (.iconst 0) 1 := by decide +kernel
theorem d12_6 : dK kC11 6 (.putfield 7) 3 := by decide +kernel
theorem d12_9 : dK kC11 9 .return_ 1 := by decide +kernel
def sl_6 {Z : State} {a0 : Array Value} (hw : own_H Z a0) := slot_ne (C := "java/util/ArrayList") (Or.inl (wd_94 hw)) (Or.inl (wd_64 hw)) (by decide) (t := .int) (t' := .int) (by decide) (by decide)
def sl_7 {Z : State} {a0 : Array Value} (hw : own_H Z a0) := slot_ne (C := "java/util/ArrayList") (Or.inl (wd_67 hw)) (Or.inl (wd_64 hw)) (by decide) (t := (.array (.object "java/lang/Object"))) (t' := .int) (by decide) (by decide)
theorem pn_4 : plainName "java/util/AbstractList" = true := by first | (simp [plainName, overriddenIn]; done) | decide +kernel
theorem ef_rmAbin (m : MethodId) (a1 : Addr) : entryFrame m #[(.ref a1)] 1 = mkF m 0 #[vr a1] [] := by first | (simp [entryFrame, mkF, argsToLocals, Value.category]; done) | rfl
def Q_rmAbin (Z : State) (a1 : Addr) (us : Value) (ue : Value) (h0 : Heap) (n0 : Nat) (v : Option Value) (h : Heap) (L : List Loc) : Prop := v = none ∧ Fr n0 L ∧ Keep h0 h [a1] ∧ fE2 Z h a1 ∧ fF5 Z h a1 (.int (0 : Int32)) ∧ fF6 Z h a1 us ∧ fF7 Z h a1 ue
theorem rmAbin (l : Launch) (Z : State) (a0 : Array Value) (hw : own_H Z a0) (ws : List Jvm.Cond) (a1 : Addr) (us : Value) (ue : Value) (h0 : Heap) (n0 : Nat) (Z0 : n0 ≤ h0.size) (E_a1 : fE2 Z h0 a1) (F_modCount_a1 : fF5 Z h0 a1 (.int (0 : Int32))) (F_size_a1 : fF6 Z h0 a1 us) (F_elementData_a1 : fF7 Z h0 a1 ue) (g_a1 : n0 ≤ a1) :
    own_Met l mN11 kC11 1 none ws (own_rm 2 0 0 24) Z h0 #[(.ref a1)] (Q_rmAbin Z a1 us ue h0 n0) := by
  refine own_met (plainFor_of_name pn_4) (fun m => ef_rmAbin m a1) ?_
  intro p e s m below meth c s₁ Φ hΦ X0 hx hby hml hown hnm hret hlk hZ e0
  have B : own_B p c _ _ := ⟨hx, hby, hml⟩
  have K0 : Keep h0 h0 [a1] := Keep.refl _ _
  show own_G p e below Φ s₁ (mkF m 0 #[vr a1] [])
  refine o_aloadN X0 B d12_0 rfl rfl ?_
  refine o_cI (argsL := []) (rest := []) X0 B hZ hown rfl (wd_56 hw) (wd_57 hw) (wd_61 hw) (wd_60 hw) (by decide) rfl 0 (rmAcin l Z a0 hw [] a1 h0 n0 Z0 ) (by decide) (by decide) (lenOf pd_7 rfl) rfl rfl rfl d12_1 e0 (by decide) (by decide) rfl ?_
  rintro _ T1 _ X1 ⟨rfl, N1q, hs1⟩
  refine o_aloadN X1 B d12_4 rfl rfl ?_
  refine o_iconst X1 B d12_5 ?_
  refine o_pf (ty := .int) X1 B hZ hown (wd_63 hw) Via.refl hs1 F_modCount_a1 E_a1 (Or.inl (wd_64 hw)) (wd_45 hw) (by decide) rfl rfl d12_6 ?_
  intro T2 h2 X2 e2 W2
  have K2 := K0.wr W2 (Or.inl (List.mem_of_getElem? (i := 0) rfl))
  have f2w := F_modCount_a1.same W2
  have f_2 : fF6 Z h2 a1 us := F_size_a1.other W2 (Or.inr (sl_6 hw))
  have f_3 : fF7 Z h2 a1 ue := F_elementData_a1.other W2 (Or.inr (sl_7 hw))
  exact o_rV X2 B hΦ hlk hret d12_9 e2 (by decide) (by decide) ⟨rfl, (Fr.snoc X2 (Fr.app (Fr.nil n0) N1q) g_a1), K2, (E_a1.keep K2), f2w, f_2, f_3⟩
theorem d11_0 : dK kC12 0 (.aload_n 0) 1 := by decide +kernel
theorem d11_1 : dK kC12 1 (.invokespecial 1) 3 := by decide +kernel
theorem d11_4 : dK kC12 4 (.aload_n 0) 1 := by decide +kernel
theorem d11_5 : dK kC12 5 (.getstatic 39) 3 := by decide +kernel
theorem d11_8 : dK kC12 8 (.putfield 9) 3 := by decide +kernel
theorem d11_11 : dK kC12 11 .return_ 1 := by decide +kernel
def sl_8 {Z : State} {a0 : Array Value} (hw : own_H Z a0) := slot_ne (C := "java/util/ArrayList") (Or.inl (wd_64 hw)) (Or.inl (wd_67 hw)) (by decide) (t := .int) (t' := (.array (.object "java/lang/Object"))) (by decide) (by decide)
def sl_9 {Z : State} {a0 : Array Value} (hw : own_H Z a0) := slot_ne (C := "java/util/ArrayList") (Or.inl (wd_94 hw)) (Or.inl (wd_67 hw)) (by decide) (t := .int) (t' := (.array (.object "java/lang/Object"))) (by decide) (by decide)
theorem pn_5 : plainName "java/util/ArrayList" = true := by first | (simp [plainName, overriddenIn]; done) | decide +kernel
theorem ef_rmAlin (m : MethodId) (a1 : Addr) : entryFrame m #[(.ref a1)] 1 = mkF m 0 #[vr a1] [] := by first | (simp [entryFrame, mkF, argsToLocals, Value.category]; done) | rfl
def Q_rmAlin (Z : State) (a1 : Addr) (de : Addr) (us : Value) (ue : Value) (h0 : Heap) (n0 : Nat) (v : Option Value) (h : Heap) (L : List Loc) : Prop := v = none ∧ Fr n0 L ∧ Keep h0 h [a1] ∧ fE2 Z h a1 ∧ fF5 Z h a1 (.int (0 : Int32)) ∧ fF6 Z h a1 us ∧ fF7 Z h a1 (.ref de)
theorem rmAlin (l : Launch) (Z : State) (a0 : Array Value) (hw : own_H Z a0) (ws : List Jvm.Cond) (a1 : Addr) (de : Addr) (us : Value) (ue : Value) (h0 : Heap) (n0 : Nat) (Z0 : n0 ≤ h0.size) (O0 : Old Z n0 h0) (S_DEFAULTCAPACITY_EMPTY_ELEMENTDATA : Sta Z Z.heap "java/util/ArrayList" "DEFAULTCAPACITY_EMPTY_ELEMENTDATA" "[Ljava/lang/Object;" (.ref de)) (E_a1 : fE2 Z h0 a1) (F_modCount_a1 : fF5 Z h0 a1 (.int (0 : Int32))) (F_size_a1 : fF6 Z h0 a1 us) (F_elementData_a1 : fF7 Z h0 a1 ue) (g_a1 : n0 ≤ a1) :
    own_Met l mN12 kC12 1 none ws (own_rm 3 0 0 36) Z h0 #[(.ref a1)] (Q_rmAlin Z a1 de us ue h0 n0) := by
  refine own_met (plainFor_of_name pn_5) (fun m => ef_rmAlin m a1) ?_
  intro p e s m below meth c s₁ Φ hΦ X0 hx hby hml hown hnm hret hlk hZ e0
  have B : own_B p c _ _ := ⟨hx, hby, hml⟩
  have K0 : Keep h0 h0 [a1] := Keep.refl _ _
  show own_G p e below Φ s₁ (mkF m 0 #[vr a1] [])
  refine o_aloadN X0 B d11_0 rfl rfl ?_
  refine o_cI (argsL := []) (rest := []) X0 B hZ hown rfl (wd_50 hw) (wd_51 hw) (wd_55 hw) (wd_54 hw) (by decide) rfl 0 (rmAbin l Z a0 hw [] a1 us ue h0 n0 Z0 E_a1 F_modCount_a1 F_size_a1 F_elementData_a1 g_a1) (by decide) (by decide) (lenOf pd_7 rfl) rfl rfl rfl d11_1 e0 (by decide) (by decide) rfl ?_
  rintro _ T1 _ X1 ⟨rfl, N1q, Kq1, p1_0, p1_1, p1_2, p1_3⟩
  have K1 := K0.trans Kq1 (allS (Or.inl (List.mem_of_getElem? (i := 0) rfl)) all0)
  refine o_aloadN X1 B d11_4 rfl rfl ?_
  refine o_gs X1 B hZ hown (wd_65 hw) Via.refl rfl (S_DEFAULTCAPACITY_EMPTY_ELEMENTDATA.ext (O0.keep Kq1 (allS g_a1 all0)).2) d11_5 ?_
  intro T3 X3 e3
  refine o_pf (ty := (.array (.object "java/lang/Object"))) X3 B hZ hown (wd_66 hw) Via.refl e3 p1_3 p1_0 (Or.inl (wd_67 hw)) (wd_45 hw) (by decide) rfl rfl d11_8 ?_
  intro T4 h4 X4 e4 W4
  have K4 := K1.wr W4 (Or.inl (List.mem_of_getElem? (i := 0) rfl))
  have f4w := p1_3.same W4
  have f_2 : fF5 Z h4 a1 (.int (0 : Int32)) := p1_1.other W4 (Or.inr (sl_8 hw))
  have f_3 : fF6 Z h4 a1 us := p1_2.other W4 (Or.inr (sl_9 hw))
  exact o_rV X4 B hΦ hlk hret d11_11 e4 (by decide) (by decide) ⟨rfl, (Fr.snoc X4 (Fr.app (Fr.nil n0) N1q) g_a1), K4, (p1_0.wr W4), f_2, f_3, f4w⟩
theorem d20_0 : dK kC13 0 (.iload_n 0) 1 := by decide +kernel
theorem d20_1 : dK kC13 1 (.iload_n 1) 1 := by decide +kernel
theorem d20_2 : dK kC13 2 (.if_icmp .lt 7) 3 := by decide +kernel
theorem d20_5 : dK kC13 5 (.iload_n 0) 1 := by decide +kernel
theorem d20_6 : dK kC13 6 (.goto 4) 3 := by decide +kernel
theorem d20_10 : dK kC13 10 .ireturn 1 := by decide +kernel
theorem ef_rmMax (m : MethodId)  : entryFrame m #[(.int (10 : Int32)), (.int (1 : Int32))] 2 = mkF m 0 #[vi 10, vi 1] [] := by first | (simp [entryFrame, mkF, argsToLocals, Value.category]; done) | rfl
def Q_rmMax (Z : State)  (h0 : Heap) (n0 : Nat) (v : Option Value) (h : Heap) (L : List Loc) : Prop := v = some (.int (10 : Int32)) ∧ Fr n0 L ∧ h = h0
theorem rmMax (l : Launch) (Z : State) (a0 : Array Value) (hw : own_H Z a0) (ws : List Jvm.Cond)  (h0 : Heap) (n0 : Nat) (Z0 : n0 ≤ h0.size)  :
    own_Met l mN13 kC13 2 (some .int) ws (own_rm 0 0 0 0) Z h0 #[(.int (10 : Int32)), (.int (1 : Int32))] (Q_rmMax Z  h0 n0) := by
  refine own_met (Jvm.Free.JP.mathPlain rfl (by decide +kernel)) (fun m => ef_rmMax m ) ?_
  intro p e s m below meth c s₁ Φ hΦ X0 hx hby hml hown hnm hret hlk hZ e0
  have B : own_B p c _ _ := ⟨hx, hby, hml⟩
  show own_G p e below Φ s₁ (mkF m 0 #[vi 10, vi 1] [])
  refine o_iloadN X0 B d20_0 rfl ?_
  refine o_iloadN X0 B d20_1 rfl ?_
  refine o_icN X0 B d20_2 (XT.ii_lt_f (by decide : ¬ ((10 : Int32) < (1 : Int32)))) ?_
  refine o_iloadN X0 B d20_5 rfl ?_
  refine o_goto X0 B 10 d20_6 rfl ?_
  exact o_rI X0 B hΦ hlk hret d20_10 e0 (by decide) (by decide) ⟨rfl, (Fr.nil n0), rfl⟩
theorem d19_0 : dK kC14 0 (.aload_n 0) 1 := by decide +kernel
theorem d19_1 : dK kC14 1 (.getfield 9) 3 := by decide +kernel
theorem d19_4 : dK kC14 4 .arraylength 1 := by decide +kernel
theorem d19_5 : dK kC14 5 (.istore_n 2) 1 := by decide +kernel
theorem d19_6 : dK kC14 6 (.iload_n 2) 1 := by decide +kernel
theorem d19_7 : dK kC14 7 (.ifCond .gt 13) 3 := by decide +kernel
theorem d19_10 : dK kC14 10 (.aload_n 0) 1 := by decide +kernel
theorem d19_11 : dK kC14 11 (.getfield 9) 3 := by decide +kernel
theorem d19_14 : dK kC14 14 (.getstatic 39) 3 := by decide +kernel
theorem d19_17 : dK kC14 17 (.if_acmp .eq 28) 3 := by decide +kernel
theorem d19_45 : dK kC14 45 (.aload_n 0) 1 := by decide +kernel
theorem d19_46 : dK kC14 46 (.bipush 10) 2 := by decide +kernel
theorem d19_48 : dK kC14 48 (.iload_n 1) 1 := by decide +kernel
theorem d19_49 : dK kC14 49 (.invokestatic 79) 3 := by decide +kernel
theorem pd_8 : parseMethodDescriptor "(II)I" = some ⟨[.int, .int], some .int⟩ := by decide +kernel
theorem d19_52 : dK kC14 52 (.anewarray 7) 3 := by decide +kernel
theorem d19_55 : dK kC14 55 .dup_x1 1 := by decide +kernel
theorem d19_56 : dK kC14 56 (.putfield 9) 3 := by decide +kernel
theorem d19_59 : dK kC14 59 .areturn 1 := by decide +kernel
theorem ef_rmGrI (m : MethodId) (a1 : Addr) : entryFrame m #[(.ref a1), (.int (1 : Int32))] 4 = mkF m 0 #[vr a1, vi 1, .unset, .unset] [] := by first | (simp [entryFrame, mkF, argsToLocals, Value.category]; done) | rfl
def Q_rmGrI (Z : State) (a1 : Addr) (de : Addr) (kd : ClassId) (um : Value) (h0 : Heap) (n0 : Nat) (v : Option Value) (h : Heap) (L : List Loc) : Prop := ∃ ed : Addr, h0.size ≤ ed ∧ ∃ ke : ClassId, v = some (.ref ed) ∧ Fr n0 L ∧ Keep h0 h [a1] ∧ fE2 Z h a1 ∧ fF5 Z h a1 um ∧ fF6 Z h a1 (.int (0 : Int32)) ∧ fF7 Z h a1 (.ref ed) ∧ Arv Z h ed ke (.object "java/lang/Object") (10 : Int32) [.null, .null, .null, .null, .null, .null, .null, .null, .null, .null] .null ∧ Ovr Z ke "java/lang/Object"
theorem rmGrI (l : Launch) (Z : State) (a0 : Array Value) (hw : own_H Z a0) (ws : List Jvm.Cond) (a1 : Addr) (de : Addr) (kd : ClassId) (um : Value) (h0 : Heap) (n0 : Nat) (Z0 : n0 ≤ h0.size) (O0 : Old Z n0 h0) (S_DEFAULTCAPACITY_EMPTY_ELEMENTDATA : Sta Z Z.heap "java/util/ArrayList" "DEFAULTCAPACITY_EMPTY_ELEMENTDATA" "[Ljava/lang/Object;" (.ref de)) (E_a1 : fE2 Z h0 a1) (F_modCount_a1 : fF5 Z h0 a1 um) (F_size_a1 : fF6 Z h0 a1 (.int (0 : Int32))) (F_elementData_a1 : fF7 Z h0 a1 (.ref de)) (g_a1 : n0 ≤ a1) (V_de : Arv Z h0 de kd (.object "java/lang/Object") (0 : Int32) [] .null) :
    own_Met l mN14 kC14 4 (some (.array (.object "java/lang/Object"))) ws (own_rm 1 1 10 14) Z h0 #[(.ref a1), (.int (1 : Int32))] (Q_rmGrI Z a1 de kd um h0 n0) := by
  refine own_met (plainFor_of_name pn_5) (fun m => ef_rmGrI m a1) ?_
  intro p e s m below meth c s₁ Φ hΦ X0 hx hby hml hown hnm hret hlk hZ e0
  have B : own_B p c _ _ := ⟨hx, hby, hml⟩
  have K0 : Keep h0 h0 [a1] := Keep.refl _ _
  show own_G p e below Φ s₁ (mkF m 0 #[vr a1, vi 1, .unset, .unset] [])
  refine o_aloadN X0 B d19_0 rfl rfl ?_
  refine o_gf X0 B hZ hown (wd_66 hw) Via.refl e0 F_elementData_a1 d19_1 ?_
  intro T1 X1 e1
  refine o_len X1 B hZ e1 V_de d19_4 ?_
  refine o_istoreN (L' := #[vr a1, vi 1, vi 0, .unset]) X1 B d19_5 rfl ?_
  refine o_iloadN X1 B d19_6 rfl ?_
  refine o_ifN X1 B d19_7 (XT.i0_gt_f (by decide : ¬ ((0 : Int32) < (0 : Int32)))) ?_
  refine o_aloadN X1 B d19_10 rfl rfl ?_
  refine o_gf X1 B hZ hown (wd_66 hw) Via.refl e1 F_elementData_a1 d19_11 ?_
  intro T2 X2 e2
  refine o_gs X2 B hZ hown (wd_65 hw) Via.refl e2 (S_DEFAULTCAPACITY_EMPTY_ELEMENTDATA.ext O0.2) d19_14 ?_
  intro T3 X3 e3
  refine own_go (fun _ => Jvm.RoadKit.acmp (g := (mkF m 17 #[vr a1, vi 1, vi 0, .unset] [(.ref de), (.ref de)])) X3 hx rfl rfl rfl (pc0 := 17) (pc' := 45) (same := true) rfl (hb hby d19_17) rfl (decide_eq_true rfl) (by decide) (by decide)) ?_
  refine o_aloadN X3 B d19_45 rfl rfl ?_
  refine o_bipush X3 B d19_46 ?_
  refine o_iloadN X3 B d19_48 rfl ?_
  refine o_cS (argsL := [(.int (10 : Int32)), (.int (1 : Int32))]) (rest := [(.ref a1)]) X3 B hZ hown (wd_110 hw) (wd_111 hw) (wd_113 hw) (wd_112 hw) (by decide) 1 (rmMax l Z a0 hw []  h0 n0 Z0 ) (by decide) (by decide) (lenOf pd_8 rfl) rfl rfl rfl d19_49 e3 (by decide) (by decide) rfl ?_
  rintro _ T4 _ X4 ⟨rfl, N4q, hs4⟩
  refine o_nr X4 B hZ hown (wd_114 hw) (wd_115 hw) hs4 d19_52 (by decide) 10 (by decide) (by decide) (by decide) (by decide) ?_
  intro T5 h5 ka5 ob5 g5 X5 e5 E5 V5' O5
  have ne_a1_ob5 : a1 ≠ ob5 := Nat.ne_of_lt (Nat.lt_of_lt_of_le E_a1.lt (Nat.le_of_eq g5.symm))
  have K5 := K0.ext E5
  have V5 : Arv Z h5 ob5 ka5 (.object "java/lang/Object") (10 : Int32) [.null, .null, .null, .null, .null, .null, .null, .null, .null, .null] .null := V5'
  refine o_dupx1 X5 B d19_55 rfl rfl ?_
  have f_2 := F_elementData_a1.ext E5
  refine o_pf (ty := (.array (.object "java/lang/Object"))) X5 B hZ hown (wd_66 hw) Via.refl e5 f_2 (E_a1.keep K5) (Or.inl (wd_67 hw)) (wd_45 hw) (by decide) rfl rfl d19_56 ?_
  intro T7 h7 X7 e7 W7
  have K7 := K5.wr W7 (Or.inl (List.mem_of_getElem? (i := 0) rfl))
  have f7w := f_2.same W7
  show own_G p e below Φ T7 (mkF m 59 #[vr a1, vi 1, vi 0, .unset] [(.ref ob5)])
  have f_5 : fF5 Z h7 a1 um := (F_modCount_a1.ext E5).other W7 (Or.inr (sl_8 hw))
  have f_7 : fF6 Z h7 a1 (.int (0 : Int32)) := (F_size_a1.ext E5).other W7 (Or.inr (sl_9 hw))
  exact o_rA X7 B hΦ hlk hret rfl rfl d19_59 e7 (by decide) (by decide) ⟨ob5, (Nat.le_trans K0.1 (Nat.le_of_eq g5.symm)), ka5, rfl, (Fr.snoc X7 (Fr.app (Fr.nil n0) N4q) g_a1), K7, (E_a1.keep K7), f_5, f_7, f7w, (V5.other W7 (Ne.symm ne_a1_ob5)), O5⟩
theorem d18_0 : dK kC15 0 (.aload_n 0) 1 := by decide +kernel
theorem d18_1 : dK kC15 1 (.aload_n 0) 1 := by decide +kernel
theorem d18_2 : dK kC15 2 (.getfield 48) 3 := by decide +kernel
theorem d18_5 : dK kC15 5 (.iconst 1) 1 := by decide +kernel
theorem d18_6 : dK kC15 6 .iadd 1 := by decide +kernel
theorem d18_7 : dK kC15 7 (.invokevirtual 69) 3 := by decide +kernel
theorem pd_9 : parseMethodDescriptor "(I)[Ljava/lang/Object;" = some ⟨[.int], some (.array (.object "java/lang/Object"))⟩ := by decide +kernel
theorem d18_10 : dK kC15 10 .areturn 1 := by decide +kernel
theorem ef_rmGr0 (m : MethodId) (a1 : Addr) : entryFrame m #[(.ref a1)] 1 = mkF m 0 #[vr a1] [] := by first | (simp [entryFrame, mkF, argsToLocals, Value.category]; done) | rfl
def Q_rmGr0 (Z : State) (a1 : Addr) (de : Addr) (kd : ClassId) (um : Value) (h0 : Heap) (n0 : Nat) (v : Option Value) (h : Heap) (L : List Loc) : Prop := ∃ ed : Addr, h0.size ≤ ed ∧ ∃ ke : ClassId, v = some (.ref ed) ∧ Fr n0 L ∧ Keep h0 h [a1] ∧ fE2 Z h a1 ∧ fF5 Z h a1 um ∧ fF6 Z h a1 (.int (0 : Int32)) ∧ fF7 Z h a1 (.ref ed) ∧ Arv Z h ed ke (.object "java/lang/Object") (10 : Int32) [.null, .null, .null, .null, .null, .null, .null, .null, .null, .null] .null ∧ Ovr Z ke "java/lang/Object"
theorem rmGr0 (l : Launch) (Z : State) (a0 : Array Value) (hw : own_H Z a0) (ws : List Jvm.Cond) (a1 : Addr) (de : Addr) (kd : ClassId) (um : Value) (h0 : Heap) (n0 : Nat) (Z0 : n0 ≤ h0.size) (O0 : Old Z n0 h0) (S_DEFAULTCAPACITY_EMPTY_ELEMENTDATA : Sta Z Z.heap "java/util/ArrayList" "DEFAULTCAPACITY_EMPTY_ELEMENTDATA" "[Ljava/lang/Object;" (.ref de)) (E_a1 : fE2 Z h0 a1) (F_modCount_a1 : fF5 Z h0 a1 um) (F_size_a1 : fF6 Z h0 a1 (.int (0 : Int32))) (F_elementData_a1 : fF7 Z h0 a1 (.ref de)) (g_a1 : n0 ≤ a1) (V_de : Arv Z h0 de kd (.object "java/lang/Object") (0 : Int32) [] .null) :
    own_Met l mN15 kC15 1 (some (.array (.object "java/lang/Object"))) ws (own_rm 2 1 10 29) Z h0 #[(.ref a1)] (Q_rmGr0 Z a1 de kd um h0 n0) := by
  refine own_met (plainFor_of_name pn_5) (fun m => ef_rmGr0 m a1) ?_
  intro p e s m below meth c s₁ Φ hΦ X0 hx hby hml hown hnm hret hlk hZ e0
  have B : own_B p c _ _ := ⟨hx, hby, hml⟩
  have K0 : Keep h0 h0 [a1] := Keep.refl _ _
  show own_G p e below Φ s₁ (mkF m 0 #[vr a1] [])
  refine o_aloadN X0 B d18_0 rfl rfl ?_
  refine o_aloadN X0 B d18_1 rfl rfl ?_
  refine o_gf X0 B hZ hown (wd_93 hw) Via.refl e0 F_size_a1 d18_2 ?_
  intro T1 X1 e1
  refine o_iconst X1 B d18_5 ?_
  refine o_iadd X1 B d18_6 ?_
  refine o_cP (argsL := [(.int (1 : Int32))]) (rest := []) X1 B hZ hown (wd_105 hw) (wd_106 hw) (wd_108 hw) (wd_107 hw) (wd_109 hw) (wd_46 hw) (by decide) E_a1 0 (rmGrI l Z a0 hw [] a1 de kd um h0 n0 Z0 O0 S_DEFAULTCAPACITY_EMPTY_ELEMENTDATA E_a1 F_modCount_a1 F_size_a1 F_elementData_a1 g_a1 V_de) (by decide) (by decide) (lenOf pd_9 rfl) rfl rfl rfl d18_7 e1 (by decide) (by decide) rfl ?_
  rintro _ T2 _ X2 ⟨ed_2, ns_ed_2, ke_2, rfl, N2q, Kq2, p2_0, p2_1, p2_2, p2_3, p2_4, p2_5⟩
  have K2 := K0.trans Kq2 (allS (Or.inl (List.mem_of_getElem? (i := 0) rfl)) all0)
  exact o_rA X2 B hΦ hlk hret rfl rfl d18_10 rfl (by decide) (by decide) ⟨ed_2, (Nat.le_trans K0.1 ns_ed_2), ke_2, rfl, (Fr.app (Fr.nil n0) N2q), K2, p2_0, p2_1, p2_2, p2_3, p2_4, p2_5⟩
theorem d17_0 : dK kC16 0 (.iload_n 3) 1 := by decide +kernel
theorem d17_1 : dK kC16 1 (.aload_n 2) 1 := by decide +kernel
theorem d17_2 : dK kC16 2 .arraylength 1 := by decide +kernel
theorem d17_3 : dK kC16 3 (.if_icmp .ne 8) 3 := by decide +kernel
theorem d17_6 : dK kC16 6 (.aload_n 0) 1 := by decide +kernel
theorem d17_7 : dK kC16 7 (.invokevirtual 129) 3 := by decide +kernel
theorem pd_10 : parseMethodDescriptor "()[Ljava/lang/Object;" = some ⟨[], some (.array (.object "java/lang/Object"))⟩ := by decide +kernel
theorem d17_10 : dK kC16 10 (.astore_n 2) 1 := by decide +kernel
theorem d17_11 : dK kC16 11 (.aload_n 2) 1 := by decide +kernel
theorem d17_12 : dK kC16 12 (.iload_n 3) 1 := by decide +kernel
theorem d17_13 : dK kC16 13 (.aload_n 1) 1 := by decide +kernel
theorem d17_14 : dK kC16 14 .aastore 1 := by decide +kernel
theorem d17_15 : dK kC16 15 (.aload_n 0) 1 := by decide +kernel
theorem d17_16 : dK kC16 16 (.iload_n 3) 1 := by decide +kernel
theorem d17_17 : dK kC16 17 (.iconst 1) 1 := by decide +kernel
theorem d17_18 : dK kC16 18 .iadd 1 := by decide +kernel
theorem d17_19 : dK kC16 19 (.putfield 48) 3 := by decide +kernel
theorem d17_22 : dK kC16 22 .return_ 1 := by decide +kernel
def sl_10 {Z : State} {a0 : Array Value} (hw : own_H Z a0) := slot_ne (C := "java/util/ArrayList") (Or.inl (wd_64 hw)) (Or.inl (wd_94 hw)) (by decide) (t := .int) (t' := .int) (by decide) (by decide)
def sl_11 {Z : State} {a0 : Array Value} (hw : own_H Z a0) := slot_ne (C := "java/util/ArrayList") (Or.inl (wd_67 hw)) (Or.inl (wd_94 hw)) (by decide) (t := (.array (.object "java/lang/Object"))) (t' := .int) (by decide) (by decide)
theorem ef_rmAd3a (m : MethodId) (a1 : Addr) (x1 : Addr) (de : Addr) : entryFrame m #[(.ref a1), (.ref x1), (.ref de), (.int (0 : Int32))] 4 = mkF m 0 #[vr a1, vr x1, vr de, vi 0] [] := by first | (simp [entryFrame, mkF, argsToLocals, Value.category]; done) | rfl
def Q_rmAd3a (Z : State) (a1 : Addr) (de : Addr) (kd : ClassId) (um : Value) (x1 : Addr) (h0 : Heap) (n0 : Nat) (v : Option Value) (h : Heap) (L : List Loc) : Prop := ∃ ed : Addr, h0.size ≤ ed ∧ ∃ ke : ClassId, v = none ∧ Fr n0 L ∧ Keep h0 h [a1] ∧ fE2 Z h a1 ∧ fF5 Z h a1 um ∧ fF6 Z h a1 (.int (1 : Int32)) ∧ fF7 Z h a1 (.ref ed) ∧ Arv Z h ed ke (.object "java/lang/Object") (10 : Int32) [(.ref x1), .null, .null, .null, .null, .null, .null, .null, .null, .null] .null ∧ Ovr Z ke "java/lang/Object"
theorem rmAd3a (l : Launch) (Z : State) (a0 : Array Value) (hw : own_H Z a0) (ws : List Jvm.Cond) (a1 : Addr) (de : Addr) (kd : ClassId) (um : Value) (x1 : Addr) (h0 : Heap) (n0 : Nat) (Z0 : n0 ≤ h0.size) (O0 : Old Z n0 h0) (S_DEFAULTCAPACITY_EMPTY_ELEMENTDATA : Sta Z Z.heap "java/util/ArrayList" "DEFAULTCAPACITY_EMPTY_ELEMENTDATA" "[Ljava/lang/Object;" (.ref de)) (E_a1 : fE2 Z h0 a1) (F_modCount_a1 : fF5 Z h0 a1 um) (F_size_a1 : fF6 Z h0 a1 (.int (0 : Int32))) (F_elementData_a1 : fF7 Z h0 a1 (.ref de)) (g_a1 : n0 ≤ a1) (V_de : Arv Z h0 de kd (.object "java/lang/Object") (0 : Int32) [] .null) (E_x1 : fE3 Z h0 x1) :
    own_Met l mN16 kC16 4 none ws (own_rm 3 1 10 41) Z h0 #[(.ref a1), (.ref x1), (.ref de), (.int (0 : Int32))] (Q_rmAd3a Z a1 de kd um x1 h0 n0) := by
  refine own_met (plainFor_of_name pn_5) (fun m => ef_rmAd3a m a1 x1 de) ?_
  intro p e s m below meth c s₁ Φ hΦ X0 hx hby hml hown hnm hret hlk hZ e0
  have B : own_B p c _ _ := ⟨hx, hby, hml⟩
  have K0 : Keep h0 h0 [a1] := Keep.refl _ _
  show own_G p e below Φ s₁ (mkF m 0 #[vr a1, vr x1, vr de, vi 0] [])
  refine o_iloadN X0 B d17_0 rfl ?_
  refine o_aloadN X0 B d17_1 rfl rfl ?_
  refine o_len X0 B hZ e0 V_de d17_2 ?_
  refine o_icN X0 B d17_3 (XT.ii_ne_f (by decide : ((0 : Int32) = (0 : Int32)))) ?_
  refine o_aloadN X0 B d17_6 rfl rfl ?_
  refine o_cP (argsL := []) (rest := []) X0 B hZ hown (wd_100 hw) (wd_101 hw) (wd_103 hw) (wd_102 hw) (wd_104 hw) (wd_46 hw) (by decide) E_a1 0 (rmGr0 l Z a0 hw [] a1 de kd um h0 n0 Z0 O0 S_DEFAULTCAPACITY_EMPTY_ELEMENTDATA E_a1 F_modCount_a1 F_size_a1 F_elementData_a1 g_a1 V_de) (by decide) (by decide) (lenOf pd_10 rfl) rfl rfl rfl d17_7 e0 (by decide) (by decide) rfl ?_
  rintro _ T1 _ X1 ⟨ed_1, ns_ed_1, ke_1, rfl, N1q, Kq1, p1_0, p1_1, p1_2, p1_3, p1_4, p1_5⟩
  have ne_a1_ed_1 : a1 ≠ ed_1 := Nat.ne_of_lt (Nat.lt_of_lt_of_le E_a1.lt ns_ed_1)
  have sz_ed_1 : h0.size ≤ ed_1 := Nat.le_trans K0.1 ns_ed_1
  have K1 := K0.trans Kq1 (allS (Or.inl (List.mem_of_getElem? (i := 0) rfl)) all0)
  refine o_astoreN (L' := #[vr a1, vr x1, vr ed_1, vi 0]) X1 B d17_10 rfl rfl ?_
  refine o_aloadN X1 B d17_11 rfl rfl ?_
  refine o_iloadN X1 B d17_12 rfl ?_
  refine o_aloadN X1 B d17_13 rfl rfl ?_
  refine o_ast X1 B hZ rfl p1_4 p1_5 (Ins.of_exa (E_x1.keep K1) (wd_116 hw)) ⟨by decide, by decide⟩ 0 rfl (Nat.le_of_ble_eq_true rfl) d17_14 ?_
  intro T3 h3 X3 e3 W3 V3'
  have V3 : Arv Z h3 ed_1 ke_1 (.object "java/lang/Object") (10 : Int32) [(.ref x1), .null, .null, .null, .null, .null, .null, .null, .null, .null] .null := V3'
  have K3 := K1.wr W3 (Or.inr sz_ed_1)
  refine o_aloadN X3 B d17_15 rfl rfl ?_
  refine o_iloadN X3 B d17_16 rfl ?_
  refine o_iconst X3 B d17_17 ?_
  refine o_iadd X3 B d17_18 ?_
  have f_2 := p1_0.wr W3
  have f_3 := p1_2.other W3 (Or.inl ne_a1_ed_1)
  refine o_pf (ty := .int) X3 B hZ hown (wd_93 hw) Via.refl e3 f_3 f_2 (Or.inl (wd_94 hw)) (wd_45 hw) (by decide) rfl rfl d17_19 ?_
  intro T5 h5 X5 e5 W5
  have K5 := K3.wr W5 (Or.inl (List.mem_of_getElem? (i := 0) rfl))
  have f5w := f_3.same W5
  have f_6 : fF5 Z h5 a1 um := (p1_1.other W3 (Or.inl ne_a1_ed_1)).other W5 (Or.inr (sl_10 hw))
  have f_8 : fF7 Z h5 a1 (.ref ed_1) := (p1_3.other W3 (Or.inl ne_a1_ed_1)).other W5 (Or.inr (sl_11 hw))
  exact o_rV X5 B hΦ hlk hret d17_22 e5 (by decide) (by decide) ⟨ed_1, sz_ed_1, ke_1, rfl, (Fr.snoc X5 (Fr.snoc X3 (Fr.app (Fr.nil n0) N1q) (Nat.le_trans Z0 ns_ed_1)) g_a1), K5, (f_2.wr W5), f_6, f5w, f_8, (V3.other W5 (Ne.symm ne_a1_ed_1)), p1_5⟩
theorem ef_rmAd3b (m : MethodId) (a1 : Addr) (x2 : Addr) (ed : Addr) : entryFrame m #[(.ref a1), (.ref x2), (.ref ed), (.int (1 : Int32))] 4 = mkF m 0 #[vr a1, vr x2, vr ed, vi 1] [] := by first | (simp [entryFrame, mkF, argsToLocals, Value.category]; done) | rfl
def Q_rmAd3b (Z : State) (a1 : Addr) (ed : Addr) (ke : ClassId) (um : Value) (x1 : Addr) (x2 : Addr) (h0 : Heap) (n0 : Nat) (v : Option Value) (h : Heap) (L : List Loc) : Prop := v = none ∧ Fr n0 L ∧ Keep h0 h [a1, ed] ∧ fE2 Z h a1 ∧ fF5 Z h a1 um ∧ fF6 Z h a1 (.int (2 : Int32)) ∧ fF7 Z h a1 (.ref ed) ∧ Arv Z h ed ke (.object "java/lang/Object") (10 : Int32) [(.ref x1), (.ref x2), .null, .null, .null, .null, .null, .null, .null, .null] .null
theorem rmAd3b (l : Launch) (Z : State) (a0 : Array Value) (hw : own_H Z a0) (ws : List Jvm.Cond) (a1 : Addr) (ed : Addr) (ke : ClassId) (um : Value) (x1 : Addr) (x2 : Addr) (h0 : Heap) (n0 : Nat) (Z0 : n0 ≤ h0.size) (E_a1 : fE2 Z h0 a1) (F_modCount_a1 : fF5 Z h0 a1 um) (F_size_a1 : fF6 Z h0 a1 (.int (1 : Int32))) (F_elementData_a1 : fF7 Z h0 a1 (.ref ed)) (g_a1 : n0 ≤ a1) (g_ed : n0 ≤ ed) (V_ed : Arv Z h0 ed ke (.object "java/lang/Object") (10 : Int32) [(.ref x1), .null, .null, .null, .null, .null, .null, .null, .null, .null] .null) (hO : Ovr Z ke "java/lang/Object") (E_x2 : fE3 Z h0 x2) :
    own_Met l mN16 kC16 4 none ws (own_rm 0 0 0 0) Z h0 #[(.ref a1), (.ref x2), (.ref ed), (.int (1 : Int32))] (Q_rmAd3b Z a1 ed ke um x1 x2 h0 n0) := by
  refine own_met (plainFor_of_name pn_5) (fun m => ef_rmAd3b m a1 x2 ed) ?_
  intro p e s m below meth c s₁ Φ hΦ X0 hx hby hml hown hnm hret hlk hZ e0
  have B : own_B p c _ _ := ⟨hx, hby, hml⟩
  have K0 : Keep h0 h0 [a1, ed] := Keep.refl _ _
  have nz_a1_ed : a1 ≠ ed := Exa.neArv E_a1 V_ed (wd_45 hw)
  show own_G p e below Φ s₁ (mkF m 0 #[vr a1, vr x2, vr ed, vi 1] [])
  refine o_iloadN X0 B d17_0 rfl ?_
  refine o_aloadN X0 B d17_1 rfl rfl ?_
  refine o_len X0 B hZ e0 V_ed d17_2 ?_
  refine o_icY X0 B 11 d17_3 (XT.ii_ne_t (by decide : ¬ ((1 : Int32) = (10 : Int32)))) rfl ?_
  refine o_aloadN X0 B d17_11 rfl rfl ?_
  refine o_iloadN X0 B d17_12 rfl ?_
  refine o_aloadN X0 B d17_13 rfl rfl ?_
  refine o_ast X0 B hZ e0 V_ed hO (Ins.of_exa E_x2 (wd_116 hw)) ⟨by decide, by decide⟩ 1 rfl (Nat.le_of_ble_eq_true rfl) d17_14 ?_
  intro T1 h1 X1 e1 W1 V1'
  have V1 : Arv Z h1 ed ke (.object "java/lang/Object") (10 : Int32) [(.ref x1), (.ref x2), .null, .null, .null, .null, .null, .null, .null, .null] .null := V1'
  have K1 := K0.wr W1 (Or.inl (List.mem_of_getElem? (i := 1) rfl))
  refine o_aloadN X1 B d17_15 rfl rfl ?_
  refine o_iloadN X1 B d17_16 rfl ?_
  refine o_iconst X1 B d17_17 ?_
  refine o_iadd X1 B d17_18 ?_
  have f_2 := F_size_a1.other W1 (Or.inl nz_a1_ed)
  refine o_pf (ty := .int) X1 B hZ hown (wd_93 hw) Via.refl e1 f_2 (E_a1.keep K1) (Or.inl (wd_94 hw)) (wd_45 hw) (by decide) rfl rfl d17_19 ?_
  intro T2 h2 X2 e2 W2
  have K2 := K1.wr W2 (Or.inl (List.mem_of_getElem? (i := 0) rfl))
  have f2w := f_2.same W2
  have f_5 : fF5 Z h2 a1 um := (F_modCount_a1.other W1 (Or.inl nz_a1_ed)).other W2 (Or.inr (sl_10 hw))
  have f_7 : fF7 Z h2 a1 (.ref ed) := (F_elementData_a1.other W1 (Or.inl nz_a1_ed)).other W2 (Or.inr (sl_11 hw))
  exact o_rV X2 B hΦ hlk hret d17_22 e2 (by decide) (by decide) ⟨rfl, (Fr.snoc X2 (Fr.snoc X1 (Fr.nil n0) g_ed) g_a1), K2, (E_a1.keep K2), f_5, f2w, f_7, (V1.other W2 (Ne.symm nz_a1_ed))⟩
theorem d16_0 : dK kC17 0 (.aload_n 0) 1 := by decide +kernel
theorem d16_1 : dK kC17 1 .dup 1 := by decide +kernel
theorem d16_2 : dK kC17 2 (.getfield 63) 3 := by decide +kernel
theorem d16_5 : dK kC17 5 (.iconst 1) 1 := by decide +kernel
theorem d16_6 : dK kC17 6 .iadd 1 := by decide +kernel
theorem d16_7 : dK kC17 7 (.putfield 63) 3 := by decide +kernel
theorem d16_10 : dK kC17 10 (.aload_n 0) 1 := by decide +kernel
theorem d16_11 : dK kC17 11 (.aload_n 1) 1 := by decide +kernel
theorem d16_12 : dK kC17 12 (.aload_n 0) 1 := by decide +kernel
theorem d16_13 : dK kC17 13 (.getfield 9) 3 := by decide +kernel
theorem d16_16 : dK kC17 16 (.aload_n 0) 1 := by decide +kernel
theorem d16_17 : dK kC17 17 (.getfield 48) 3 := by decide +kernel
theorem d16_20 : dK kC17 20 (.invokevirtual 131) 3 := by decide +kernel
theorem pd_11 : parseMethodDescriptor "(Ljava/lang/Object;[Ljava/lang/Object;I)V" = some ⟨[(.object "java/lang/Object"), (.array (.object "java/lang/Object")), .int], none⟩ := by decide +kernel
theorem d16_23 : dK kC17 23 (.iconst 1) 1 := by decide +kernel
theorem d16_24 : dK kC17 24 .ireturn 1 := by decide +kernel
theorem ef_rmAd1a (m : MethodId) (a1 : Addr) (x1 : Addr) : entryFrame m #[(.ref a1), (.ref x1)] 2 = mkF m 0 #[vr a1, vr x1] [] := by first | (simp [entryFrame, mkF, argsToLocals, Value.category]; done) | rfl
def Q_rmAd1a (Z : State) (a1 : Addr) (de : Addr) (kd : ClassId) (x1 : Addr) (h0 : Heap) (n0 : Nat) (v : Option Value) (h : Heap) (L : List Loc) : Prop := ∃ ed : Addr, h0.size ≤ ed ∧ ∃ ke : ClassId, v = some (.int (1 : Int32)) ∧ Fr n0 L ∧ Keep h0 h [a1] ∧ fE2 Z h a1 ∧ fF5 Z h a1 (.int (1 : Int32)) ∧ fF6 Z h a1 (.int (1 : Int32)) ∧ fF7 Z h a1 (.ref ed) ∧ Arv Z h ed ke (.object "java/lang/Object") (10 : Int32) [(.ref x1), .null, .null, .null, .null, .null, .null, .null, .null, .null] .null ∧ Ovr Z ke "java/lang/Object"
theorem rmAd1a (l : Launch) (Z : State) (a0 : Array Value) (hw : own_H Z a0) (ws : List Jvm.Cond) (a1 : Addr) (de : Addr) (kd : ClassId) (x1 : Addr) (h0 : Heap) (n0 : Nat) (Z0 : n0 ≤ h0.size) (O0 : Old Z n0 h0) (S_DEFAULTCAPACITY_EMPTY_ELEMENTDATA : Sta Z Z.heap "java/util/ArrayList" "DEFAULTCAPACITY_EMPTY_ELEMENTDATA" "[Ljava/lang/Object;" (.ref de)) (E_a1 : fE2 Z h0 a1) (F_modCount_a1 : fF5 Z h0 a1 (.int (0 : Int32))) (F_size_a1 : fF6 Z h0 a1 (.int (0 : Int32))) (F_elementData_a1 : fF7 Z h0 a1 (.ref de)) (g_a1 : n0 ≤ a1) (V_de : Arv Z h0 de kd (.object "java/lang/Object") (0 : Int32) [] .null) (E_x1 : fE3 Z h0 x1) :
    own_Met l mN17 kC17 2 (some .boolean) ws (own_rm 4 1 10 56) Z h0 #[(.ref a1), (.ref x1)] (Q_rmAd1a Z a1 de kd x1 h0 n0) := by
  refine own_met (plainFor_of_name pn_5) (fun m => ef_rmAd1a m a1 x1) ?_
  intro p e s m below meth c s₁ Φ hΦ X0 hx hby hml hown hnm hret hlk hZ e0
  have B : own_B p c _ _ := ⟨hx, hby, hml⟩
  have K0 : Keep h0 h0 [a1] := Keep.refl _ _
  have nz_a1_de : a1 ≠ de := Exa.neArv E_a1 V_de (wd_45 hw)
  show own_G p e below Φ s₁ (mkF m 0 #[vr a1, vr x1] [])
  refine o_aloadN X0 B d16_0 rfl rfl ?_
  refine o_dup X0 B d16_1 rfl ?_
  refine o_gf X0 B hZ hown (wd_91 hw) (Via.of (wd_92 hw)) e0 F_modCount_a1 d16_2 ?_
  intro T1 X1 e1
  refine o_iconst X1 B d16_5 ?_
  refine o_iadd X1 B d16_6 ?_
  refine o_pf (ty := .int) X1 B hZ hown (wd_91 hw) (Via.of (wd_92 hw)) e1 F_modCount_a1 E_a1 (Or.inl (wd_64 hw)) (wd_45 hw) (by decide) rfl rfl d16_7 ?_
  intro T2 h2 X2 e2 W2
  have K2 := K0.wr W2 (Or.inl (List.mem_of_getElem? (i := 0) rfl))
  have f2w := F_modCount_a1.same W2
  refine o_aloadN X2 B d16_10 rfl rfl ?_
  refine o_aloadN X2 B d16_11 rfl rfl ?_
  refine o_aloadN X2 B d16_12 rfl rfl ?_
  have f_1 : fF7 Z h2 a1 (.ref de) := F_elementData_a1.other W2 (Or.inr (sl_7 hw))
  refine o_gf X2 B hZ hown (wd_66 hw) Via.refl e2 f_1 d16_13 ?_
  intro T4 X4 e4
  refine o_aloadN X4 B d16_16 rfl rfl ?_
  have f_2 : fF6 Z h2 a1 (.int (0 : Int32)) := F_size_a1.other W2 (Or.inr (sl_6 hw))
  refine o_gf X4 B hZ hown (wd_93 hw) Via.refl e4 f_2 d16_17 ?_
  intro T5 X5 e5
  have f_3 := E_a1.keep K2
  refine o_cP (argsL := [(.ref x1), (.ref de), (.int (0 : Int32))]) (rest := []) X5 B hZ hown (wd_95 hw) (wd_96 hw) (wd_98 hw) (wd_97 hw) (wd_99 hw) (wd_46 hw) (by decide) f_3 0 (rmAd3a l Z a0 hw [] a1 de kd (.int (1 : Int32)) x1 h2 n0 (Nat.le_trans Z0 (Keep.of_wr W2).1) (O0.wr W2 g_a1) S_DEFAULTCAPACITY_EMPTY_ELEMENTDATA f_3 f2w f_2 f_1 g_a1 (V_de.keep K2 (ninS (Ne.symm nz_a1_de) nin0)) (E_x1.keep K2)) (by decide) (by decide) (lenOf pd_11 rfl) rfl rfl rfl d16_20 e5 (by decide) (by decide) rfl ?_
  rintro _ T6 _ X6 ⟨ed_6, ns_ed_6, ke_6, rfl, N6q, Kq6, p6_0, p6_1, p6_2, p6_3, p6_4, p6_5⟩
  have K6 := K2.trans Kq6 (allS (Or.inl (List.mem_of_getElem? (i := 0) rfl)) all0)
  refine o_iconst X6 B d16_23 ?_
  exact o_rZ X6 B hΦ hlk hret (by simp) d16_24 (1 : Int32) rfl rfl (by decide) (by decide) ⟨ed_6, (Nat.le_trans K2.1 ns_ed_6), ke_6, rfl, (Fr.app (Fr.snoc X2 (Fr.nil n0) g_a1) N6q), K6, p6_0, p6_1, p6_2, p6_3, p6_4, p6_5⟩
theorem ef_rmAd1b (m : MethodId) (a1 : Addr) (x2 : Addr) : entryFrame m #[(.ref a1), (.ref x2)] 2 = mkF m 0 #[vr a1, vr x2] [] := by first | (simp [entryFrame, mkF, argsToLocals, Value.category]; done) | rfl
def Q_rmAd1b (Z : State) (a1 : Addr) (ed : Addr) (ke : ClassId) (x1 : Addr) (x2 : Addr) (h0 : Heap) (n0 : Nat) (v : Option Value) (h : Heap) (L : List Loc) : Prop := v = some (.int (1 : Int32)) ∧ Fr n0 L ∧ Keep h0 h [a1, ed] ∧ fE2 Z h a1 ∧ fF5 Z h a1 (.int (2 : Int32)) ∧ fF6 Z h a1 (.int (2 : Int32)) ∧ fF7 Z h a1 (.ref ed) ∧ Arv Z h ed ke (.object "java/lang/Object") (10 : Int32) [(.ref x1), (.ref x2), .null, .null, .null, .null, .null, .null, .null, .null] .null
theorem rmAd1b (l : Launch) (Z : State) (a0 : Array Value) (hw : own_H Z a0) (ws : List Jvm.Cond) (a1 : Addr) (ed : Addr) (ke : ClassId) (x1 : Addr) (x2 : Addr) (h0 : Heap) (n0 : Nat) (Z0 : n0 ≤ h0.size) (E_a1 : fE2 Z h0 a1) (F_modCount_a1 : fF5 Z h0 a1 (.int (1 : Int32))) (F_size_a1 : fF6 Z h0 a1 (.int (1 : Int32))) (F_elementData_a1 : fF7 Z h0 a1 (.ref ed)) (g_a1 : n0 ≤ a1) (g_ed : n0 ≤ ed) (V_ed : Arv Z h0 ed ke (.object "java/lang/Object") (10 : Int32) [(.ref x1), .null, .null, .null, .null, .null, .null, .null, .null, .null] .null) (hO : Ovr Z ke "java/lang/Object") (E_x2 : fE3 Z h0 x2) :
    own_Met l mN17 kC17 2 (some .boolean) ws (own_rm 1 0 0 15) Z h0 #[(.ref a1), (.ref x2)] (Q_rmAd1b Z a1 ed ke x1 x2 h0 n0) := by
  refine own_met (plainFor_of_name pn_5) (fun m => ef_rmAd1b m a1 x2) ?_
  intro p e s m below meth c s₁ Φ hΦ X0 hx hby hml hown hnm hret hlk hZ e0
  have B : own_B p c _ _ := ⟨hx, hby, hml⟩
  have K0 : Keep h0 h0 [a1, ed] := Keep.refl _ _
  have nz_a1_ed : a1 ≠ ed := Exa.neArv E_a1 V_ed (wd_45 hw)
  show own_G p e below Φ s₁ (mkF m 0 #[vr a1, vr x2] [])
  refine o_aloadN X0 B d16_0 rfl rfl ?_
  refine o_dup X0 B d16_1 rfl ?_
  refine o_gf X0 B hZ hown (wd_91 hw) (Via.of (wd_92 hw)) e0 F_modCount_a1 d16_2 ?_
  intro T1 X1 e1
  refine o_iconst X1 B d16_5 ?_
  refine o_iadd X1 B d16_6 ?_
  refine o_pf (ty := .int) X1 B hZ hown (wd_91 hw) (Via.of (wd_92 hw)) e1 F_modCount_a1 E_a1 (Or.inl (wd_64 hw)) (wd_45 hw) (by decide) rfl rfl d16_7 ?_
  intro T2 h2 X2 e2 W2
  have K2 := K0.wr W2 (Or.inl (List.mem_of_getElem? (i := 0) rfl))
  have f2w := F_modCount_a1.same W2
  refine o_aloadN X2 B d16_10 rfl rfl ?_
  refine o_aloadN X2 B d16_11 rfl rfl ?_
  refine o_aloadN X2 B d16_12 rfl rfl ?_
  have f_1 : fF7 Z h2 a1 (.ref ed) := F_elementData_a1.other W2 (Or.inr (sl_7 hw))
  refine o_gf X2 B hZ hown (wd_66 hw) Via.refl e2 f_1 d16_13 ?_
  intro T3 X3 e3
  refine o_aloadN X3 B d16_16 rfl rfl ?_
  have f_2 : fF6 Z h2 a1 (.int (1 : Int32)) := F_size_a1.other W2 (Or.inr (sl_6 hw))
  refine o_gf X3 B hZ hown (wd_93 hw) Via.refl e3 f_2 d16_17 ?_
  intro T4 X4 e4
  have f_3 := E_a1.keep K2
  refine o_cP (argsL := [(.ref x2), (.ref ed), (.int (1 : Int32))]) (rest := []) X4 B hZ hown (wd_95 hw) (wd_96 hw) (wd_98 hw) (wd_97 hw) (wd_99 hw) (wd_46 hw) (by decide) f_3 0 (rmAd3b l Z a0 hw [] a1 ed ke (.int (2 : Int32)) x1 x2 h2 n0 (Nat.le_trans Z0 (Keep.of_wr W2).1) f_3 f2w f_2 f_1 g_a1 g_ed (V_ed.other W2 (Ne.symm nz_a1_ed)) hO (E_x2.keep K2)) (by decide) (by decide) (lenOf pd_11 rfl) rfl rfl rfl d16_20 e4 (by decide) (by decide) rfl ?_
  rintro _ T5 _ X5 ⟨rfl, N5q, Kq5, p5_0, p5_1, p5_2, p5_3, p5_4⟩
  have K5 := K2.trans Kq5 (allS (Or.inl (List.mem_of_getElem? (i := 0) rfl)) (allS (Or.inl (List.mem_of_getElem? (i := 1) rfl)) all0))
  refine o_iconst X5 B d16_23 ?_
  exact o_rZ X5 B hΦ hlk hret (by simp) d16_24 (1 : Int32) rfl rfl (by decide) (by decide) ⟨rfl, (Fr.app (Fr.snoc X2 (Fr.nil n0) g_a1) N5q), K5, p5_0, p5_1, p5_2, p5_3, p5_4⟩
theorem d15_0 : dK kC18 0 (.aload_n 0) 1 := by decide +kernel
theorem d15_1 : dK kC18 1 (.invokespecial 1) 3 := by decide +kernel
theorem d15_4 : dK kC18 4 .return_ 1 := by decide +kernel
theorem pn_6 : plainName "java/lang/Record" = true := by first | (simp [plainName, overriddenIn]; done) | decide +kernel
theorem ef_rmRecin (m : MethodId) (a1 : Addr) : entryFrame m #[(.ref a1)] 1 = mkF m 0 #[vr a1] [] := by first | (simp [entryFrame, mkF, argsToLocals, Value.category]; done) | rfl
def Q_rmRecin (Z : State) (a1 : Addr) (h0 : Heap) (n0 : Nat) (v : Option Value) (h : Heap) (L : List Loc) : Prop := v = none ∧ Fr n0 L ∧ h = h0
theorem rmRecin (l : Launch) (Z : State) (a0 : Array Value) (hw : own_H Z a0) (ws : List Jvm.Cond) (a1 : Addr) (h0 : Heap) (n0 : Nat) (Z0 : n0 ≤ h0.size)  :
    own_Met l mN18 kC18 1 none ws (own_rm 1 0 0 12) Z h0 #[(.ref a1)] (Q_rmRecin Z a1 h0 n0) := by
  refine own_met (plainFor_of_name pn_6) (fun m => ef_rmRecin m a1) ?_
  intro p e s m below meth c s₁ Φ hΦ X0 hx hby hml hown hnm hret hlk hZ e0
  have B : own_B p c _ _ := ⟨hx, hby, hml⟩
  show own_G p e below Φ s₁ (mkF m 0 #[vr a1] [])
  refine o_aloadN X0 B d15_0 rfl rfl ?_
  refine o_io X0 B hZ hown (wd_79 hw) (wd_12 hw) (wd_13 hw) e0 d15_1 (by decide) 0 rfl (by decide) rfl ?_
  intro T1 X1 e1
  exact o_rV X1 B hΦ hlk hret d15_4 e1 (by decide) (by decide) ⟨rfl, (Fr.nil n0), rfl⟩
theorem d14_0 : dK kC19 0 (.aload_n 0) 1 := by decide +kernel
theorem d14_1 : dK kC19 1 (.invokespecial 1) 3 := by decide +kernel
theorem d14_4 : dK kC19 4 (.aload_n 0) 1 := by decide +kernel
theorem d14_5 : dK kC19 5 (.aload_n 1) 1 := by decide +kernel
theorem d14_6 : dK kC19 6 (.putfield 7) 3 := by decide +kernel
theorem d14_9 : dK kC19 9 (.aload_n 0) 1 := by decide +kernel
theorem d14_10 : dK kC19 10 (.aload_n 2) 1 := by decide +kernel
theorem d14_11 : dK kC19 11 (.putfield 13) 3 := by decide +kernel
def sl_12 {Z : State} {a0 : Array Value} (hw : own_H Z a0) := slot_ne (C := "com/example/brickwork/brickwork/wire/Protocol$Listed") (Or.inr (wd_83 hw)) (Or.inr (wd_81 hw)) (by decide) (t := (.object "com/example/brickwork/brickwork/wire/Protocol$Standing")) (t' := (.object "java/lang/String")) (by decide) (by decide)
theorem d14_14 : dK kC19 14 (.aload_n 0) 1 := by decide +kernel
theorem d14_15 : dK kC19 15 (.aload_n 3) 1 := by decide +kernel
theorem d14_16 : dK kC19 16 (.putfield 17) 3 := by decide +kernel
def sl_13 {Z : State} {a0 : Array Value} (hw : own_H Z a0) := slot_ne (C := "com/example/brickwork/brickwork/wire/Protocol$Listed") (Or.inr (wd_85 hw)) (Or.inr (wd_81 hw)) (by decide) (t := (.array .byte)) (t' := (.object "java/lang/String")) (by decide) (by decide)
def sl_14 {Z : State} {a0 : Array Value} (hw : own_H Z a0) := slot_ne (C := "com/example/brickwork/brickwork/wire/Protocol$Listed") (Or.inr (wd_85 hw)) (Or.inr (wd_83 hw)) (by decide) (t := (.array .byte)) (t' := (.object "com/example/brickwork/brickwork/wire/Protocol$Standing")) (by decide) (by decide)
theorem d14_19 : dK kC19 19 .return_ 1 := by decide +kernel
def sl_15 {Z : State} {a0 : Array Value} (hw : own_H Z a0) := slot_ne (C := "com/example/brickwork/brickwork/wire/Protocol$Listed") (Or.inr (wd_81 hw)) (Or.inr (wd_83 hw)) (by decide) (t := (.object "java/lang/String")) (t' := (.object "com/example/brickwork/brickwork/wire/Protocol$Standing")) (by decide) (by decide)
def sl_16 {Z : State} {a0 : Array Value} (hw : own_H Z a0) := slot_ne (C := "com/example/brickwork/brickwork/wire/Protocol$Listed") (Or.inr (wd_81 hw)) (Or.inr (wd_85 hw)) (by decide) (t := (.object "java/lang/String")) (t' := (.array .byte)) (by decide) (by decide)
theorem pn_7 : plainName "com/example/brickwork/brickwork/wire/Protocol$Listed" = true := by first | (simp [plainName, overriddenIn]; done) | decide +kernel
theorem ef_rmLsin (m : MethodId) (a1 : Addr) (nm : Addr) (ly : Addr) : entryFrame m #[(.ref a1), (.ref nm), .null, (.ref ly)] 4 = mkF m 0 #[vr a1, vr nm, .val .null, vr ly] [] := by first | (simp [entryFrame, mkF, argsToLocals, Value.category]; done) | rfl
def Q_rmLsin (Z : State) (a1 : Addr) (nm : Addr) (ly : Addr) (h0 : Heap) (n0 : Nat) (v : Option Value) (h : Heap) (L : List Loc) : Prop := v = none ∧ Fr n0 L ∧ Keep h0 h [a1] ∧ fE3 Z h a1 ∧ fF8 Z h a1 (.ref nm)
theorem rmLsin (l : Launch) (Z : State) (a0 : Array Value) (hw : own_H Z a0) (ws : List Jvm.Cond) (a1 : Addr) (nm : Addr) (ly : Addr) (h0 : Heap) (n0 : Nat) (Z0 : n0 ≤ h0.size) (E_a1 : fE3 Z h0 a1) (F_name_a1 : fF8 Z h0 a1 .null) (F_standing_a1 : fF9 Z h0 a1 .null) (F_layout_a1 : fF10 Z h0 a1 .null) (g_a1 : n0 ≤ a1) :
    own_Met l mN19 kC19 4 none ws (own_rm 2 0 0 24) Z h0 #[(.ref a1), (.ref nm), .null, (.ref ly)] (Q_rmLsin Z a1 nm ly h0 n0) := by
  refine own_met (plainFor_of_name pn_7) (fun m => ef_rmLsin m a1 nm ly) ?_
  intro p e s m below meth c s₁ Φ hΦ X0 hx hby hml hown hnm hret hlk hZ e0
  have B : own_B p c _ _ := ⟨hx, hby, hml⟩
  have K0 : Keep h0 h0 [a1] := Keep.refl _ _
  show own_G p e below Φ s₁ (mkF m 0 #[vr a1, vr nm, .val .null, vr ly] [])
  refine o_aloadN X0 B d14_0 rfl rfl ?_
  refine o_cI (argsL := []) (rest := []) X0 B hZ hown rfl (wd_74 hw) (wd_75 hw) (wd_78 hw) (wd_77 hw) (by decide) rfl 0 (rmRecin l Z a0 hw [] a1 h0 n0 Z0 ) (by decide) (by decide) (lenOf pd_7 rfl) rfl rfl rfl d14_1 e0 (by decide) (by decide) rfl ?_
  rintro _ T1 _ X1 ⟨rfl, N1q, hs1⟩
  refine o_aloadN X1 B d14_4 rfl rfl ?_
  refine o_aloadN X1 B d14_5 rfl rfl ?_
  refine o_pf (ty := (.object "java/lang/String")) X1 B hZ hown (wd_80 hw) Via.refl hs1 F_name_a1 E_a1 (Or.inr ⟨(wd_81 hw), rfl, hnm⟩) (wd_69 hw) (by decide) rfl rfl d14_6 ?_
  intro T2 h2 X2 e2 W2
  have K2 := K0.wr W2 (Or.inl (List.mem_of_getElem? (i := 0) rfl))
  have f2w := F_name_a1.same W2
  refine o_aloadN X2 B d14_9 rfl rfl ?_
  refine o_aloadN X2 B d14_10 rfl rfl ?_
  have f_2 : fF9 Z h2 a1 .null := F_standing_a1.other W2 (Or.inr (sl_12 hw))
  refine o_pf (ty := (.object "com/example/brickwork/brickwork/wire/Protocol$Standing")) X2 B hZ hown (wd_82 hw) Via.refl e2 f_2 (E_a1.keep K2) (Or.inr ⟨(wd_83 hw), rfl, hnm⟩) (wd_69 hw) (by decide) rfl rfl d14_11 ?_
  intro T3 h3 X3 e3 W3
  have K3 := K2.wr W3 (Or.inl (List.mem_of_getElem? (i := 0) rfl))
  refine o_aloadN X3 B d14_14 rfl rfl ?_
  refine o_aloadN X3 B d14_15 rfl rfl ?_
  have f_4 : fF10 Z h2 a1 .null := F_layout_a1.other W2 (Or.inr (sl_13 hw))
  have f_5 : fF10 Z h3 a1 .null := f_4.other W3 (Or.inr (sl_14 hw))
  refine o_pf (ty := (.array .byte)) X3 B hZ hown (wd_84 hw) Via.refl e3 f_5 (E_a1.keep K3) (Or.inr ⟨(wd_85 hw), rfl, hnm⟩) (wd_69 hw) (by decide) rfl rfl d14_16 ?_
  intro T4 h4 X4 e4 W4
  have K4 := K3.wr W4 (Or.inl (List.mem_of_getElem? (i := 0) rfl))
  have f_7 : fF8 Z h3 a1 (.ref nm) := f2w.other W3 (Or.inr (sl_15 hw))
  have f_8 : fF8 Z h4 a1 (.ref nm) := f_7.other W4 (Or.inr (sl_16 hw))
  exact o_rV X4 B hΦ hlk hret d14_19 e4 (by decide) (by decide) ⟨rfl, (Fr.snoc X4 (Fr.snoc X3 (Fr.snoc X2 (Fr.app (Fr.nil n0) N1q) g_a1) g_a1) g_a1), K4, (E_a1.keep K4), f_8⟩
theorem d21_0 : dK kC20 0 (.aload_n 0) 1 := by decide +kernel
theorem d21_1 : dK kC20 1 (.invokespecial 1) 3 := by decide +kernel
theorem d21_4 : dK kC20 4 (.aload_n 0) 1 := by decide +kernel
theorem d21_5 : dK kC20 5 (.aload_n 1) 1 := by decide +kernel
theorem d21_6 : dK kC20 6 (.putfield 7) 3 := by decide +kernel
theorem d21_9 : dK kC20 9 (.aload_n 0) 1 := by decide +kernel
theorem d21_10 : dK kC20 10 (.lload_n 2) 1 := by decide +kernel
theorem d21_11 : dK kC20 11 (.putfield 13) 3 := by decide +kernel
def sl_17 {Z : State} {a0 : Array Value} (hw : own_H Z a0) := slot_ne (C := "com/example/brickwork/brickwork/wire/Protocol$Tables") (Or.inr (wd_130 hw)) (Or.inr (wd_128 hw)) (by decide) (t := .long) (t' := (.object "com/example/brickwork/brickwork/wire/Protocol$Knowledge")) (by decide) (by decide)
theorem d21_14 : dK kC20 14 (.aload_n 0) 1 := by decide +kernel
theorem d21_15 : dK kC20 15 (.aload 4) 2 := by decide +kernel
theorem d21_17 : dK kC20 17 (.putfield 17) 3 := by decide +kernel
def sl_18 {Z : State} {a0 : Array Value} (hw : own_H Z a0) := slot_ne (C := "com/example/brickwork/brickwork/wire/Protocol$Tables") (Or.inr (wd_132 hw)) (Or.inr (wd_128 hw)) (by decide) (t := (.object "java/util/List")) (t' := (.object "com/example/brickwork/brickwork/wire/Protocol$Knowledge")) (by decide) (by decide)
def sl_19 {Z : State} {a0 : Array Value} (hw : own_H Z a0) := slot_ne (C := "com/example/brickwork/brickwork/wire/Protocol$Tables") (Or.inr (wd_132 hw)) (Or.inr (wd_130 hw)) (by decide) (t := (.object "java/util/List")) (t' := .long) (by decide) (by decide)
theorem d21_20 : dK kC20 20 (.aload_n 0) 1 := by decide +kernel
theorem d21_21 : dK kC20 21 (.aload 5) 2 := by decide +kernel
theorem d21_23 : dK kC20 23 (.putfield 21) 3 := by decide +kernel
def sl_20 {Z : State} {a0 : Array Value} (hw : own_H Z a0) := slot_ne (C := "com/example/brickwork/brickwork/wire/Protocol$Tables") (Or.inr (wd_134 hw)) (Or.inr (wd_128 hw)) (by decide) (t := (.object "java/util/List")) (t' := (.object "com/example/brickwork/brickwork/wire/Protocol$Knowledge")) (by decide) (by decide)
def sl_21 {Z : State} {a0 : Array Value} (hw : own_H Z a0) := slot_ne (C := "com/example/brickwork/brickwork/wire/Protocol$Tables") (Or.inr (wd_134 hw)) (Or.inr (wd_130 hw)) (by decide) (t := (.object "java/util/List")) (t' := .long) (by decide) (by decide)
def sl_22 {Z : State} {a0 : Array Value} (hw : own_H Z a0) := slot_ne (C := "com/example/brickwork/brickwork/wire/Protocol$Tables") (Or.inr (wd_134 hw)) (Or.inr (wd_132 hw)) (by decide) (t := (.object "java/util/List")) (t' := (.object "java/util/List")) (by decide) (by decide)
theorem d21_26 : dK kC20 26 .return_ 1 := by decide +kernel
def sl_23 {Z : State} {a0 : Array Value} (hw : own_H Z a0) := slot_ne (C := "com/example/brickwork/brickwork/wire/Protocol$Tables") (Or.inr (wd_128 hw)) (Or.inr (wd_130 hw)) (by decide) (t := (.object "com/example/brickwork/brickwork/wire/Protocol$Knowledge")) (t' := .long) (by decide) (by decide)
def sl_24 {Z : State} {a0 : Array Value} (hw : own_H Z a0) := slot_ne (C := "com/example/brickwork/brickwork/wire/Protocol$Tables") (Or.inr (wd_128 hw)) (Or.inr (wd_132 hw)) (by decide) (t := (.object "com/example/brickwork/brickwork/wire/Protocol$Knowledge")) (t' := (.object "java/util/List")) (by decide) (by decide)
def sl_25 {Z : State} {a0 : Array Value} (hw : own_H Z a0) := slot_ne (C := "com/example/brickwork/brickwork/wire/Protocol$Tables") (Or.inr (wd_128 hw)) (Or.inr (wd_134 hw)) (by decide) (t := (.object "com/example/brickwork/brickwork/wire/Protocol$Knowledge")) (t' := (.object "java/util/List")) (by decide) (by decide)
def sl_26 {Z : State} {a0 : Array Value} (hw : own_H Z a0) := slot_ne (C := "com/example/brickwork/brickwork/wire/Protocol$Tables") (Or.inr (wd_130 hw)) (Or.inr (wd_132 hw)) (by decide) (t := .long) (t' := (.object "java/util/List")) (by decide) (by decide)
def sl_27 {Z : State} {a0 : Array Value} (hw : own_H Z a0) := slot_ne (C := "com/example/brickwork/brickwork/wire/Protocol$Tables") (Or.inr (wd_130 hw)) (Or.inr (wd_134 hw)) (by decide) (t := .long) (t' := (.object "java/util/List")) (by decide) (by decide)
def sl_28 {Z : State} {a0 : Array Value} (hw : own_H Z a0) := slot_ne (C := "com/example/brickwork/brickwork/wire/Protocol$Tables") (Or.inr (wd_132 hw)) (Or.inr (wd_134 hw)) (by decide) (t := (.object "java/util/List")) (t' := (.object "java/util/List")) (by decide) (by decide)
theorem pn_8 : plainName "com/example/brickwork/brickwork/wire/Protocol$Tables" = true := by first | (simp [plainName, overriddenIn]; done) | decide +kernel
theorem ef_rmTbin (m : MethodId) (a1 : Addr) (kn : Addr) (dr : Int64) (al : Addr) (ax : Addr) : entryFrame m #[(.ref a1), (.ref kn), (.long dr), (.ref al), (.ref ax)] 6 = mkF m 0 #[vr a1, vr kn, vj dr, .second, vr al, vr ax] [] := by first | (simp [entryFrame, mkF, argsToLocals, Value.category]; done) | rfl
def Q_rmTbin (Z : State) (a1 : Addr) (kn : Addr) (dr : Int64) (al : Addr) (ax : Addr) (h0 : Heap) (n0 : Nat) (v : Option Value) (h : Heap) (L : List Loc) : Prop := v = none ∧ Fr n0 L ∧ Keep h0 h [a1] ∧ fE4 Z h a1 ∧ fF11 Z h a1 (.ref kn) ∧ fF12 Z h a1 (.long dr) ∧ fF13 Z h a1 (.ref al)
theorem rmTbin (l : Launch) (Z : State) (a0 : Array Value) (hw : own_H Z a0) (ws : List Jvm.Cond) (a1 : Addr) (kn : Addr) (dr : Int64) (al : Addr) (ax : Addr) (h0 : Heap) (n0 : Nat) (Z0 : n0 ≤ h0.size) (E_a1 : fE4 Z h0 a1) (F_knowledge_a1 : fF11 Z h0 a1 .null) (F_directory_a1 : fF12 Z h0 a1 (.long (0 : Int64))) (F_tables_a1 : fF13 Z h0 a1 .null) (F_destroyed_a1 : fF14 Z h0 a1 .null) (g_a1 : n0 ≤ a1) :
    own_Met l mN20 kC20 6 none ws (own_rm 2 0 0 24) Z h0 #[(.ref a1), (.ref kn), (.long dr), (.ref al), (.ref ax)] (Q_rmTbin Z a1 kn dr al ax h0 n0) := by
  refine own_met (plainFor_of_name pn_8) (fun m => ef_rmTbin m a1 kn dr al ax) ?_
  intro p e s m below meth c s₁ Φ hΦ X0 hx hby hml hown hnm hret hlk hZ e0
  have B : own_B p c _ _ := ⟨hx, hby, hml⟩
  have K0 : Keep h0 h0 [a1] := Keep.refl _ _
  show own_G p e below Φ s₁ (mkF m 0 #[vr a1, vr kn, vj dr, .second, vr al, vr ax] [])
  refine o_aloadN X0 B d21_0 rfl rfl ?_
  refine o_cI (argsL := []) (rest := []) X0 B hZ hown rfl (wd_126 hw) (wd_75 hw) (wd_78 hw) (wd_77 hw) (by decide) rfl 0 (rmRecin l Z a0 hw [] a1 h0 n0 Z0 ) (by decide) (by decide) (lenOf pd_7 rfl) rfl rfl rfl d21_1 e0 (by decide) (by decide) rfl ?_
  rintro _ T1 _ X1 ⟨rfl, N1q, hs1⟩
  refine o_aloadN X1 B d21_4 rfl rfl ?_
  refine o_aloadN X1 B d21_5 rfl rfl ?_
  refine o_pf (ty := (.object "com/example/brickwork/brickwork/wire/Protocol$Knowledge")) X1 B hZ hown (wd_127 hw) Via.refl hs1 F_knowledge_a1 E_a1 (Or.inr ⟨(wd_128 hw), rfl, hnm⟩) (wd_121 hw) (by decide) rfl rfl d21_6 ?_
  intro T2 h2 X2 e2 W2
  have K2 := K0.wr W2 (Or.inl (List.mem_of_getElem? (i := 0) rfl))
  have f2w := F_knowledge_a1.same W2
  refine o_aloadN X2 B d21_9 rfl rfl ?_
  refine o_lloadN X2 B d21_10 rfl ?_
  have f_2 : fF12 Z h2 a1 (.long (0 : Int64)) := F_directory_a1.other W2 (Or.inr (sl_17 hw))
  refine o_pf (ty := .long) X2 B hZ hown (wd_129 hw) Via.refl e2 f_2 (E_a1.keep K2) (Or.inr ⟨(wd_130 hw), rfl, hnm⟩) (wd_121 hw) (by decide) rfl rfl d21_11 ?_
  intro T3 h3 X3 e3 W3
  have K3 := K2.wr W3 (Or.inl (List.mem_of_getElem? (i := 0) rfl))
  have f3w := f_2.same W3
  refine o_aloadN X3 B d21_14 rfl rfl ?_
  refine o_aload X3 B d21_15 rfl rfl ?_
  have f_4 : fF13 Z h2 a1 .null := F_tables_a1.other W2 (Or.inr (sl_18 hw))
  have f_5 : fF13 Z h3 a1 .null := f_4.other W3 (Or.inr (sl_19 hw))
  refine o_pf (ty := (.object "java/util/List")) X3 B hZ hown (wd_131 hw) Via.refl e3 f_5 (E_a1.keep K3) (Or.inr ⟨(wd_132 hw), rfl, hnm⟩) (wd_121 hw) (by decide) rfl rfl d21_17 ?_
  intro T4 h4 X4 e4 W4
  have K4 := K3.wr W4 (Or.inl (List.mem_of_getElem? (i := 0) rfl))
  have f4w := f_5.same W4
  refine o_aloadN X4 B d21_20 rfl rfl ?_
  refine o_aload X4 B d21_21 rfl rfl ?_
  have f_7 : fF14 Z h2 a1 .null := F_destroyed_a1.other W2 (Or.inr (sl_20 hw))
  have f_8 : fF14 Z h3 a1 .null := f_7.other W3 (Or.inr (sl_21 hw))
  have f_9 : fF14 Z h4 a1 .null := f_8.other W4 (Or.inr (sl_22 hw))
  refine o_pf (ty := (.object "java/util/List")) X4 B hZ hown (wd_133 hw) Via.refl e4 f_9 (E_a1.keep K4) (Or.inr ⟨(wd_134 hw), rfl, hnm⟩) (wd_121 hw) (by decide) rfl rfl d21_23 ?_
  intro T5 h5 X5 e5 W5
  have K5 := K4.wr W5 (Or.inl (List.mem_of_getElem? (i := 0) rfl))
  have f_11 : fF11 Z h3 a1 (.ref kn) := f2w.other W3 (Or.inr (sl_23 hw))
  have f_12 : fF11 Z h4 a1 (.ref kn) := f_11.other W4 (Or.inr (sl_24 hw))
  have f_13 : fF11 Z h5 a1 (.ref kn) := f_12.other W5 (Or.inr (sl_25 hw))
  have f_14 : fF12 Z h4 a1 (.long dr) := f3w.other W4 (Or.inr (sl_26 hw))
  have f_15 : fF12 Z h5 a1 (.long dr) := f_14.other W5 (Or.inr (sl_27 hw))
  have f_16 : fF13 Z h5 a1 (.ref al) := f4w.other W5 (Or.inr (sl_28 hw))
  exact o_rV X5 B hΦ hlk hret d21_26 e5 (by decide) (by decide) ⟨rfl, (Fr.snoc X5 (Fr.snoc X4 (Fr.snoc X3 (Fr.snoc X2 (Fr.app (Fr.nil n0) N1q) g_a1) g_a1) g_a1) g_a1), K5, (E_a1.keep K5), f_13, f_15, f_16⟩
theorem d23_0 : dK kC21 0 (.aload_n 0) 1 := by decide +kernel
theorem d23_1 : dK kC21 1 (.invokespecial 1) 3 := by decide +kernel
theorem d23_4 : dK kC21 4 .return_ 1 := by decide +kernel
theorem pn_9 : plainName "java/util/AbstractMap" = true := by first | (simp [plainName, overriddenIn]; done) | decide +kernel
theorem ef_rmAmin (m : MethodId) (a1 : Addr) : entryFrame m #[(.ref a1)] 1 = mkF m 0 #[vr a1] [] := by first | (simp [entryFrame, mkF, argsToLocals, Value.category]; done) | rfl
def Q_rmAmin (Z : State) (a1 : Addr) (h0 : Heap) (n0 : Nat) (v : Option Value) (h : Heap) (L : List Loc) : Prop := v = none ∧ Fr n0 L ∧ h = h0
theorem rmAmin (l : Launch) (Z : State) (a0 : Array Value) (hw : own_H Z a0) (ws : List Jvm.Cond) (a1 : Addr) (h0 : Heap) (n0 : Nat) (Z0 : n0 ≤ h0.size)  :
    own_Met l mN21 kC21 1 none ws (own_rm 1 0 0 12) Z h0 #[(.ref a1)] (Q_rmAmin Z a1 h0 n0) := by
  refine own_met (plainFor_of_name pn_9) (fun m => ef_rmAmin m a1) ?_
  intro p e s m below meth c s₁ Φ hΦ X0 hx hby hml hown hnm hret hlk hZ e0
  have B : own_B p c _ _ := ⟨hx, hby, hml⟩
  show own_G p e below Φ s₁ (mkF m 0 #[vr a1] [])
  refine o_aloadN X0 B d23_0 rfl rfl ?_
  refine o_io X0 B hZ hown (wd_147 hw) (wd_12 hw) (wd_13 hw) e0 d23_1 (by decide) 0 rfl (by decide) rfl ?_
  intro T1 X1 e1
  exact o_rV X1 B hΦ hlk hret d23_4 e1 (by decide) (by decide) ⟨rfl, (Fr.nil n0), rfl⟩
theorem d22_0 : dK kC22 0 (.aload_n 0) 1 := by decide +kernel
theorem d22_1 : dK kC22 1 (.invokespecial 43) 3 := by decide +kernel
theorem d22_4 : dK kC22 4 (.aload_n 0) 1 := by decide +kernel
theorem d22_5 : dK kC22 5 (.ldc 92) 2 := by decide +kernel
theorem d22_7 : dK kC22 7 (.putfield 81) 3 := by decide +kernel
theorem d22_10 : dK kC22 10 .return_ 1 := by decide +kernel
def sl_29 {Z : State} {a0 : Array Value} (hw : own_H Z a0) := slot_ne (C := "java/util/HashMap") (Or.inl (wd_183 hw)) (Or.inr (wd_150 hw)) (by decide) (t := (.array (.object "java/util/HashMap$Node"))) (t' := .float) (by decide) (by decide)
def sl_30 {Z : State} {a0 : Array Value} (hw : own_H Z a0) := slot_ne (C := "java/util/HashMap") (Or.inl (wd_190 hw)) (Or.inr (wd_150 hw)) (by decide) (t := .int) (t' := .float) (by decide) (by decide)
def sl_31 {Z : State} {a0 : Array Value} (hw : own_H Z a0) := slot_ne (C := "java/util/HashMap") (Or.inl (wd_216 hw)) (Or.inr (wd_150 hw)) (by decide) (t := .int) (t' := .float) (by decide) (by decide)
def sl_32 {Z : State} {a0 : Array Value} (hw : own_H Z a0) := slot_ne (C := "java/util/HashMap") (Or.inl (wd_214 hw)) (Or.inr (wd_150 hw)) (by decide) (t := .int) (t' := .float) (by decide) (by decide)
theorem pn_10 : plainName "java/util/HashMap" = true := by first | (simp [plainName, overriddenIn]; done) | decide +kernel
theorem ef_rmHmin (m : MethodId) (hm : Addr) : entryFrame m #[(.ref hm)] 1 = mkF m 0 #[vr hm] [] := by first | (simp [entryFrame, mkF, argsToLocals, Value.category]; done) | rfl
def Q_rmHmin (Z : State) (hm : Addr) (h0 : Heap) (n0 : Nat) (v : Option Value) (h : Heap) (L : List Loc) : Prop := v = none ∧ Fr n0 L ∧ Keep h0 h [hm] ∧ fE5 Z h hm ∧ fF15 Z h hm .null ∧ fF16 Z h hm (.int (0 : Int32)) ∧ fF17 Z h hm (.int (0 : Int32)) ∧ fF18 Z h hm (.int (0 : Int32))
theorem rmHmin (l : Launch) (Z : State) (a0 : Array Value) (hw : own_H Z a0) (ws : List Jvm.Cond) (hm : Addr) (h0 : Heap) (n0 : Nat) (Z0 : n0 ≤ h0.size) (E_hm : fE5 Z h0 hm) (F_table_hm : fF15 Z h0 hm .null) (F_threshold_hm : fF16 Z h0 hm (.int (0 : Int32))) (F_size_hm : fF17 Z h0 hm (.int (0 : Int32))) (F_modCount_hm : fF18 Z h0 hm (.int (0 : Int32))) (F_loadFactor_hm : fF19 Z h0 hm (.float 0)) (g_hm : n0 ≤ hm) :
    own_Met l mN22 kC22 1 none ws (own_rm 2 0 0 24) Z h0 #[(.ref hm)] (Q_rmHmin Z hm h0 n0) := by
  refine own_met (plainFor_of_name pn_10) (fun m => ef_rmHmin m hm) ?_
  intro p e s m below meth c s₁ Φ hΦ X0 hx hby hml hown hnm hret hlk hZ e0
  have B : own_B p c _ _ := ⟨hx, hby, hml⟩
  have K0 : Keep h0 h0 [hm] := Keep.refl _ _
  show own_G p e below Φ s₁ (mkF m 0 #[vr hm] [])
  refine o_aloadN X0 B d22_0 rfl rfl ?_
  refine o_cI (argsL := []) (rest := []) X0 B hZ hown rfl (wd_141 hw) (wd_142 hw) (wd_146 hw) (wd_145 hw) (by decide) rfl 0 (rmAmin l Z a0 hw [] hm h0 n0 Z0 ) (by decide) (by decide) (lenOf pd_7 rfl) rfl rfl rfl d22_1 e0 (by decide) (by decide) rfl ?_
  rintro _ T1 _ X1 ⟨rfl, N1q, hs1⟩
  refine o_aloadN X1 B d22_4 rfl rfl ?_
  refine o_fl X1 B hZ hown (wd_148 hw) d22_5 ?_
  refine o_pf (ty := .float) X1 B hZ hown (wd_149 hw) Via.refl hs1 F_loadFactor_hm E_hm (Or.inr ⟨(wd_150 hw), rfl, hnm⟩) (wd_136 hw) (by decide) rfl rfl d22_7 ?_
  intro T2 h2 X2 e2 W2
  have K2 := K0.wr W2 (Or.inl (List.mem_of_getElem? (i := 0) rfl))
  have f_2 : fF15 Z h2 hm .null := F_table_hm.other W2 (Or.inr (sl_29 hw))
  have f_3 : fF16 Z h2 hm (.int (0 : Int32)) := F_threshold_hm.other W2 (Or.inr (sl_30 hw))
  have f_4 : fF17 Z h2 hm (.int (0 : Int32)) := F_size_hm.other W2 (Or.inr (sl_31 hw))
  have f_5 : fF18 Z h2 hm (.int (0 : Int32)) := F_modCount_hm.other W2 (Or.inr (sl_32 hw))
  exact o_rV X2 B hΦ hlk hret d22_10 e2 (by decide) (by decide) ⟨rfl, (Fr.snoc X2 (Fr.app (Fr.nil n0) N1q) g_hm), K2, (E_hm.keep K2), f_2, f_3, f_4, f_5⟩
theorem d28_0 : dK kC23 0 (.aload_n 0) 1 := by decide +kernel
theorem d28_1 : dK kC23 1 .arraylength 1 := by decide +kernel
theorem d28_2 : dK kC23 2 (.lookupswitch 40 #[(0, 26), (1, 30)]) 26 := by decide +kernel
theorem d28_32 : dK kC23 32 (.aload_n 0) 1 := by decide +kernel
theorem d28_33 : dK kC23 33 (.iconst 0) 1 := by decide +kernel
theorem d28_34 : dK kC23 34 .baload 1 := by decide +kernel
theorem d28_35 : dK kC23 35 (.sipush 255) 3 := by decide +kernel
theorem d28_38 : dK kC23 38 .iand 1 := by decide +kernel
theorem d28_39 : dK kC23 39 (.goto 12) 3 := by decide +kernel
theorem d28_51 : dK kC23 51 .ireturn 1 := by decide +kernel
theorem ef_rmLhc (m : MethodId) (vb : Addr) : entryFrame m #[(.ref vb)] 1 = mkF m 0 #[vr vb] [] := by first | (simp [entryFrame, mkF, argsToLocals, Value.category]; done) | rfl
def Q_rmLhc (Z : State) (vb : Addr) (kb : ClassId) (qc : Int32) (h0 : Heap) (n0 : Nat) (v : Option Value) (h : Heap) (L : List Loc) : Prop := v = some (.int qc) ∧ Fr n0 L ∧ h = h0
theorem rmLhc (l : Launch) (Z : State) (a0 : Array Value) (hw : own_H Z a0) (ws : List Jvm.Cond) (vb : Addr) (kb : ClassId) (qc : Int32) (h0 : Heap) (n0 : Nat) (Z0 : n0 ≤ h0.size) (V_vb : Arv Z h0 vb kb .byte (1 : Int32) [(.int (own_lo qc))] (.int (0 : Int32))) (hr : ¬ qc < 0 ∧ ¬ (255 : Int32) < qc) :
    own_Met l mN23 kC23 1 (some .int) ws (own_rm 0 0 0 0) Z h0 #[(.ref vb)] (Q_rmLhc Z vb kb qc h0 n0) := by
  refine own_met (plainFor_of_name pn_2) (fun m => ef_rmLhc m vb) ?_
  intro p e s m below meth c s₁ Φ hΦ X0 hx hby hml hown hnm hret hlk hZ e0
  have B : own_B p c _ _ := ⟨hx, hby, hml⟩
  show own_G p e below Φ s₁ (mkF m 0 #[vr vb] [])
  refine o_aloadN X0 B d28_0 rfl rfl ?_
  refine o_len X0 B hZ e0 V_vb d28_1 ?_
  refine o_lsw X0 B 32 d28_2 (by decide) (a := 1) (off := 30) (by decide) rfl ?_
  refine o_aloadN X0 B d28_32 rfl rfl ?_
  refine o_iconst X0 B d28_33 ?_
  refine o_bal (v := (.int (own_lo qc))) X0 B hZ e0 V_vb ⟨by decide, by decide⟩ rfl d28_34 ?_
  refine o_sipush X0 B d28_35 ?_
  refine o_iand X0 B d28_38 ?_
  refine o_goto X0 B 51 d28_39 rfl ?_
  exact o_rI X0 B hΦ hlk hret d28_51 e0 (by decide) (by decide) ⟨(congrArg (fun z => some (Value.int z)) (own_b8 hr)), (Fr.nil n0), rfl⟩
theorem d27_0 : dK kC24 0 (.getstatic 38) 3 := by decide +kernel
theorem d27_3 : dK kC24 3 (.ifCond .eq 14) 3 := by decide +kernel
theorem d27_6 : dK kC24 6 (.aload_n 0) 1 := by decide +kernel
theorem d27_7 : dK kC24 7 (.getfield 15) 3 := by decide +kernel
theorem d27_10 : dK kC24 10 (.ifCond .ne 7) 3 := by decide +kernel
theorem d27_13 : dK kC24 13 (.iconst 1) 1 := by decide +kernel
theorem d27_14 : dK kC24 14 (.goto 4) 3 := by decide +kernel
theorem d27_18 : dK kC24 18 .ireturn 1 := by decide +kernel
theorem ef_rmLat (m : MethodId) (a1 : Addr) : entryFrame m #[(.ref a1)] 1 = mkF m 0 #[vr a1] [] := by first | (simp [entryFrame, mkF, argsToLocals, Value.category]; done) | rfl
def Q_rmLat (Z : State) (a1 : Addr) (gz : Int32) (h0 : Heap) (n0 : Nat) (v : Option Value) (h : Heap) (L : List Loc) : Prop := v = some (.int (1 : Int32)) ∧ Fr n0 L ∧ h = h0
theorem rmLat (l : Launch) (Z : State) (a0 : Array Value) (hw : own_H Z a0) (ws : List Jvm.Cond) (a1 : Addr) (gz : Int32) (h0 : Heap) (n0 : Nat) (Z0 : n0 ≤ h0.size) (O0 : Old Z n0 h0) (S_COMPACT_STRINGS : Sta Z Z.heap "java/lang/String" "COMPACT_STRINGS" "Z" (.int gz)) (hgz : ¬ gz = (0 : Int32)) (E_a1 : fE1 Z h0 a1) (F_coder_a1 : fF2 Z h0 a1 (.int (0 : Int32))) :
    own_Met l mN24 kC24 1 (some .boolean) ws (own_rm 0 0 0 0) Z h0 #[(.ref a1)] (Q_rmLat Z a1 gz h0 n0) := by
  refine own_met (plainFor_of_name pn_1) (fun m => ef_rmLat m a1) ?_
  intro p e s m below meth c s₁ Φ hΦ X0 hx hby hml hown hnm hret hlk hZ e0
  have B : own_B p c _ _ := ⟨hx, hby, hml⟩
  show own_G p e below Φ s₁ (mkF m 0 #[vr a1] [])
  refine o_gs X0 B hZ hown (wd_14 hw) Via.refl e0 (S_COMPACT_STRINGS.ext O0.2) d27_0 ?_
  intro T1 X1 e1
  refine o_ifN X1 B d27_3 (XT.i0_eq_f hgz) ?_
  refine o_aloadN X1 B d27_6 rfl rfl ?_
  refine o_gf X1 B hZ hown (wd_26 hw) Via.refl e1 F_coder_a1 d27_7 ?_
  intro T2 X2 e2
  refine o_ifN X2 B d27_10 (XT.i0_ne_f (by decide : ((0 : Int32) = (0 : Int32)))) ?_
  refine o_iconst X2 B d27_13 ?_
  refine o_goto X2 B 18 d27_14 rfl ?_
  exact o_rZ X2 B hΦ hlk hret (by simp) d27_18 (1 : Int32) rfl e2 (by decide) (by decide) ⟨rfl, (Fr.nil n0), rfl⟩
theorem d26_0 : dK kC25 0 (.aload_n 0) 1 := by decide +kernel
theorem d26_1 : dK kC25 1 (.getfield 19) 3 := by decide +kernel
theorem d26_4 : dK kC25 4 (.istore_n 1) 1 := by decide +kernel
theorem d26_5 : dK kC25 5 (.iload_n 1) 1 := by decide +kernel
theorem d26_6 : dK kC25 6 (.ifCond .ne 52) 3 := by decide +kernel
theorem d26_9 : dK kC25 9 (.aload_n 0) 1 := by decide +kernel
theorem d26_10 : dK kC25 10 (.getfield 23) 3 := by decide +kernel
theorem d26_13 : dK kC25 13 (.ifCond .ne 45) 3 := by decide +kernel
theorem d26_16 : dK kC25 16 (.aload_n 0) 1 := by decide +kernel
theorem d26_17 : dK kC25 17 (.invokevirtual 492) 3 := by decide +kernel
theorem pd_12 : parseMethodDescriptor "()Z" = some ⟨[], some .boolean⟩ := by decide +kernel
theorem d26_20 : dK kC25 20 (.ifCond .eq 13) 3 := by decide +kernel
theorem d26_23 : dK kC25 23 (.aload_n 0) 1 := by decide +kernel
theorem d26_24 : dK kC25 24 (.getfield 9) 3 := by decide +kernel
theorem d26_27 : dK kC25 27 (.invokestatic 628) 3 := by decide +kernel
theorem pd_13 : parseMethodDescriptor "([B)I" = some ⟨[(.array .byte)], some .int⟩ := by decide +kernel
theorem d26_30 : dK kC25 30 (.goto 10) 3 := by decide +kernel
theorem d26_40 : dK kC25 40 (.istore_n 1) 1 := by decide +kernel
theorem d26_41 : dK kC25 41 (.iload_n 1) 1 := by decide +kernel
theorem d26_42 : dK kC25 42 (.ifCond .ne 11) 3 := by decide +kernel
theorem d26_45 : dK kC25 45 (.aload_n 0) 1 := by decide +kernel
theorem d26_46 : dK kC25 46 (.iconst 1) 1 := by decide +kernel
theorem d26_47 : dK kC25 47 (.putfield 23) 3 := by decide +kernel
theorem d26_50 : dK kC25 50 (.goto 8) 3 := by decide +kernel
theorem d26_58 : dK kC25 58 (.iload_n 1) 1 := by decide +kernel
theorem d26_59 : dK kC25 59 .ireturn 1 := by decide +kernel
def sl_33 {Z : State} {a0 : Array Value} (hw : own_H Z a0) := slot_ne (C := "java/lang/String") (Or.inr (wd_29 hw)) (Or.inl (wd_168 hw)) (by decide) (t := (.array .byte)) (t' := .boolean) (by decide) (by decide)
def sl_34 {Z : State} {a0 : Array Value} (hw : own_H Z a0) := slot_ne (C := "java/lang/String") (Or.inr (wd_27 hw)) (Or.inl (wd_168 hw)) (by decide) (t := .byte) (t' := .boolean) (by decide) (by decide)
def sl_35 {Z : State} {a0 : Array Value} (hw : own_H Z a0) := slot_ne (C := "java/lang/String") (Or.inl (wd_166 hw)) (Or.inl (wd_168 hw)) (by decide) (t := .int) (t' := .boolean) (by decide) (by decide)
theorem d26_53 : dK kC25 53 (.aload_n 0) 1 := by decide +kernel
theorem d26_54 : dK kC25 54 (.iload_n 1) 1 := by decide +kernel
theorem d26_55 : dK kC25 55 (.putfield 19) 3 := by decide +kernel
def sl_36 {Z : State} {a0 : Array Value} (hw : own_H Z a0) := slot_ne (C := "java/lang/String") (Or.inr (wd_29 hw)) (Or.inl (wd_166 hw)) (by decide) (t := (.array .byte)) (t' := .int) (by decide) (by decide)
def sl_37 {Z : State} {a0 : Array Value} (hw : own_H Z a0) := slot_ne (C := "java/lang/String") (Or.inr (wd_27 hw)) (Or.inl (wd_166 hw)) (by decide) (t := .byte) (t' := .int) (by decide) (by decide)
def sl_38 {Z : State} {a0 : Array Value} (hw : own_H Z a0) := slot_ne (C := "java/lang/String") (Or.inl (wd_168 hw)) (Or.inl (wd_166 hw)) (by decide) (t := .boolean) (t' := .int) (by decide) (by decide)
theorem ef_rmShc (m : MethodId) (a1 : Addr) : entryFrame m #[(.ref a1)] 2 = mkF m 0 #[vr a1, .unset] [] := by first | (simp [entryFrame, mkF, argsToLocals, Value.category]; done) | rfl
def Q_rmShc (Z : State) (a1 : Addr) (gz : Int32) (va : Addr) (kva : ClassId) (qc : Int32) (hv : Int32) (zv : Int32) (h0 : Heap) (n0 : Nat) (v : Option Value) (h : Heap) (L : List Loc) : Prop := ∃ hv2 : Int32, ∃ zv2 : Int32, v = some (.int qc) ∧ Fr n0 L ∧ Keep h0 h [a1] ∧ fE1 Z h a1 ∧ fF1 Z h a1 (.ref va) ∧ fF2 Z h a1 (.int (0 : Int32)) ∧ fF3 Z h a1 (.int hv2) ∧ fF4 Z h a1 (.int zv2) ∧ own_hc hv2 zv2 qc
theorem rmShc (l : Launch) (Z : State) (a0 : Array Value) (hw : own_H Z a0) (ws : List Jvm.Cond) (a1 : Addr) (gz : Int32) (va : Addr) (kva : ClassId) (qc : Int32) (hv : Int32) (zv : Int32) (h0 : Heap) (n0 : Nat) (Z0 : n0 ≤ h0.size) (O0 : Old Z n0 h0) (S_COMPACT_STRINGS : Sta Z Z.heap "java/lang/String" "COMPACT_STRINGS" "Z" (.int gz)) (hgz : ¬ gz = (0 : Int32)) (E_a1 : fE1 Z h0 a1) (F_value_a1 : fF1 Z h0 a1 (.ref va)) (F_coder_a1 : fF2 Z h0 a1 (.int (0 : Int32))) (V_va : Arv Z h0 va kva .byte (1 : Int32) [(.int (own_lo qc))] (.int (0 : Int32))) (F_hash_a1 : fF3 Z h0 a1 (.int hv)) (F_hashIsZero_a1 : fF4 Z h0 a1 (.int zv)) (g_a1 : n0 ≤ a1) (hr : ¬ qc < 0 ∧ ¬ (255 : Int32) < qc) (hi : own_hc hv zv qc) :
    own_Met l mN25 kC25 2 (some .int) ws (own_rm 1 0 0 12) Z h0 #[(.ref a1)] (Q_rmShc Z a1 gz va kva qc hv zv h0 n0) := by
  refine own_met (plainFor_of_name pn_1) (fun m => ef_rmShc m a1) ?_
  intro p e s m below meth c s₁ Φ hΦ X0 hx hby hml hown hnm hret hlk hZ e0
  have N0 := Fr.nil n0
  have B : own_B p c _ _ := ⟨hx, hby, hml⟩
  have K0 : Keep h0 h0 [a1] := Keep.refl _ _
  show own_G p e below Φ s₁ (mkF m 0 #[vr a1, .unset] [])
  refine o_aloadN X0 B d26_0 rfl rfl ?_
  refine o_gf X0 B hZ hown (wd_165 hw) Via.refl e0 F_hash_a1 d26_1 ?_
  intro T1 X1 e1
  refine o_istoreN (L' := #[vr a1, vi hv]) X1 B d26_4 rfl ?_
  refine o_iloadN X1 B d26_5 rfl ?_
  by_cases hc6 : hv = (0 : Int32)
  · refine o_ifN X1 B d26_6 (XT.i0_ne_f hc6) ?_
    refine o_aloadN X1 B d26_9 rfl rfl ?_
    refine o_gf X1 B hZ hown (wd_167 hw) Via.refl e1 F_hashIsZero_a1 d26_10 ?_
    intro T2 X2 e2
    by_cases hc13 : zv = (0 : Int32)
    · refine o_ifN X2 B d26_13 (XT.i0_ne_f hc13) ?_
      refine o_aloadN X2 B d26_16 rfl rfl ?_
      refine o_cV (argsL := []) (rest := []) X2 B hZ hown (wd_169 hw) (wd_170 hw) (wd_172 hw) (wd_171 hw) (wd_173 hw) (wd_3 hw) (by decide) E_a1 0 (rmLat l Z a0 hw [] a1 gz h0 n0 Z0 O0 S_COMPACT_STRINGS hgz E_a1 F_coder_a1) (by decide) (by decide) (lenOf pd_12 rfl) rfl rfl rfl d26_17 e2 (by decide) (by decide) rfl ?_
      rintro _ T3 _ X3 ⟨rfl, N3q, hs3⟩
      refine o_ifN X3 B d26_20 (XT.i0_eq_f (by decide : ¬ ((1 : Int32) = (0 : Int32)))) ?_
      refine o_aloadN X3 B d26_23 rfl rfl ?_
      refine o_gf X3 B hZ hown (wd_28 hw) Via.refl hs3 F_value_a1 d26_24 ?_
      intro T4 X4 e4
      refine o_cS (argsL := [(.ref va)]) (rest := []) X4 B hZ hown (wd_174 hw) (wd_175 hw) (wd_176 hw) (wd_35 hw) (by decide) 0 (rmLhc l Z a0 hw [] va kva qc h0 n0 Z0 V_va hr) (by decide) (by decide) (lenOf pd_13 rfl) rfl rfl rfl d26_27 e4 (by decide) (by decide) rfl ?_
      rintro _ T5 _ X5 ⟨rfl, N5q, hs5⟩
      have N5 := Fr.app (Fr.app N0 N3q) N5q
      refine o_goto X5 B 40 d26_30 rfl ?_
      refine o_istoreN (L' := #[vr a1, vi qc]) X5 B d26_40 rfl ?_
      refine o_iloadN X5 B d26_41 rfl ?_
      by_cases hc42 : qc = (0 : Int32)
      · refine o_ifN X5 B d26_42 (XT.i0_ne_f hc42) ?_
        refine o_aloadN X5 B d26_45 rfl rfl ?_
        refine o_iconst X5 B d26_46 ?_
        show own_G p e below Φ T5 (mkF m 47 #[vr a1, vi qc] [(.int (1 : Int32)), (.ref a1)])
        refine o_pfN (ty := .boolean) (v' := (.int (1 : Int32))) X5 B hZ hown (wd_167 hw) Via.refl hs5 F_hashIsZero_a1 E_a1 (Or.inl (wd_168 hw)) (wd_2 hw) (by decide) rfl (fits_nar_bool (1 : Int32)) d26_47 ?_
        intro T6 h6 X6 e6 W6
        have K6 := K0.wr W6 (Or.inl (List.mem_of_getElem? (i := 0) rfl))
        have f6w := F_hashIsZero_a1.same W6
        refine o_goto X6 B 58 d26_50 rfl ?_
        refine o_iloadN X6 B d26_58 rfl ?_
        have f_2 : fF1 Z h6 a1 (.ref va) := F_value_a1.other W6 (Or.inr (sl_33 hw))
        have f_3 : fF2 Z h6 a1 (.int (0 : Int32)) := F_coder_a1.other W6 (Or.inr (sl_34 hw))
        have f_4 : fF3 Z h6 a1 (.int hv) := F_hash_a1.other W6 (Or.inr (sl_35 hw))
        exact o_rI X6 B hΦ hlk hret d26_59 e6 (by decide) (by decide) ⟨hv, (1 : Int32), rfl, (Fr.snoc X6 N5 g_a1), K6, (E_a1.keep K6), f_2, f_3, f_4, f6w, ⟨hi.1, fun _ => hc42⟩⟩
      · refine o_ifY X5 B 53 d26_42 (XT.i0_ne_t hc42) rfl ?_
        refine o_aloadN X5 B d26_53 rfl rfl ?_
        refine o_iloadN X5 B d26_54 rfl ?_
        show own_G p e below Φ T5 (mkF m 55 #[vr a1, vi qc] [(.int qc), (.ref a1)])
        refine o_pf (ty := .int) X5 B hZ hown (wd_165 hw) Via.refl hs5 F_hash_a1 E_a1 (Or.inl (wd_166 hw)) (wd_2 hw) (by decide) rfl rfl d26_55 ?_
        intro T8 h8 X8 e8 W8
        have K8 := K0.wr W8 (Or.inl (List.mem_of_getElem? (i := 0) rfl))
        have f8w := F_hash_a1.same W8
        refine o_iloadN X8 B d26_58 rfl ?_
        have f_6 : fF1 Z h8 a1 (.ref va) := F_value_a1.other W8 (Or.inr (sl_36 hw))
        have f_7 : fF2 Z h8 a1 (.int (0 : Int32)) := F_coder_a1.other W8 (Or.inr (sl_37 hw))
        have f_8 : fF4 Z h8 a1 (.int zv) := F_hashIsZero_a1.other W8 (Or.inr (sl_38 hw))
        exact o_rI X8 B hΦ hlk hret d26_59 e8 (by decide) (by decide) ⟨qc, zv, rfl, (Fr.snoc X8 N5 g_a1), K8, (E_a1.keep K8), f_6, f_7, f8w, f_8, ⟨fun _ => rfl, hi.2⟩⟩
    · refine o_ifY X2 B 58 d26_13 (XT.i0_ne_t hc13) rfl ?_
      refine o_iloadN X2 B d26_58 rfl ?_
      exact o_rI X2 B hΦ hlk hret d26_59 e2 (by decide) (by decide) ⟨hv, zv, (congrArg (fun z => some (Value.int z)) (hc6.trans (hi.2 hc13).symm)), N0, K0, E_a1, F_value_a1, F_coder_a1, F_hash_a1, F_hashIsZero_a1, hi⟩
  · refine o_ifY X1 B 58 d26_6 (XT.i0_ne_t hc6) rfl ?_
    refine o_iloadN X1 B d26_58 rfl ?_
    exact o_rI X1 B hΦ hlk hret d26_59 e1 (by decide) (by decide) ⟨hv, zv, (congrArg (fun z => some (Value.int z)) (hi.1 hc6)), N0, K0, E_a1, F_value_a1, F_coder_a1, F_hash_a1, F_hashIsZero_a1, hi⟩
theorem d25_0 : dK kC26 0 (.aload_n 0) 1 := by decide +kernel
theorem d25_1 : dK kC26 1 (.ifnonnull 7) 3 := by decide +kernel
theorem d25_8 : dK kC26 8 (.aload_n 0) 1 := by decide +kernel
theorem d25_9 : dK kC26 9 (.invokevirtual 1) 3 := by decide +kernel
theorem pd_14 : parseMethodDescriptor "()I" = some ⟨[], some .int⟩ := by decide +kernel
theorem d25_12 : dK kC26 12 .dup 1 := by decide +kernel
theorem d25_13 : dK kC26 13 (.istore_n 1) 1 := by decide +kernel
theorem d25_14 : dK kC26 14 (.iload_n 1) 1 := by decide +kernel
theorem d25_15 : dK kC26 15 (.bipush 16) 2 := by decide +kernel
theorem d25_17 : dK kC26 17 .iushr 1 := by decide +kernel
theorem d25_18 : dK kC26 18 .ixor 1 := by decide +kernel
theorem d25_19 : dK kC26 19 .ireturn 1 := by decide +kernel
theorem ef_rmHsh (m : MethodId) (a1 : Addr) : entryFrame m #[(.ref a1)] 2 = mkF m 0 #[vr a1, .unset] [] := by first | (simp [entryFrame, mkF, argsToLocals, Value.category]; done) | rfl
def Q_rmHsh (Z : State) (a1 : Addr) (gz : Int32) (va : Addr) (kva : ClassId) (qc : Int32) (hv : Int32) (zv : Int32) (h0 : Heap) (n0 : Nat) (v : Option Value) (h : Heap) (L : List Loc) : Prop := ∃ hv2 : Int32, ∃ zv2 : Int32, v = some (.int qc) ∧ Fr n0 L ∧ Keep h0 h [a1] ∧ fE1 Z h a1 ∧ fF1 Z h a1 (.ref va) ∧ fF2 Z h a1 (.int (0 : Int32)) ∧ fF3 Z h a1 (.int hv2) ∧ fF4 Z h a1 (.int zv2) ∧ own_hc hv2 zv2 qc
theorem rmHsh (l : Launch) (Z : State) (a0 : Array Value) (hw : own_H Z a0) (ws : List Jvm.Cond) (a1 : Addr) (gz : Int32) (va : Addr) (kva : ClassId) (qc : Int32) (hv : Int32) (zv : Int32) (h0 : Heap) (n0 : Nat) (Z0 : n0 ≤ h0.size) (O0 : Old Z n0 h0) (S_COMPACT_STRINGS : Sta Z Z.heap "java/lang/String" "COMPACT_STRINGS" "Z" (.int gz)) (hgz : ¬ gz = (0 : Int32)) (E_a1 : fE1 Z h0 a1) (F_value_a1 : fF1 Z h0 a1 (.ref va)) (F_coder_a1 : fF2 Z h0 a1 (.int (0 : Int32))) (V_va : Arv Z h0 va kva .byte (1 : Int32) [(.int (own_lo qc))] (.int (0 : Int32))) (F_hash_a1 : fF3 Z h0 a1 (.int hv)) (F_hashIsZero_a1 : fF4 Z h0 a1 (.int zv)) (g_a1 : n0 ≤ a1) (hr : ¬ qc < 0 ∧ ¬ (255 : Int32) < qc) (hi : own_hc hv zv qc) :
    own_Met l mN29 kC26 2 (some .int) ws (own_rm 2 0 0 25) Z h0 #[(.ref a1)] (Q_rmHsh Z a1 gz va kva qc hv zv h0 n0) := by
  refine own_met (plainFor_of_name pn_10) (fun m => ef_rmHsh m a1) ?_
  intro p e s m below meth c s₁ Φ hΦ X0 hx hby hml hown hnm hret hlk hZ e0
  have B : own_B p c _ _ := ⟨hx, hby, hml⟩
  have K0 : Keep h0 h0 [a1] := Keep.refl _ _
  show own_G p e below Φ s₁ (mkF m 0 #[vr a1, .unset] [])
  refine o_aloadN X0 B d25_0 rfl rfl ?_
  refine o_ifnonnullY X0 B 8 d25_1 rfl ?_
  refine o_aloadN X0 B d25_8 rfl rfl ?_
  refine o_cW (argsL := []) (rest := []) X0 B hZ hown (wd_159 hw) (wd_160 hw) (wd_236 hw) rfl (wd_162 hw) (wd_163 hw) (wd_164 hw) (wd_3 hw) (by decide) E_a1 0 (rmShc l Z a0 hw [] a1 gz va kva qc hv zv h0 n0 Z0 O0 S_COMPACT_STRINGS hgz E_a1 F_value_a1 F_coder_a1 V_va F_hash_a1 F_hashIsZero_a1 g_a1 hr hi) (by decide) (by decide) (lenOf pd_14 rfl) rfl rfl rfl d25_9 e0 (by decide) (by decide) rfl ?_
  rintro _ T1 _ X1 ⟨hv2_1, zv2_1, rfl, N1q, Kq1, p1_0, p1_1, p1_2, p1_3, p1_4, p1_5⟩
  have K1 := K0.trans Kq1 (allS (Or.inl (List.mem_of_getElem? (i := 0) rfl)) all0)
  refine o_dup X1 B d25_12 rfl ?_
  refine o_istoreN (L' := #[vr a1, vi qc]) X1 B d25_13 rfl ?_
  refine o_iloadN X1 B d25_14 rfl ?_
  refine o_bipush X1 B d25_15 ?_
  refine o_iushr X1 B d25_17 ?_
  refine o_ixor X1 B d25_18 ?_
  exact o_rI X1 B hΦ hlk hret d25_19 rfl (by decide) (by decide) ⟨hv2_1, zv2_1, (congrArg (fun z => some (Value.int z)) (own_spread hr)), (Fr.app (Fr.nil n0) N1q), K1, p1_0, p1_1, p1_2, p1_3, p1_4, p1_5⟩
theorem d32_0 : dK kC27 0 (.aload_n 0) 1 := by decide +kernel
theorem d32_1 : dK kC27 1 (.invokespecial 1) 3 := by decide +kernel
theorem d32_4 : dK kC27 4 (.aload_n 0) 1 := by decide +kernel
theorem d32_5 : dK kC27 5 (.iload_n 1) 1 := by decide +kernel
theorem d32_6 : dK kC27 6 (.putfield 7) 3 := by decide +kernel
theorem d32_9 : dK kC27 9 (.aload_n 0) 1 := by decide +kernel
theorem d32_10 : dK kC27 10 (.aload_n 2) 1 := by decide +kernel
theorem d32_11 : dK kC27 11 (.putfield 13) 3 := by decide +kernel
def sl_39 {Z : State} {a0 : Array Value} (hw : own_H Z a0) := slot_ne (C := "java/util/HashMap$Node") (Or.inr (wd_208 hw)) (Or.inr (wd_206 hw)) (by decide) (t := (.object "java/lang/Object")) (t' := .int) (by decide) (by decide)
theorem d32_14 : dK kC27 14 (.aload_n 0) 1 := by decide +kernel
theorem d32_15 : dK kC27 15 (.aload_n 3) 1 := by decide +kernel
theorem d32_16 : dK kC27 16 (.putfield 17) 3 := by decide +kernel
def sl_40 {Z : State} {a0 : Array Value} (hw : own_H Z a0) := slot_ne (C := "java/util/HashMap$Node") (Or.inl (wd_210 hw)) (Or.inr (wd_206 hw)) (by decide) (t := (.object "java/lang/Object")) (t' := .int) (by decide) (by decide)
def sl_41 {Z : State} {a0 : Array Value} (hw : own_H Z a0) := slot_ne (C := "java/util/HashMap$Node") (Or.inl (wd_210 hw)) (Or.inr (wd_208 hw)) (by decide) (t := (.object "java/lang/Object")) (t' := (.object "java/lang/Object")) (by decide) (by decide)
theorem d32_19 : dK kC27 19 (.aload_n 0) 1 := by decide +kernel
theorem d32_20 : dK kC27 20 (.aload 4) 2 := by decide +kernel
theorem d32_22 : dK kC27 22 (.putfield 20) 3 := by decide +kernel
def sl_42 {Z : State} {a0 : Array Value} (hw : own_H Z a0) := slot_ne (C := "java/util/HashMap$Node") (Or.inl (wd_212 hw)) (Or.inr (wd_206 hw)) (by decide) (t := (.object "java/util/HashMap$Node")) (t' := .int) (by decide) (by decide)
def sl_43 {Z : State} {a0 : Array Value} (hw : own_H Z a0) := slot_ne (C := "java/util/HashMap$Node") (Or.inl (wd_212 hw)) (Or.inr (wd_208 hw)) (by decide) (t := (.object "java/util/HashMap$Node")) (t' := (.object "java/lang/Object")) (by decide) (by decide)
def sl_44 {Z : State} {a0 : Array Value} (hw : own_H Z a0) := slot_ne (C := "java/util/HashMap$Node") (Or.inl (wd_212 hw)) (Or.inl (wd_210 hw)) (by decide) (t := (.object "java/util/HashMap$Node")) (t' := (.object "java/lang/Object")) (by decide) (by decide)
theorem d32_25 : dK kC27 25 .return_ 1 := by decide +kernel
def sl_45 {Z : State} {a0 : Array Value} (hw : own_H Z a0) := slot_ne (C := "java/util/HashMap$Node") (Or.inr (wd_206 hw)) (Or.inr (wd_208 hw)) (by decide) (t := .int) (t' := (.object "java/lang/Object")) (by decide) (by decide)
def sl_46 {Z : State} {a0 : Array Value} (hw : own_H Z a0) := slot_ne (C := "java/util/HashMap$Node") (Or.inr (wd_206 hw)) (Or.inl (wd_210 hw)) (by decide) (t := .int) (t' := (.object "java/lang/Object")) (by decide) (by decide)
def sl_47 {Z : State} {a0 : Array Value} (hw : own_H Z a0) := slot_ne (C := "java/util/HashMap$Node") (Or.inr (wd_206 hw)) (Or.inl (wd_212 hw)) (by decide) (t := .int) (t' := (.object "java/util/HashMap$Node")) (by decide) (by decide)
def sl_48 {Z : State} {a0 : Array Value} (hw : own_H Z a0) := slot_ne (C := "java/util/HashMap$Node") (Or.inr (wd_208 hw)) (Or.inl (wd_210 hw)) (by decide) (t := (.object "java/lang/Object")) (t' := (.object "java/lang/Object")) (by decide) (by decide)
def sl_49 {Z : State} {a0 : Array Value} (hw : own_H Z a0) := slot_ne (C := "java/util/HashMap$Node") (Or.inr (wd_208 hw)) (Or.inl (wd_212 hw)) (by decide) (t := (.object "java/lang/Object")) (t' := (.object "java/util/HashMap$Node")) (by decide) (by decide)
def sl_50 {Z : State} {a0 : Array Value} (hw : own_H Z a0) := slot_ne (C := "java/util/HashMap$Node") (Or.inl (wd_210 hw)) (Or.inl (wd_212 hw)) (by decide) (t := (.object "java/lang/Object")) (t' := (.object "java/util/HashMap$Node")) (by decide) (by decide)
theorem pn_11 : plainName "java/util/HashMap$Node" = true := by first | (simp [plainName, overriddenIn]; done) | decide +kernel
theorem ef_rmNdin (m : MethodId) (a1 : Addr) (ec : Int32) (ks : Addr) (tv : Value) (htv : tv.isRef = true) : entryFrame m #[(.ref a1), (.int ec), (.ref ks), tv, .null] 5 = mkF m 0 #[vr a1, vi ec, vr ks, .val tv, .val .null] [] := by rcases ref_cases htv with rfl | ⟨_, rfl⟩ <;> rfl
def Q_rmNdin (Z : State) (a1 : Addr) (ec : Int32) (ks : Addr) (tv : Value) (h0 : Heap) (n0 : Nat) (v : Option Value) (h : Heap) (L : List Loc) : Prop := v = none ∧ Fr n0 L ∧ Keep h0 h [a1] ∧ fE6 Z h a1 ∧ fF20 Z h a1 (.int ec) ∧ fF21 Z h a1 (.ref ks) ∧ fF22 Z h a1 tv ∧ fF23 Z h a1 .null
theorem rmNdin (l : Launch) (Z : State) (a0 : Array Value) (hw : own_H Z a0) (ws : List Jvm.Cond) (a1 : Addr) (ec : Int32) (ks : Addr) (tv : Value) (h0 : Heap) (n0 : Nat) (Z0 : n0 ≤ h0.size) (E_a1 : fE6 Z h0 a1) (F_hash_a1 : fF20 Z h0 a1 (.int (0 : Int32))) (F_key_a1 : fF21 Z h0 a1 .null) (F_value_a1 : fF22 Z h0 a1 .null) (F_next_a1 : fF23 Z h0 a1 .null) (g_a1 : n0 ≤ a1) (htv : tv.isRef = true) :
    own_Met l mN30 kC27 5 none ws (own_rm 1 0 0 12) Z h0 #[(.ref a1), (.int ec), (.ref ks), tv, .null] (Q_rmNdin Z a1 ec ks tv h0 n0) := by
  refine own_met (plainFor_of_name pn_11) (fun m => ef_rmNdin m a1 ec ks tv htv) ?_
  intro p e s m below meth c s₁ Φ hΦ X0 hx hby hml hown hnm hret hlk hZ e0
  have B : own_B p c _ _ := ⟨hx, hby, hml⟩
  have K0 : Keep h0 h0 [a1] := Keep.refl _ _
  show own_G p e below Φ s₁ (mkF m 0 #[vr a1, vi ec, vr ks, .val tv, .val .null] [])
  refine o_aloadN X0 B d32_0 rfl rfl ?_
  refine o_io X0 B hZ hown (wd_204 hw) (wd_12 hw) (wd_13 hw) e0 d32_1 (by decide) 0 rfl (by decide) rfl ?_
  intro T1 X1 e1
  refine o_aloadN X1 B d32_4 rfl rfl ?_
  refine o_iloadN X1 B d32_5 rfl ?_
  refine o_pf (ty := .int) X1 B hZ hown (wd_205 hw) Via.refl e1 F_hash_a1 E_a1 (Or.inr ⟨(wd_206 hw), rfl, hnm⟩) (wd_198 hw) (by decide) rfl rfl d32_6 ?_
  intro T2 h2 X2 e2 W2
  have K2 := K0.wr W2 (Or.inl (List.mem_of_getElem? (i := 0) rfl))
  have f2w := F_hash_a1.same W2
  refine o_aloadN X2 B d32_9 rfl rfl ?_
  refine o_aloadN X2 B d32_10 rfl rfl ?_
  have f_2 : fF21 Z h2 a1 .null := F_key_a1.other W2 (Or.inr (sl_39 hw))
  refine o_pf (ty := (.object "java/lang/Object")) X2 B hZ hown (wd_207 hw) Via.refl e2 f_2 (E_a1.keep K2) (Or.inr ⟨(wd_208 hw), rfl, hnm⟩) (wd_198 hw) (by decide) rfl rfl d32_11 ?_
  intro T3 h3 X3 e3 W3
  have K3 := K2.wr W3 (Or.inl (List.mem_of_getElem? (i := 0) rfl))
  have f3w := f_2.same W3
  refine o_aloadN X3 B d32_14 rfl rfl ?_
  refine o_aloadN X3 B d32_15 rfl htv ?_
  have f_4 : fF22 Z h2 a1 .null := F_value_a1.other W2 (Or.inr (sl_40 hw))
  have f_5 : fF22 Z h3 a1 .null := f_4.other W3 (Or.inr (sl_41 hw))
  refine o_pf (ty := (.object "java/lang/Object")) X3 B hZ hown (wd_209 hw) Via.refl e3 f_5 (E_a1.keep K3) (Or.inl (wd_210 hw)) (wd_198 hw) (by decide) (own_nar htv) (own_fit htv) d32_16 ?_
  intro T4 h4 X4 e4 W4
  have K4 := K3.wr W4 (Or.inl (List.mem_of_getElem? (i := 0) rfl))
  have f4w := f_5.same W4
  refine o_aloadN X4 B d32_19 rfl rfl ?_
  refine o_aload X4 B d32_20 rfl rfl ?_
  have f_7 : fF23 Z h2 a1 .null := F_next_a1.other W2 (Or.inr (sl_42 hw))
  have f_8 : fF23 Z h3 a1 .null := f_7.other W3 (Or.inr (sl_43 hw))
  have f_9 : fF23 Z h4 a1 .null := f_8.other W4 (Or.inr (sl_44 hw))
  refine o_pf (ty := (.object "java/util/HashMap$Node")) X4 B hZ hown (wd_211 hw) Via.refl e4 f_9 (E_a1.keep K4) (Or.inl (wd_212 hw)) (wd_198 hw) (by decide) rfl rfl d32_22 ?_
  intro T5 h5 X5 e5 W5
  have K5 := K4.wr W5 (Or.inl (List.mem_of_getElem? (i := 0) rfl))
  have f5w := f_9.same W5
  have f_11 : fF20 Z h3 a1 (.int ec) := f2w.other W3 (Or.inr (sl_45 hw))
  have f_12 : fF20 Z h4 a1 (.int ec) := f_11.other W4 (Or.inr (sl_46 hw))
  have f_13 : fF20 Z h5 a1 (.int ec) := f_12.other W5 (Or.inr (sl_47 hw))
  have f_14 : fF21 Z h4 a1 (.ref ks) := f3w.other W4 (Or.inr (sl_48 hw))
  have f_15 : fF21 Z h5 a1 (.ref ks) := f_14.other W5 (Or.inr (sl_49 hw))
  have f_16 : fF22 Z h5 a1 tv := f4w.other W5 (Or.inr (sl_50 hw))
  exact o_rV X5 B hΦ hlk hret d32_25 e5 (by decide) (by decide) ⟨rfl, (Fr.snoc X5 (Fr.snoc X4 (Fr.snoc X3 (Fr.snoc X2 (Fr.nil n0) g_a1) g_a1) g_a1) g_a1), K5, (E_a1.keep K5), f_13, f_15, f_16, f5w⟩
theorem d31_0 : dK kC28 0 (.new 163) 3 := by decide +kernel
theorem d31_3 : dK kC28 3 .dup 1 := by decide +kernel
theorem d31_4 : dK kC28 4 (.iload_n 1) 1 := by decide +kernel
theorem d31_5 : dK kC28 5 (.aload_n 2) 1 := by decide +kernel
theorem d31_6 : dK kC28 6 (.aload_n 3) 1 := by decide +kernel
theorem d31_7 : dK kC28 7 (.aload 4) 2 := by decide +kernel
theorem d31_9 : dK kC28 9 (.invokespecial 375) 3 := by decide +kernel
theorem pd_15 : parseMethodDescriptor "(ILjava/lang/Object;Ljava/lang/Object;Ljava/util/HashMap$Node;)V" = some ⟨[.int, (.object "java/lang/Object"), (.object "java/lang/Object"), (.object "java/util/HashMap$Node")], none⟩ := by decide +kernel
theorem d31_12 : dK kC28 12 .areturn 1 := by decide +kernel
theorem ef_rmNwn (m : MethodId) (hm : Addr) (ec : Int32) (ks : Addr) (tv : Value) (htv : tv.isRef = true) : entryFrame m #[(.ref hm), (.int ec), (.ref ks), tv, .null] 5 = mkF m 0 #[vr hm, vi ec, vr ks, .val tv, .val .null] [] := by rcases ref_cases htv with rfl | ⟨_, rfl⟩ <;> rfl
def Q_rmNwn (Z : State) (hm : Addr) (ec : Int32) (ks : Addr) (tv : Value) (h0 : Heap) (n0 : Nat) (v : Option Value) (h : Heap) (L : List Loc) : Prop := ∃ nd : Addr, h0.size ≤ nd ∧ v = some (.ref nd) ∧ Fr n0 L ∧ Keep h0 h [] ∧ fE6 Z h nd ∧ fF20 Z h nd (.int ec) ∧ fF21 Z h nd (.ref ks) ∧ fF22 Z h nd tv ∧ fF23 Z h nd .null
theorem rmNwn (l : Launch) (Z : State) (a0 : Array Value) (hw : own_H Z a0) (ws : List Jvm.Cond) (hm : Addr) (ec : Int32) (ks : Addr) (tv : Value) (h0 : Heap) (n0 : Nat) (Z0 : n0 ≤ h0.size) (E_hm : fE5 Z h0 hm) (htv : tv.isRef = true) :
    own_Met l mN31 kC28 5 (some (.object "java/util/HashMap$Node")) ws (own_rm 2 1 4 29) Z h0 #[(.ref hm), (.int ec), (.ref ks), tv, .null] (Q_rmNwn Z hm ec ks tv h0 n0) := by
  refine own_met (plainFor_of_name pn_10) (fun m => ef_rmNwn m hm ec ks tv htv) ?_
  intro p e s m below meth c s₁ Φ hΦ X0 hx hby hml hown hnm hret hlk hZ e0
  have B : own_B p c _ _ := ⟨hx, hby, hml⟩
  have K0 : Keep h0 h0 [] := Keep.refl _ _
  show own_G p e below Φ s₁ (mkF m 0 #[vr hm, vi ec, vr ks, .val tv, .val .null] [])
  refine o_new X0 B hZ hown (wd_191 hw) (wd_198 hw) (wd_199 hw) e0 d31_0 (by decide) (by decide) ?_
  intro T1 h1 ob1 g1 X1 e1 E1 A1 D1
  have sz_ob1 : h0.size ≤ ob1 := Nat.le_trans K0.1 (Nat.le_of_eq g1.symm)
  have K1 := K0.ext E1
  have F_hash_ob1 : fF20 Z h1 ob1 (.int (0 : Int32)) := D1 (Or.inr (wd_206 hw)) (ty := .int) (by decide)
  have F_key_ob1 : fF21 Z h1 ob1 .null := D1 (Or.inr (wd_208 hw)) (ty := (.object "java/lang/Object")) (by decide)
  have F_value_ob1 : fF22 Z h1 ob1 .null := D1 (Or.inl (wd_210 hw)) (ty := (.object "java/lang/Object")) (by decide)
  have F_next_ob1 : fF23 Z h1 ob1 .null := D1 (Or.inl (wd_212 hw)) (ty := (.object "java/util/HashMap$Node")) (by decide)
  refine o_dup X1 B d31_3 rfl ?_
  refine o_iloadN X1 B d31_4 rfl ?_
  refine o_aloadN X1 B d31_5 rfl rfl ?_
  refine o_aloadN X1 B d31_6 rfl htv ?_
  refine o_aload X1 B d31_7 rfl rfl ?_
  refine o_cI (argsL := [(.int ec), (.ref ks), tv, .null]) (rest := [(.ref ob1)]) X1 B hZ hown rfl (wd_200 hw) (wd_201 hw) (wd_203 hw) (wd_199 hw) (by decide) rfl 1 (rmNdin l Z a0 hw [] ob1 ec ks tv h1 n0 (Nat.le_trans Z0 E1.1) A1 F_hash_ob1 F_key_ob1 F_value_ob1 F_next_ob1 (Nat.le_trans Z0 (Nat.le_of_eq g1.symm)) htv) (by decide) (by decide) (lenOf pd_15 rfl) rfl rfl rfl d31_9 e1 (by decide) (by decide) rfl ?_
  rintro _ T2 _ X2 ⟨rfl, N2q, Kq2, p2_0, p2_1, p2_2, p2_3, p2_4⟩
  have K2 := K1.trans Kq2 (allS (Or.inr sz_ob1) all0)
  exact o_rA X2 B hΦ hlk hret rfl rfl d31_12 rfl (by decide) (by decide) ⟨ob1, sz_ob1, rfl, (Fr.app (Fr.nil n0) N2q), K2, p2_0, p2_1, p2_2, p2_3, p2_4⟩
theorem d30_0 : dK kC29 0 (.aload_n 0) 1 := by decide +kernel
theorem d30_1 : dK kC29 1 (.getfield 105) 3 := by decide +kernel
theorem d30_4 : dK kC29 4 (.astore_n 1) 1 := by decide +kernel
theorem d30_5 : dK kC29 5 (.aload_n 1) 1 := by decide +kernel
theorem d30_6 : dK kC29 6 (.ifnonnull 7) 3 := by decide +kernel
theorem d30_9 : dK kC29 9 (.iconst 0) 1 := by decide +kernel
theorem d30_10 : dK kC29 10 (.goto 5) 3 := by decide +kernel
theorem d30_15 : dK kC29 15 (.istore_n 2) 1 := by decide +kernel
theorem d30_16 : dK kC29 16 (.aload_n 0) 1 := by decide +kernel
theorem d30_17 : dK kC29 17 (.getfield 88) 3 := by decide +kernel
theorem d30_20 : dK kC29 20 (.istore_n 3) 1 := by decide +kernel
theorem d30_21 : dK kC29 21 (.iconst 0) 1 := by decide +kernel
theorem d30_22 : dK kC29 22 (.istore 5) 2 := by decide +kernel
theorem d30_24 : dK kC29 24 (.iload_n 2) 1 := by decide +kernel
theorem d30_25 : dK kC29 25 (.ifCond .le 42) 3 := by decide +kernel
theorem d30_67 : dK kC29 67 (.iload_n 3) 1 := by decide +kernel
theorem d30_68 : dK kC29 68 (.ifCond .le 9) 3 := by decide +kernel
theorem d30_77 : dK kC29 77 (.bipush 16) 2 := by decide +kernel
theorem d30_79 : dK kC29 79 (.istore 4) 2 := by decide +kernel
theorem d30_81 : dK kC29 81 (.bipush 12) 2 := by decide +kernel
theorem d30_83 : dK kC29 83 (.istore 5) 2 := by decide +kernel
theorem d30_85 : dK kC29 85 (.iload 5) 2 := by decide +kernel
theorem d30_87 : dK kC29 87 (.ifCond .ne 38) 3 := by decide +kernel
theorem d30_125 : dK kC29 125 (.aload_n 0) 1 := by decide +kernel
theorem d30_126 : dK kC29 126 (.iload 5) 2 := by decide +kernel
theorem d30_128 : dK kC29 128 (.putfield 88) 3 := by decide +kernel
theorem d30_131 : dK kC29 131 (.iload 4) 2 := by decide +kernel
theorem d30_133 : dK kC29 133 (.anewarray 163) 3 := by decide +kernel
theorem d30_136 : dK kC29 136 (.astore 6) 2 := by decide +kernel
theorem d30_138 : dK kC29 138 (.aload_n 0) 1 := by decide +kernel
theorem d30_139 : dK kC29 139 (.aload 6) 2 := by decide +kernel
theorem d30_141 : dK kC29 141 (.putfield 105) 3 := by decide +kernel
def sl_51 {Z : State} {a0 : Array Value} (hw : own_H Z a0) := slot_ne (C := "java/util/HashMap") (Or.inl (wd_183 hw)) (Or.inl (wd_190 hw)) (by decide) (t := (.array (.object "java/util/HashMap$Node"))) (t' := .int) (by decide) (by decide)
theorem d30_144 : dK kC29 144 (.aload_n 1) 1 := by decide +kernel
theorem d30_145 : dK kC29 145 (.ifnull 208) 3 := by decide +kernel
theorem d30_353 : dK kC29 353 (.aload 6) 2 := by decide +kernel
theorem d30_355 : dK kC29 355 .areturn 1 := by decide +kernel
def sl_52 {Z : State} {a0 : Array Value} (hw : own_H Z a0) := slot_ne (C := "java/util/HashMap") (Or.inl (wd_190 hw)) (Or.inl (wd_183 hw)) (by decide) (t := .int) (t' := (.array (.object "java/util/HashMap$Node"))) (by decide) (by decide)
def sl_53 {Z : State} {a0 : Array Value} (hw : own_H Z a0) := slot_ne (C := "java/util/HashMap") (Or.inl (wd_216 hw)) (Or.inl (wd_190 hw)) (by decide) (t := .int) (t' := .int) (by decide) (by decide)
def sl_54 {Z : State} {a0 : Array Value} (hw : own_H Z a0) := slot_ne (C := "java/util/HashMap") (Or.inl (wd_216 hw)) (Or.inl (wd_183 hw)) (by decide) (t := .int) (t' := (.array (.object "java/util/HashMap$Node"))) (by decide) (by decide)
def sl_55 {Z : State} {a0 : Array Value} (hw : own_H Z a0) := slot_ne (C := "java/util/HashMap") (Or.inl (wd_214 hw)) (Or.inl (wd_190 hw)) (by decide) (t := .int) (t' := .int) (by decide) (by decide)
def sl_56 {Z : State} {a0 : Array Value} (hw : own_H Z a0) := slot_ne (C := "java/util/HashMap") (Or.inl (wd_214 hw)) (Or.inl (wd_183 hw)) (by decide) (t := .int) (t' := (.array (.object "java/util/HashMap$Node"))) (by decide) (by decide)
theorem ef_rmRsz (m : MethodId) (hm : Addr) : entryFrame m #[(.ref hm)] 14 = mkF m 0 #[vr hm, .unset, .unset, .unset, .unset, .unset, .unset, .unset, .unset, .unset, .unset, .unset, .unset, .unset] [] := by first | (simp [entryFrame, mkF, argsToLocals, Value.category]; done) | rfl
def Q_rmRsz (Z : State) (hm : Addr) (h0 : Heap) (n0 : Nat) (v : Option Value) (h : Heap) (L : List Loc) : Prop := ∃ tab : Addr, h0.size ≤ tab ∧ ∃ kt : ClassId, v = some (.ref tab) ∧ Fr n0 L ∧ Keep h0 h [hm] ∧ fE5 Z h hm ∧ fF15 Z h hm (.ref tab) ∧ fF16 Z h hm (.int (12 : Int32)) ∧ fF17 Z h hm (.int (0 : Int32)) ∧ fF18 Z h hm (.int (0 : Int32)) ∧ Arv Z h tab kt (.object "java/util/HashMap$Node") (16 : Int32) (List.replicate 16 .null) .null ∧ Ovr Z kt "java/util/HashMap$Node"
theorem rmRsz (l : Launch) (Z : State) (a0 : Array Value) (hw : own_H Z a0) (ws : List Jvm.Cond) (hm : Addr) (h0 : Heap) (n0 : Nat) (Z0 : n0 ≤ h0.size) (E_hm : fE5 Z h0 hm) (F_table_hm : fF15 Z h0 hm .null) (F_threshold_hm : fF16 Z h0 hm (.int (0 : Int32))) (F_size_hm : fF17 Z h0 hm (.int (0 : Int32))) (F_modCount_hm : fF18 Z h0 hm (.int (0 : Int32))) (g_hm : n0 ≤ hm) :
    own_Met l mN32 kC29 14 (some (.array (.object "java/util/HashMap$Node"))) ws (own_rm 0 1 16 0) Z h0 #[(.ref hm)] (Q_rmRsz Z hm h0 n0) := by
  refine own_met (plainFor_of_name pn_10) (fun m => ef_rmRsz m hm) ?_
  intro p e s m below meth c s₁ Φ hΦ X0 hx hby hml hown hnm hret hlk hZ e0
  have B : own_B p c _ _ := ⟨hx, hby, hml⟩
  have K0 : Keep h0 h0 [hm] := Keep.refl _ _
  show own_G p e below Φ s₁ (mkF m 0 #[vr hm, .unset, .unset, .unset, .unset, .unset, .unset, .unset, .unset, .unset, .unset, .unset, .unset, .unset] [])
  refine o_aloadN X0 B d30_0 rfl rfl ?_
  refine o_gf X0 B hZ hown (wd_182 hw) Via.refl e0 F_table_hm d30_1 ?_
  intro T1 X1 e1
  refine o_astoreN (L' := #[vr hm, .val .null, .unset, .unset, .unset, .unset, .unset, .unset, .unset, .unset, .unset, .unset, .unset, .unset]) X1 B d30_4 rfl rfl ?_
  refine o_aloadN X1 B d30_5 rfl rfl ?_
  refine o_ifnonnullN X1 B d30_6 ?_
  refine o_iconst X1 B d30_9 ?_
  refine o_goto X1 B 15 d30_10 rfl ?_
  refine o_istoreN (L' := #[vr hm, .val .null, vi 0, .unset, .unset, .unset, .unset, .unset, .unset, .unset, .unset, .unset, .unset, .unset]) X1 B d30_15 rfl ?_
  refine o_aloadN X1 B d30_16 rfl rfl ?_
  refine o_gf X1 B hZ hown (wd_189 hw) Via.refl e1 F_threshold_hm d30_17 ?_
  intro T2 X2 e2
  refine o_istoreN (L' := #[vr hm, .val .null, vi 0, vi 0, .unset, .unset, .unset, .unset, .unset, .unset, .unset, .unset, .unset, .unset]) X2 B d30_20 rfl ?_
  refine o_iconst X2 B d30_21 ?_
  refine o_istore (L' := #[vr hm, .val .null, vi 0, vi 0, .unset, vi 0, .unset, .unset, .unset, .unset, .unset, .unset, .unset, .unset]) X2 B d30_22 rfl ?_
  refine o_iloadN X2 B d30_24 rfl ?_
  refine o_ifY X2 B 67 d30_25 (XT.i0_le_t (by decide : ¬ ((0 : Int32) < (0 : Int32)))) rfl ?_
  refine o_iloadN X2 B d30_67 rfl ?_
  refine o_ifY X2 B 77 d30_68 (XT.i0_le_t (by decide : ¬ ((0 : Int32) < (0 : Int32)))) rfl ?_
  refine o_bipush X2 B d30_77 ?_
  refine o_istore (L' := #[vr hm, .val .null, vi 0, vi 0, vi 16, vi 0, .unset, .unset, .unset, .unset, .unset, .unset, .unset, .unset]) X2 B d30_79 rfl ?_
  refine o_bipush X2 B d30_81 ?_
  show own_G p e below Φ T2 (mkF m 83 #[vr hm, .val .null, vi 0, vi 0, vi 16, vi 0, .unset, .unset, .unset, .unset, .unset, .unset, .unset, .unset] [(.int (12 : Int32))])
  refine o_istore (L' := #[vr hm, .val .null, vi 0, vi 0, vi 16, vi 12, .unset, .unset, .unset, .unset, .unset, .unset, .unset, .unset]) X2 B d30_83 rfl ?_
  refine o_iload X2 B d30_85 rfl ?_
  refine o_ifY X2 B 125 d30_87 (XT.i0_ne_t (by decide : ¬ ((12 : Int32) = (0 : Int32)))) rfl ?_
  refine o_aloadN X2 B d30_125 rfl rfl ?_
  refine o_iload X2 B d30_126 rfl ?_
  refine o_pf (ty := .int) X2 B hZ hown (wd_189 hw) Via.refl e2 F_threshold_hm E_hm (Or.inl (wd_190 hw)) (wd_136 hw) (by decide) rfl rfl d30_128 ?_
  intro T3 h3 X3 e3 W3
  have K3 := K0.wr W3 (Or.inl (List.mem_of_getElem? (i := 0) rfl))
  have f3w := F_threshold_hm.same W3
  refine o_iload X3 B d30_131 rfl ?_
  refine o_nr X3 B hZ hown (wd_191 hw) (wd_192 hw) e3 d30_133 (by decide) 16 (by decide) (by decide) (by decide) (by decide) ?_
  intro T4 h4 ka4 ob4 g4 X4 e4 E4 V4' O4
  have ne_hm_ob4 : hm ≠ ob4 := Nat.ne_of_lt (Nat.lt_of_lt_of_le f3w.lt (Nat.le_of_eq g4.symm))
  have K4 := K3.ext E4
  have V4 : Arv Z h4 ob4 ka4 (.object "java/util/HashMap$Node") (16 : Int32) (List.replicate 16 .null) .null := V4'
  refine o_astore (L' := #[vr hm, .val .null, vi 0, vi 0, vi 16, vi 12, vr ob4, .unset, .unset, .unset, .unset, .unset, .unset, .unset]) X4 B d30_136 rfl rfl ?_
  refine o_aloadN X4 B d30_138 rfl rfl ?_
  refine o_aload X4 B d30_139 rfl rfl ?_
  have f_2 : fF15 Z h3 hm .null := F_table_hm.other W3 (Or.inr (sl_51 hw))
  have f_3 := f_2.ext E4
  refine o_pf (ty := (.array (.object "java/util/HashMap$Node"))) X4 B hZ hown (wd_182 hw) Via.refl e4 f_3 (E_hm.keep K4) (Or.inl (wd_183 hw)) (wd_136 hw) (by decide) rfl rfl d30_141 ?_
  intro T5 h5 X5 e5 W5
  have K5 := K4.wr W5 (Or.inl (List.mem_of_getElem? (i := 0) rfl))
  have f5w := f_3.same W5
  refine o_aloadN X5 B d30_144 rfl rfl ?_
  refine o_ifnullY X5 B 353 d30_145 rfl ?_
  refine o_aload X5 B d30_353 rfl rfl ?_
  have f_6 : fF16 Z h5 hm (.int (12 : Int32)) := (f3w.ext E4).other W5 (Or.inr (sl_52 hw))
  have f_7 : fF17 Z h3 hm (.int (0 : Int32)) := F_size_hm.other W3 (Or.inr (sl_53 hw))
  have f_9 : fF17 Z h5 hm (.int (0 : Int32)) := (f_7.ext E4).other W5 (Or.inr (sl_54 hw))
  have f_10 : fF18 Z h3 hm (.int (0 : Int32)) := F_modCount_hm.other W3 (Or.inr (sl_55 hw))
  have f_12 : fF18 Z h5 hm (.int (0 : Int32)) := (f_10.ext E4).other W5 (Or.inr (sl_56 hw))
  exact o_rA X5 B hΦ hlk hret rfl rfl d30_355 e5 (by decide) (by decide) ⟨ob4, (Nat.le_trans K3.1 (Nat.le_of_eq g4.symm)), ka4, rfl, (Fr.snoc X5 (Fr.snoc X3 (Fr.nil n0) g_hm) g_hm), K5, (E_hm.keep K5), f5w, f_6, f_9, f_12, (V4.other W5 (Ne.symm ne_hm_ob4)), O4⟩
theorem d33_0 : dK kC30 0 .return_ 1 := by decide +kernel
theorem ef_rmAni (m : MethodId) (hm : Addr) : entryFrame m #[(.ref hm), (.int (1 : Int32))] 2 = mkF m 0 #[vr hm, vi 1] [] := by first | (simp [entryFrame, mkF, argsToLocals, Value.category]; done) | rfl
def Q_rmAni (Z : State) (hm : Addr) (h0 : Heap) (n0 : Nat) (v : Option Value) (h : Heap) (L : List Loc) : Prop := v = none ∧ Fr n0 L ∧ h = h0
theorem rmAni (l : Launch) (Z : State) (a0 : Array Value) (hw : own_H Z a0) (ws : List Jvm.Cond) (hm : Addr) (h0 : Heap) (n0 : Nat) (Z0 : n0 ≤ h0.size) (E_hm : fE5 Z h0 hm) :
    own_Met l mN33 kC30 2 none ws (own_rm 0 0 0 0) Z h0 #[(.ref hm), (.int (1 : Int32))] (Q_rmAni Z hm h0 n0) := by
  refine own_met (plainFor_of_name pn_10) (fun m => ef_rmAni m hm) ?_
  intro p e s m below meth c s₁ Φ hΦ X0 hx hby hml hown hnm hret hlk hZ e0
  have N0 := Fr.nil n0
  have B : own_B p c _ _ := ⟨hx, hby, hml⟩
  show own_G p e below Φ s₁ (mkF m 0 #[vr hm, vi 1] [])
  exact o_rV X0 B hΦ hlk hret d33_0 e0 (by decide) (by decide) ⟨rfl, N0, rfl⟩
theorem d29_0 : dK kC31 0 (.aload_n 0) 1 := by decide +kernel
theorem d29_1 : dK kC31 1 (.getfield 105) 3 := by decide +kernel
theorem d29_4 : dK kC31 4 .dup 1 := by decide +kernel
theorem d29_5 : dK kC31 5 (.astore 6) 2 := by decide +kernel
theorem d29_7 : dK kC31 7 (.ifnull 12) 3 := by decide +kernel
theorem d29_19 : dK kC31 19 (.aload_n 0) 1 := by decide +kernel
theorem d29_20 : dK kC31 20 (.invokevirtual 117) 3 := by decide +kernel
theorem pd_16 : parseMethodDescriptor "()[Ljava/util/HashMap$Node;" = some ⟨[], some (.array (.object "java/util/HashMap$Node"))⟩ := by decide +kernel
theorem d29_23 : dK kC31 23 .dup 1 := by decide +kernel
theorem d29_24 : dK kC31 24 (.astore 6) 2 := by decide +kernel
theorem d29_26 : dK kC31 26 .arraylength 1 := by decide +kernel
theorem d29_27 : dK kC31 27 (.istore 8) 2 := by decide +kernel
theorem d29_29 : dK kC31 29 (.aload 6) 2 := by decide +kernel
theorem d29_31 : dK kC31 31 (.iload 8) 2 := by decide +kernel
theorem d29_33 : dK kC31 33 (.iconst 1) 1 := by decide +kernel
theorem d29_34 : dK kC31 34 .isub 1 := by decide +kernel
theorem d29_35 : dK kC31 35 (.iload_n 1) 1 := by decide +kernel
theorem d29_36 : dK kC31 36 .iand 1 := by decide +kernel
theorem d29_37 : dK kC31 37 .dup 1 := by decide +kernel
theorem d29_38 : dK kC31 38 (.istore 9) 2 := by decide +kernel
theorem d29_40 : dK kC31 40 .aaload 1 := by decide +kernel
theorem d29_41 : dK kC31 41 .dup 1 := by decide +kernel
theorem d29_42 : dK kC31 42 (.astore 7) 2 := by decide +kernel
theorem d29_44 : dK kC31 44 (.ifnonnull 19) 3 := by decide +kernel
theorem d29_47 : dK kC31 47 (.aload 6) 2 := by decide +kernel
theorem d29_49 : dK kC31 49 (.iload 9) 2 := by decide +kernel
theorem d29_51 : dK kC31 51 (.aload_n 0) 1 := by decide +kernel
theorem d29_52 : dK kC31 52 (.iload_n 1) 1 := by decide +kernel
theorem d29_53 : dK kC31 53 (.aload_n 2) 1 := by decide +kernel
theorem d29_54 : dK kC31 54 (.aload_n 3) 1 := by decide +kernel
theorem d29_55 : dK kC31 55 .aconst_null 1 := by decide +kernel
theorem d29_56 : dK kC31 56 (.invokevirtual 186) 3 := by decide +kernel
theorem pd_17 : parseMethodDescriptor "(ILjava/lang/Object;Ljava/lang/Object;Ljava/util/HashMap$Node;)Ljava/util/HashMap$Node;" = some ⟨[.int, (.object "java/lang/Object"), (.object "java/lang/Object"), (.object "java/util/HashMap$Node")], some (.object "java/util/HashMap$Node")⟩ := by decide +kernel
theorem d29_59 : dK kC31 59 .aastore 1 := by decide +kernel
theorem d29_60 : dK kC31 60 (.goto 199) 3 := by decide +kernel
theorem d29_259 : dK kC31 259 (.aload_n 0) 1 := by decide +kernel
theorem d29_260 : dK kC31 260 .dup 1 := by decide +kernel
theorem d29_261 : dK kC31 261 (.getfield 202) 3 := by decide +kernel
theorem d29_264 : dK kC31 264 (.iconst 1) 1 := by decide +kernel
theorem d29_265 : dK kC31 265 .iadd 1 := by decide +kernel
theorem d29_266 : dK kC31 266 (.putfield 202) 3 := by decide +kernel
theorem d29_269 : dK kC31 269 (.aload_n 0) 1 := by decide +kernel
theorem d29_270 : dK kC31 270 .dup 1 := by decide +kernel
theorem d29_271 : dK kC31 271 (.getfield 156) 3 := by decide +kernel
def sl_57 {Z : State} {a0 : Array Value} (hw : own_H Z a0) := slot_ne (C := "java/util/HashMap") (Or.inl (wd_216 hw)) (Or.inl (wd_214 hw)) (by decide) (t := .int) (t' := .int) (by decide) (by decide)
theorem d29_274 : dK kC31 274 (.iconst 1) 1 := by decide +kernel
theorem d29_275 : dK kC31 275 .iadd 1 := by decide +kernel
theorem d29_276 : dK kC31 276 .dup_x1 1 := by decide +kernel
theorem d29_277 : dK kC31 277 (.putfield 156) 3 := by decide +kernel
theorem d29_280 : dK kC31 280 (.aload_n 0) 1 := by decide +kernel
theorem d29_281 : dK kC31 281 (.getfield 88) 3 := by decide +kernel
def sl_58 {Z : State} {a0 : Array Value} (hw : own_H Z a0) := slot_ne (C := "java/util/HashMap") (Or.inl (wd_190 hw)) (Or.inl (wd_214 hw)) (by decide) (t := .int) (t' := .int) (by decide) (by decide)
def sl_59 {Z : State} {a0 : Array Value} (hw : own_H Z a0) := slot_ne (C := "java/util/HashMap") (Or.inl (wd_190 hw)) (Or.inl (wd_216 hw)) (by decide) (t := .int) (t' := .int) (by decide) (by decide)
theorem d29_284 : dK kC31 284 (.if_icmp .le 8) 3 := by decide +kernel
theorem d29_292 : dK kC31 292 (.aload_n 0) 1 := by decide +kernel
theorem d29_293 : dK kC31 293 (.iload 5) 2 := by decide +kernel
theorem d29_295 : dK kC31 295 (.invokevirtual 205) 3 := by decide +kernel
theorem pd_18 : parseMethodDescriptor "(Z)V" = some ⟨[.boolean], none⟩ := by decide +kernel
theorem d29_298 : dK kC31 298 .aconst_null 1 := by decide +kernel
theorem d29_299 : dK kC31 299 .areturn 1 := by decide +kernel
def sl_60 {Z : State} {a0 : Array Value} (hw : own_H Z a0) := slot_ne (C := "java/util/HashMap") (Or.inl (wd_183 hw)) (Or.inl (wd_214 hw)) (by decide) (t := (.array (.object "java/util/HashMap$Node"))) (t' := .int) (by decide) (by decide)
def sl_61 {Z : State} {a0 : Array Value} (hw : own_H Z a0) := slot_ne (C := "java/util/HashMap") (Or.inl (wd_183 hw)) (Or.inl (wd_216 hw)) (by decide) (t := (.array (.object "java/util/HashMap$Node"))) (t' := .int) (by decide) (by decide)
theorem ef_rmPtv (m : MethodId) (hm : Addr) (ec : Int32) (ks : Addr) (tv : Value) (htv : tv.isRef = true) : entryFrame m #[(.ref hm), (.int ec), (.ref ks), tv, (.int (0 : Int32)), (.int (1 : Int32))] 13 = mkF m 0 #[vr hm, vi ec, vr ks, .val tv, vi 0, vi 1, .unset, .unset, .unset, .unset, .unset, .unset, .unset] [] := by rcases ref_cases htv with rfl | ⟨_, rfl⟩ <;> rfl
def Q_rmPtv (Z : State) (hm : Addr) (ec : Int32) (ks : Addr) (tv : Value) (h0 : Heap) (n0 : Nat) (v : Option Value) (h : Heap) (L : List Loc) : Prop := ∃ tab : Addr, h0.size ≤ tab ∧ ∃ kt : ClassId, ∃ nd : Addr, h0.size ≤ nd ∧ v = some .null ∧ Fr n0 L ∧ Keep h0 h [hm] ∧ fE5 Z h hm ∧ fF15 Z h hm (.ref tab) ∧ Arv Z h tab kt (.object "java/util/HashMap$Node") (16 : Int32) (own_tl ec nd) .null ∧ fE6 Z h nd ∧ fF20 Z h nd (.int ec) ∧ fF21 Z h nd (.ref ks) ∧ fF22 Z h nd tv ∧ fF23 Z h nd .null
theorem rmPtv (l : Launch) (Z : State) (a0 : Array Value) (hw : own_H Z a0) (ws : List Jvm.Cond) (hm : Addr) (ec : Int32) (ks : Addr) (tv : Value) (h0 : Heap) (n0 : Nat) (Z0 : n0 ≤ h0.size) (E_hm : fE5 Z h0 hm) (F_table_hm : fF15 Z h0 hm .null) (F_threshold_hm : fF16 Z h0 hm (.int (0 : Int32))) (F_size_hm : fF17 Z h0 hm (.int (0 : Int32))) (F_modCount_hm : fF18 Z h0 hm (.int (0 : Int32))) (g_hm : n0 ≤ hm) (htv : tv.isRef = true) :
    own_Met l mN34 kC31 13 (some (.object "java/lang/Object")) ws (own_rm 3 2 20 47) Z h0 #[(.ref hm), (.int ec), (.ref ks), tv, (.int (0 : Int32)), (.int (1 : Int32))] (Q_rmPtv Z hm ec ks tv h0 n0) := by
  refine own_met (plainFor_of_name pn_10) (fun m => ef_rmPtv m hm ec ks tv htv) ?_
  intro p e s m below meth c s₁ Φ hΦ X0 hx hby hml hown hnm hret hlk hZ e0
  have B : own_B p c _ _ := ⟨hx, hby, hml⟩
  have K0 : Keep h0 h0 [hm] := Keep.refl _ _
  show own_G p e below Φ s₁ (mkF m 0 #[vr hm, vi ec, vr ks, .val tv, vi 0, vi 1, .unset, .unset, .unset, .unset, .unset, .unset, .unset] [])
  refine o_aloadN X0 B d29_0 rfl rfl ?_
  refine o_gf X0 B hZ hown (wd_182 hw) Via.refl e0 F_table_hm d29_1 ?_
  intro T1 X1 e1
  refine o_dup X1 B d29_4 rfl ?_
  refine o_astore (L' := #[vr hm, vi ec, vr ks, .val tv, vi 0, vi 1, .val .null, .unset, .unset, .unset, .unset, .unset, .unset]) X1 B d29_5 rfl rfl ?_
  refine o_ifnullY X1 B 19 d29_7 rfl ?_
  refine o_aloadN X1 B d29_19 rfl rfl ?_
  refine o_cV (argsL := []) (rest := []) X1 B hZ hown (wd_184 hw) (wd_185 hw) (wd_187 hw) (wd_186 hw) (wd_188 hw) (wd_137 hw) (by decide) E_hm 0 (rmRsz l Z a0 hw [] hm h0 n0 Z0 E_hm F_table_hm F_threshold_hm F_size_hm F_modCount_hm g_hm) (by decide) (by decide) (lenOf pd_16 rfl) rfl rfl rfl d29_20 e1 (by decide) (by decide) rfl ?_
  rintro _ T2 _ X2 ⟨tab_2, ns_tab_2, kt_2, rfl, N2q, Kq2, p2_0, p2_1, p2_2, p2_3, p2_4, p2_5, p2_6⟩
  have ne_hm_tab_2 : hm ≠ tab_2 := Nat.ne_of_lt (Nat.lt_of_lt_of_le E_hm.lt ns_tab_2)
  have sz_tab_2 : h0.size ≤ tab_2 := Nat.le_trans K0.1 ns_tab_2
  have K2 := K0.trans Kq2 (allS (Or.inl (List.mem_of_getElem? (i := 0) rfl)) all0)
  have Zp2 : n0 ≤ T2.heap.size := Nat.le_trans Z0 Kq2.1
  refine o_dup X2 B d29_23 rfl ?_
  refine o_astore (L' := #[vr hm, vi ec, vr ks, .val tv, vi 0, vi 1, vr tab_2, .unset, .unset, .unset, .unset, .unset, .unset]) X2 B d29_24 rfl rfl ?_
  refine o_len X2 B hZ rfl p2_5 d29_26 ?_
  refine o_istore (L' := #[vr hm, vi ec, vr ks, .val tv, vi 0, vi 1, vr tab_2, .unset, vi 16, .unset, .unset, .unset, .unset]) X2 B d29_27 rfl ?_
  refine o_aload X2 B d29_29 rfl rfl ?_
  refine o_iload X2 B d29_31 rfl ?_
  refine o_iconst X2 B d29_33 ?_
  refine o_isub X2 B d29_34 ?_
  refine o_iloadN X2 B d29_35 rfl ?_
  refine o_iand X2 B d29_36 ?_
  refine o_dup X2 B d29_37 rfl ?_
  refine o_istore (L' := #[vr hm, vi ec, vr ks, .val tv, vi 0, vi 1, vr tab_2, .unset, vi 16, .val (.int ((15 : Int32) &&& ec)), .unset, .unset, .unset]) X2 B d29_38 rfl ?_
  refine o_aal (v := .null) X2 B hZ rfl p2_5 rfl (own_15 _) (own_rep _) d29_40 ?_
  show own_G p e below Φ T2 (mkF m 41 #[vr hm, vi ec, vr ks, .val tv, vi 0, vi 1, vr tab_2, .unset, vi 16, .val (.int ((15 : Int32) &&& ec)), .unset, .unset, .unset] [.null])
  refine o_dup X2 B d29_41 rfl ?_
  refine o_astore (L' := #[vr hm, vi ec, vr ks, .val tv, vi 0, vi 1, vr tab_2, .val .null, vi 16, .val (.int ((15 : Int32) &&& ec)), .unset, .unset, .unset]) X2 B d29_42 rfl rfl ?_
  refine o_ifnonnullN X2 B d29_44 ?_
  refine o_aload X2 B d29_47 rfl rfl ?_
  refine o_iload X2 B d29_49 rfl ?_
  refine o_aloadN X2 B d29_51 rfl rfl ?_
  refine o_iloadN X2 B d29_52 rfl ?_
  refine o_aloadN X2 B d29_53 rfl rfl ?_
  refine o_aloadN X2 B d29_54 rfl htv ?_
  refine o_anull X2 B d29_55 ?_
  refine o_cV (argsL := [(.int ec), (.ref ks), tv, .null]) (rest := [(.int ((15 : Int32) &&& ec)), (.ref tab_2)]) X2 B hZ hown (wd_193 hw) (wd_194 hw) (wd_196 hw) (wd_195 hw) (wd_197 hw) (wd_137 hw) (by decide) p2_0 2 (rmNwn l Z a0 hw [] hm ec ks tv T2.heap n0 Zp2 p2_0 htv) (by decide) (by decide) (lenOf pd_17 rfl) rfl rfl rfl d29_56 rfl (by decide) (by decide) rfl ?_
  rintro _ T3 _ X3 ⟨nd_3, ns_nd_3, rfl, N3q, Kq3, p3_0, p3_1, p3_2, p3_3, p3_4⟩
  have ne_hm_nd_3 : hm ≠ nd_3 := Nat.ne_of_lt (Nat.lt_of_lt_of_le p2_0.lt ns_nd_3)
  have ne_tab_2_nd_3 : tab_2 ≠ nd_3 := Nat.ne_of_lt (Nat.lt_of_lt_of_le p2_5.lt ns_nd_3)
  have K3 := K2.trans Kq3 all0
  refine o_ast X3 B hZ rfl (p2_5.keep Kq3 nin0) p2_6 (Ins.self p3_0) (own_15 _) _ rfl (own_repl _) d29_59 ?_
  intro T4 h4 X4 e4 W4 V4'
  have V4 : Arv Z h4 tab_2 kt_2 (.object "java/util/HashMap$Node") (16 : Int32) (own_tl ec nd_3) .null := V4'
  have K4 := K3.wr W4 (Or.inr sz_tab_2)
  refine o_goto X4 B 259 d29_60 rfl ?_
  refine o_aloadN X4 B d29_259 rfl rfl ?_
  refine o_dup X4 B d29_260 rfl ?_
  have f_3 := (p2_4.keep Kq3 nin0).other W4 (Or.inl ne_hm_tab_2)
  refine o_gf X4 B hZ hown (wd_213 hw) Via.refl e4 f_3 d29_261 ?_
  intro T5 X5 e5
  refine o_iconst X5 B d29_264 ?_
  refine o_iadd X5 B d29_265 ?_
  have f_5 := (p2_0.keep Kq3).wr W4
  refine o_pf (ty := .int) X5 B hZ hown (wd_213 hw) Via.refl e5 f_3 f_5 (Or.inl (wd_214 hw)) (wd_136 hw) (by decide) rfl rfl d29_266 ?_
  intro T6 h6 X6 e6 W6
  have K6 := K4.wr W6 (Or.inl (List.mem_of_getElem? (i := 0) rfl))
  refine o_aloadN X6 B d29_269 rfl rfl ?_
  show own_G p e below Φ T6 (mkF m 270 #[vr hm, vi ec, vr ks, .val tv, vi 0, vi 1, vr tab_2, .val .null, vi 16, .val (.int ((15 : Int32) &&& ec)), .unset, .unset, .unset] [(.ref hm)])
  refine o_dup X6 B d29_270 rfl ?_
  have f_8 : fF17 Z h6 hm (.int (0 : Int32)) := ((p2_3.keep Kq3 nin0).other W4 (Or.inl ne_hm_tab_2)).other W6 (Or.inr (sl_57 hw))
  refine o_gf X6 B hZ hown (wd_215 hw) Via.refl e6 f_8 d29_271 ?_
  intro T7 X7 e7
  refine o_iconst X7 B d29_274 ?_
  refine o_iadd X7 B d29_275 ?_
  refine o_dupx1 X7 B d29_276 rfl rfl ?_
  have f_9 := f_5.wr W6
  refine o_pf (ty := .int) X7 B hZ hown (wd_215 hw) Via.refl e7 f_8 f_9 (Or.inl (wd_216 hw)) (wd_136 hw) (by decide) rfl rfl d29_277 ?_
  intro T8 h8 X8 e8 W8
  have K8 := K6.wr W8 (Or.inl (List.mem_of_getElem? (i := 0) rfl))
  refine o_aloadN X8 B d29_280 rfl rfl ?_
  have f_12 : fF16 Z h6 hm (.int (12 : Int32)) := ((p2_2.keep Kq3 nin0).other W4 (Or.inl ne_hm_tab_2)).other W6 (Or.inr (sl_58 hw))
  have f_13 : fF16 Z h8 hm (.int (12 : Int32)) := f_12.other W8 (Or.inr (sl_59 hw))
  refine o_gf X8 B hZ hown (wd_189 hw) Via.refl e8 f_13 d29_281 ?_
  intro T9 X9 e9
  refine o_icY X9 B 292 d29_284 (XT.ii_le_t (by decide : ¬ ((12 : Int32) < (1 : Int32)))) rfl ?_
  refine o_aloadN X9 B d29_292 rfl rfl ?_
  refine o_iload X9 B d29_293 rfl ?_
  have f_14 := f_9.wr W8
  refine o_cV (argsL := [(.int (1 : Int32))]) (rest := []) X9 B hZ hown (wd_217 hw) (wd_218 hw) (wd_220 hw) (wd_219 hw) (wd_221 hw) (wd_137 hw) (by decide) f_14 0 (rmAni l Z a0 hw [] hm h8 n0 (Nat.le_trans (Nat.le_trans (Nat.le_trans (Nat.le_trans Zp2 Kq3.1) (Keep.of_wr W4).1) (Keep.of_wr W6).1) (Keep.of_wr W8).1) f_14) (by decide) (by decide) (lenOf pd_18 rfl) rfl rfl rfl d29_295 e9 (by decide) (by decide) rfl ?_
  rintro _ T10 _ X10 ⟨rfl, N10q, hs10⟩
  refine o_anull X10 B d29_298 ?_
  have f_17 : fF15 Z h6 hm (.ref tab_2) := ((p2_1.keep Kq3 nin0).other W4 (Or.inl ne_hm_tab_2)).other W6 (Or.inr (sl_60 hw))
  have f_18 : fF15 Z h8 hm (.ref tab_2) := f_17.other W8 (Or.inr (sl_61 hw))
  exact o_rA X10 B hΦ hlk hret rfl rfl d29_299 hs10 (by decide) (by decide) ⟨tab_2, sz_tab_2, kt_2, nd_3, (Nat.le_trans K2.1 ns_nd_3), rfl, (Fr.app (Fr.snoc X8 (Fr.snoc X6 (Fr.snoc X4 (Fr.app (Fr.app (Fr.nil n0) N2q) N3q) (Nat.le_trans Z0 ns_tab_2)) g_hm) g_hm) N10q), K8, f_14, f_18, ((V4.other W6 (Ne.symm ne_hm_tab_2)).other W8 (Ne.symm ne_hm_tab_2)), (((p3_0.wr W4).wr W6).wr W8), (((p3_1.other W4 (Or.inl (Ne.symm ne_tab_2_nd_3))).other W6 (Or.inl (Ne.symm ne_hm_nd_3))).other W8 (Or.inl (Ne.symm ne_hm_nd_3))), (((p3_2.other W4 (Or.inl (Ne.symm ne_tab_2_nd_3))).other W6 (Or.inl (Ne.symm ne_hm_nd_3))).other W8 (Or.inl (Ne.symm ne_hm_nd_3))), (((p3_3.other W4 (Or.inl (Ne.symm ne_tab_2_nd_3))).other W6 (Or.inl (Ne.symm ne_hm_nd_3))).other W8 (Or.inl (Ne.symm ne_hm_nd_3))), (((p3_4.other W4 (Or.inl (Ne.symm ne_tab_2_nd_3))).other W6 (Or.inl (Ne.symm ne_hm_nd_3))).other W8 (Or.inl (Ne.symm ne_hm_nd_3)))⟩
theorem d24_0 : dK kC32 0 (.aload_n 0) 1 := by decide +kernel
theorem d24_1 : dK kC32 1 (.aload_n 1) 1 := by decide +kernel
theorem d24_2 : dK kC32 2 (.invokestatic 149) 3 := by decide +kernel
theorem pd_19 : parseMethodDescriptor "(Ljava/lang/Object;)I" = some ⟨[(.object "java/lang/Object")], some .int⟩ := by decide +kernel
theorem d24_5 : dK kC32 5 (.aload_n 1) 1 := by decide +kernel
theorem d24_6 : dK kC32 6 (.aload_n 2) 1 := by decide +kernel
theorem d24_7 : dK kC32 7 (.iconst 0) 1 := by decide +kernel
theorem d24_8 : dK kC32 8 (.iconst 1) 1 := by decide +kernel
theorem d24_9 : dK kC32 9 (.invokevirtual 152) 3 := by decide +kernel
theorem pd_20 : parseMethodDescriptor "(ILjava/lang/Object;Ljava/lang/Object;ZZ)Ljava/lang/Object;" = some ⟨[.int, (.object "java/lang/Object"), (.object "java/lang/Object"), .boolean, .boolean], some (.object "java/lang/Object")⟩ := by decide +kernel
theorem d24_12 : dK kC32 12 .areturn 1 := by decide +kernel
theorem ef_rmPut (m : MethodId) (hm : Addr) (a1 : Addr) (tv : Value) (htv : tv.isRef = true) : entryFrame m #[(.ref hm), (.ref a1), tv] 3 = mkF m 0 #[vr hm, vr a1, .val tv] [] := by rcases ref_cases htv with rfl | ⟨_, rfl⟩ <;> rfl
def Q_rmPut (Z : State) (hm : Addr) (tv : Value) (a1 : Addr) (gz : Int32) (va : Addr) (kva : ClassId) (qc : Int32) (hv : Int32) (zv : Int32) (h0 : Heap) (n0 : Nat) (v : Option Value) (h : Heap) (L : List Loc) : Prop := ∃ tab : Addr, h0.size ≤ tab ∧ ∃ kt : ClassId, ∃ nd : Addr, h0.size ≤ nd ∧ v = some .null ∧ Fr n0 L ∧ Keep h0 h [hm, a1] ∧ fE5 Z h hm ∧ fF15 Z h hm (.ref tab) ∧ Arv Z h tab kt (.object "java/util/HashMap$Node") (16 : Int32) (own_tl qc nd) .null ∧ fE6 Z h nd ∧ fF20 Z h nd (.int qc) ∧ fF21 Z h nd (.ref a1) ∧ fF22 Z h nd tv ∧ fF23 Z h nd .null ∧ fF1 Z h a1 (.ref va) ∧ fF2 Z h a1 (.int (0 : Int32))
theorem rmPut (l : Launch) (Z : State) (a0 : Array Value) (hw : own_H Z a0) (ws : List Jvm.Cond) (hm : Addr) (tv : Value) (a1 : Addr) (gz : Int32) (va : Addr) (kva : ClassId) (qc : Int32) (hv : Int32) (zv : Int32) (h0 : Heap) (n0 : Nat) (Z0 : n0 ≤ h0.size) (O0 : Old Z n0 h0) (S_COMPACT_STRINGS : Sta Z Z.heap "java/lang/String" "COMPACT_STRINGS" "Z" (.int gz)) (hgz : ¬ gz = (0 : Int32)) (E_a1 : fE1 Z h0 a1) (F_value_a1 : fF1 Z h0 a1 (.ref va)) (F_coder_a1 : fF2 Z h0 a1 (.int (0 : Int32))) (V_va : Arv Z h0 va kva .byte (1 : Int32) [(.int (own_lo qc))] (.int (0 : Int32))) (F_hash_a1 : fF3 Z h0 a1 (.int hv)) (F_hashIsZero_a1 : fF4 Z h0 a1 (.int zv)) (g_a1 : n0 ≤ a1) (hr : ¬ qc < 0 ∧ ¬ (255 : Int32) < qc) (hi : own_hc hv zv qc) (E_hm : fE5 Z h0 hm) (F_table_hm : fF15 Z h0 hm .null) (F_threshold_hm : fF16 Z h0 hm (.int (0 : Int32))) (F_size_hm : fF17 Z h0 hm (.int (0 : Int32))) (F_modCount_hm : fF18 Z h0 hm (.int (0 : Int32))) (g_hm : n0 ≤ hm) (htv : tv.isRef = true) :
    own_Met l mN35 kC32 3 (some (.object "java/lang/Object")) ws (own_rm 4 2 20 71) Z h0 #[(.ref hm), (.ref a1), tv] (Q_rmPut Z hm tv a1 gz va kva qc hv zv h0 n0) := by
  refine own_met (plainFor_of_name pn_10) (fun m => ef_rmPut m hm a1 tv htv) ?_
  intro p e s m below meth c s₁ Φ hΦ X0 hx hby hml hown hnm hret hlk hZ e0
  have B : own_B p c _ _ := ⟨hx, hby, hml⟩
  have K0 : Keep h0 h0 [hm, a1] := Keep.refl _ _
  have nz_hm_a1 : hm ≠ a1 := Exa.ne E_hm E_a1 (by decide)
  have nz_a1_hm : a1 ≠ hm := Exa.ne E_a1 E_hm (by decide)
  show own_G p e below Φ s₁ (mkF m 0 #[vr hm, vr a1, .val tv] [])
  refine o_aloadN X0 B d24_0 rfl rfl ?_
  refine o_aloadN X0 B d24_1 rfl rfl ?_
  refine o_cS (argsL := [(.ref a1)]) (rest := [(.ref hm)]) X0 B hZ hown (wd_156 hw) (wd_157 hw) (wd_158 hw) (wd_137 hw) (by decide) 1 (rmHsh l Z a0 hw [] a1 gz va kva qc hv zv h0 n0 Z0 O0 S_COMPACT_STRINGS hgz E_a1 F_value_a1 F_coder_a1 V_va F_hash_a1 F_hashIsZero_a1 g_a1 hr hi) (by decide) (by decide) (lenOf pd_19 rfl) rfl rfl rfl d24_2 e0 (by decide) (by decide) rfl ?_
  rintro _ T1 _ X1 ⟨hv2_1, zv2_1, rfl, N1q, Kq1, p1_0, p1_1, p1_2, p1_3, p1_4, p1_5⟩
  have K1 := K0.trans Kq1 (allS (Or.inl (List.mem_of_getElem? (i := 1) rfl)) all0)
  refine o_aloadN X1 B d24_5 rfl rfl ?_
  refine o_aloadN X1 B d24_6 rfl htv ?_
  refine o_iconst X1 B d24_7 ?_
  refine o_iconst X1 B d24_8 ?_
  have f_1 := E_hm.keep K1
  refine o_cV (argsL := [(.int qc), (.ref a1), tv, (.int (0 : Int32)), (.int (1 : Int32))]) (rest := []) X1 B hZ hown (wd_177 hw) (wd_178 hw) (wd_180 hw) (wd_179 hw) (wd_181 hw) (wd_137 hw) (by decide) f_1 0 (rmPtv l Z a0 hw [] hm qc a1 tv T1.heap n0 (Nat.le_trans Z0 Kq1.1) f_1 (F_table_hm.keep Kq1 (ninS nz_hm_a1 nin0)) (F_threshold_hm.keep Kq1 (ninS nz_hm_a1 nin0)) (F_size_hm.keep Kq1 (ninS nz_hm_a1 nin0)) (F_modCount_hm.keep Kq1 (ninS nz_hm_a1 nin0)) g_hm htv) (by decide) (by decide) (lenOf pd_20 rfl) rfl rfl rfl d24_9 rfl (by decide) (by decide) rfl ?_
  rintro _ T3 _ X3 ⟨tab_3, ns_tab_3, kt_3, nd_3, ns_nd_3, rfl, N3q, Kq3, p3_0, p3_1, p3_2, p3_3, p3_4, p3_5, p3_6, p3_7⟩
  have K3 := K1.trans Kq3 (allS (Or.inl (List.mem_of_getElem? (i := 0) rfl)) all0)
  exact o_rA X3 B hΦ hlk hret rfl rfl d24_12 rfl (by decide) (by decide) ⟨tab_3, (Nat.le_trans K1.1 ns_tab_3), kt_3, nd_3, (Nat.le_trans K1.1 ns_nd_3), rfl, (Fr.app (Fr.app (Fr.nil n0) N1q) N3q), K3, p3_0, p3_1, p3_2, p3_3, p3_4, p3_5, p3_6, p3_7, (p1_1.keep Kq3 (ninS nz_a1_hm nin0)), (p1_2.keep Kq3 (ninS nz_a1_hm nin0))⟩
theorem d36_0 : dK kC33 0 (.aload_n 0) 1 := by decide +kernel
theorem d36_1 : dK kC33 1 (.invokespecial 1) 3 := by decide +kernel
theorem d36_4 : dK kC33 4 (.aload_n 1) 1 := by decide +kernel
theorem d36_5 : dK kC33 5 (.ifnonnull 11) 3 := by decide +kernel
theorem d36_16 : dK kC33 16 (.aload_n 0) 1 := by decide +kernel
theorem d36_17 : dK kC33 17 (.aload_n 1) 1 := by decide +kernel
theorem d36_18 : dK kC33 18 (.putfield 10) 3 := by decide +kernel
theorem d36_21 : dK kC33 21 .return_ 1 := by decide +kernel
theorem pn_12 : plainName "java/util/Collections$UnmodifiableMap" = true := by first | (simp [plainName, overriddenIn]; done) | decide +kernel
theorem ef_rmUmin (m : MethodId) (a1 : Addr) (hm : Addr) : entryFrame m #[(.ref a1), (.ref hm)] 2 = mkF m 0 #[vr a1, vr hm] [] := by first | (simp [entryFrame, mkF, argsToLocals, Value.category]; done) | rfl
def Q_rmUmin (Z : State) (a1 : Addr) (hm : Addr) (h0 : Heap) (n0 : Nat) (v : Option Value) (h : Heap) (L : List Loc) : Prop := v = none ∧ Fr n0 L ∧ Keep h0 h [a1] ∧ fE0 Z h a1 ∧ fF0 Z h a1 (.ref hm)
theorem rmUmin (l : Launch) (Z : State) (a0 : Array Value) (hw : own_H Z a0) (ws : List Jvm.Cond) (a1 : Addr) (hm : Addr) (h0 : Heap) (n0 : Nat) (Z0 : n0 ≤ h0.size) (E_a1 : fE0 Z h0 a1) (F_m_a1 : fF0 Z h0 a1 .null) (g_a1 : n0 ≤ a1) :
    own_Met l mN36 kC33 2 none ws (own_rm 1 0 0 12) Z h0 #[(.ref a1), (.ref hm)] (Q_rmUmin Z a1 hm h0 n0) := by
  refine own_met (plainFor_of_name pn_12) (fun m => ef_rmUmin m a1 hm) ?_
  intro p e s m below meth c s₁ Φ hΦ X0 hx hby hml hown hnm hret hlk hZ e0
  have B : own_B p c _ _ := ⟨hx, hby, hml⟩
  have K0 : Keep h0 h0 [a1] := Keep.refl _ _
  show own_G p e below Φ s₁ (mkF m 0 #[vr a1, vr hm] [])
  refine o_aloadN X0 B d36_0 rfl rfl ?_
  refine o_io X0 B hZ hown (wd_250 hw) (wd_12 hw) (wd_13 hw) e0 d36_1 (by decide) 0 rfl (by decide) rfl ?_
  intro T1 X1 e1
  refine o_aloadN X1 B d36_4 rfl rfl ?_
  refine o_ifnonnullY X1 B 16 d36_5 rfl ?_
  refine o_aloadN X1 B d36_16 rfl rfl ?_
  refine o_aloadN X1 B d36_17 rfl rfl ?_
  refine o_pf (ty := (.object "java/util/Map")) X1 B hZ hown (wd_251 hw) Via.refl e1 F_m_a1 E_a1 (Or.inr ⟨(wd_252 hw), rfl, hnm⟩) (wd_245 hw) (by decide) rfl rfl d36_18 ?_
  intro T2 h2 X2 e2 W2
  have K2 := K0.wr W2 (Or.inl (List.mem_of_getElem? (i := 0) rfl))
  have f2w := F_m_a1.same W2
  exact o_rV X2 B hΦ hlk hret d36_21 e2 (by decide) (by decide) ⟨rfl, (Fr.snoc X2 (Fr.nil n0) g_a1), K2, (E_a1.keep K2), f2w⟩
theorem d35_0 : dK kC34 0 (.aload_n 0) 1 := by decide +kernel
theorem d35_1 : dK kC34 1 (.invokeinterface 220 1) 5 := by decide +kernel
theorem d35_6 : dK kC34 6 (.ldc 223) 2 := by decide +kernel
theorem d35_8 : dK kC34 8 (.if_acmp .ne 5) 3 := by decide +kernel
theorem d35_13 : dK kC34 13 (.new 223) 3 := by decide +kernel
theorem d35_16 : dK kC34 16 .dup 1 := by decide +kernel
theorem d35_17 : dK kC34 17 (.aload_n 0) 1 := by decide +kernel
theorem d35_18 : dK kC34 18 (.invokespecial 225) 3 := by decide +kernel
theorem pd_21 : parseMethodDescriptor "(Ljava/util/Map;)V" = some ⟨[(.object "java/util/Map")], none⟩ := by decide +kernel
theorem d35_21 : dK kC34 21 .areturn 1 := by decide +kernel
theorem pn_13 : plainName "java/util/Collections" = true := by first | (simp [plainName, overriddenIn]; done) | decide +kernel
theorem ef_rmUma1 (m : MethodId) (hm : Addr) : entryFrame m #[(.ref hm)] 1 = mkF m 0 #[vr hm] [] := by first | (simp [entryFrame, mkF, argsToLocals, Value.category]; done) | rfl
def Q_rmUma1 (Z : State) (hm : Addr) (mh : Addr) (mu : Addr) (h0 : Heap) (n0 : Nat) (v : Option Value) (h : Heap) (L : List Loc) : Prop := ∃ um : Addr, h0.size ≤ um ∧ v = some (.ref um) ∧ Fr n0 L ∧ Keep h0 h [] ∧ fE0 Z h um ∧ fF0 Z h um (.ref hm)
theorem rmUma1 (l : Launch) (Z : State) (a0 : Array Value) (hw : own_H Z a0) (ws : List Jvm.Cond) (hm : Addr) (mh : Addr) (mu : Addr) (h0 : Heap) (n0 : Nat) (Z0 : n0 ≤ h0.size) (E_hm : fE5 Z h0 hm) (hmh : own_Mir Z "java/util/HashMap" mh) (hmu : own_Mir Z "java/util/Collections$UnmodifiableMap" mu) (ne_mh_mu : mh ≠ mu) :
    own_Met l mN37 kC34 1 (some (.object "java/util/Map")) ws (own_rm 2 1 4 26) Z h0 #[(.ref hm)] (Q_rmUma1 Z hm mh mu h0 n0) := by
  refine own_met (plainFor_of_name pn_13) (fun m => ef_rmUma1 m hm) ?_
  intro p e s m below meth c s₁ Φ hΦ X0 hx hby hml hown hnm hret hlk hZ e0
  have B : own_B p c _ _ := ⟨hx, hby, hml⟩
  have K0 : Keep h0 h0 [] := Keep.refl _ _
  show own_G p e below Φ s₁ (mkF m 0 #[vr hm] [])
  refine o_aloadN X0 B d35_0 rfl rfl ?_
  refine own_gc X0 B hZ hown (wd_233 hw) (wd_234 hw) (wd_235 hw) (wd_236 hw) (wd_237 hw) (wd_238 hw) (wd_239 hw) (wd_240 hw) (wd_241 hw) e0 E_hm hmh d35_1 (by decide) (by decide +kernel) rfl ?_
  intro T1 X1 e1
  refine own_lm X1 B hZ hown (wd_243 hw) e1 hmu d35_6 ?_
  intro T2 X2 e2
  refine own_go (fun _ => Jvm.RoadKit.acmp (g := (mkF m 8 #[vr hm] [(.ref mu), (.ref mh)])) X2 hx rfl rfl rfl (pc0 := 8) (pc' := 13) (same := false) rfl (hb hby d35_8) rfl (decide_eq_false fun q => ne_mh_mu (Value.ref.inj q)) (by decide) (by decide)) ?_
  refine o_new X2 B hZ hown (wd_243 hw) (wd_245 hw) (wd_246 hw) e2 d35_13 (by decide) (by decide) ?_
  intro T3 h3 ob3 g3 X3 e3 E3 A3 D3
  have sz_ob3 : h0.size ≤ ob3 := Nat.le_trans K0.1 (Nat.le_of_eq g3.symm)
  have K3 := K0.ext E3
  have F_m_ob3 : fF0 Z h3 ob3 .null := D3 (Or.inr (wd_252 hw)) (ty := (.object "java/util/Map")) (by decide)
  refine o_dup X3 B d35_16 rfl ?_
  refine o_aloadN X3 B d35_17 rfl rfl ?_
  refine o_cI (argsL := [(.ref hm)]) (rest := [(.ref ob3)]) X3 B hZ hown rfl (wd_247 hw) (wd_248 hw) (wd_249 hw) (wd_246 hw) (by decide) rfl 1 (rmUmin l Z a0 hw [] ob3 hm h3 n0 (Nat.le_trans Z0 E3.1) A3 F_m_ob3 (Nat.le_trans Z0 (Nat.le_of_eq g3.symm))) (by decide) (by decide) (lenOf pd_21 rfl) rfl rfl rfl d35_18 e3 (by decide) (by decide) rfl ?_
  rintro _ T4 _ X4 ⟨rfl, N4q, Kq4, p4_0, p4_1⟩
  have K4 := K3.trans Kq4 (allS (Or.inr sz_ob3) all0)
  exact o_rA X4 B hΦ hlk hret rfl rfl d35_21 rfl (by decide) (by decide) ⟨ob3, sz_ob3, rfl, (Fr.app (Fr.nil n0) N4q), K4, p4_0, p4_1⟩
theorem d35_11 : dK kC34 11 (.aload_n 0) 1 := by decide +kernel
theorem d35_12 : dK kC34 12 .areturn 1 := by decide +kernel
theorem ef_rmUma0 (m : MethodId) (hm : Addr) : entryFrame m #[(.ref hm)] 1 = mkF m 0 #[vr hm] [] := by first | (simp [entryFrame, mkF, argsToLocals, Value.category]; done) | rfl
def Q_rmUma0 (Z : State) (hm : Addr) (mh : Addr) (h0 : Heap) (n0 : Nat) (v : Option Value) (h : Heap) (L : List Loc) : Prop := v = some (.ref hm) ∧ Fr n0 L ∧ h = h0
theorem rmUma0 (l : Launch) (Z : State) (a0 : Array Value) (hw : own_H Z a0) (ws : List Jvm.Cond) (hm : Addr) (mh : Addr) (h0 : Heap) (n0 : Nat) (Z0 : n0 ≤ h0.size) (E_hm : fE5 Z h0 hm) (hmh : own_Mir Z "java/util/HashMap" mh) (hmu : own_Mir Z "java/util/Collections$UnmodifiableMap" mh) :
    own_Met l mN37 kC34 1 (some (.object "java/util/Map")) ws (own_rm 1 0 0 14) Z h0 #[(.ref hm)] (Q_rmUma0 Z hm mh h0 n0) := by
  refine own_met (plainFor_of_name pn_13) (fun m => ef_rmUma0 m hm) ?_
  intro p e s m below meth c s₁ Φ hΦ X0 hx hby hml hown hnm hret hlk hZ e0
  have B : own_B p c _ _ := ⟨hx, hby, hml⟩
  show own_G p e below Φ s₁ (mkF m 0 #[vr hm] [])
  refine o_aloadN X0 B d35_0 rfl rfl ?_
  refine own_gc X0 B hZ hown (wd_233 hw) (wd_234 hw) (wd_235 hw) (wd_236 hw) (wd_237 hw) (wd_238 hw) (wd_239 hw) (wd_240 hw) (wd_241 hw) e0 E_hm hmh d35_1 (by decide) (by decide +kernel) rfl ?_
  intro T1 X1 e1
  refine own_lm X1 B hZ hown (wd_243 hw) e1 hmu d35_6 ?_
  intro T2 X2 e2
  refine own_go (fun _ => Jvm.RoadKit.acmp (g := (mkF m 8 #[vr hm] [(.ref mh), (.ref mh)])) X2 hx rfl rfl rfl (pc0 := 8) (pc' := 11) (same := true) rfl (hb hby d35_8) rfl (decide_eq_true rfl) (by decide) (by decide)) ?_
  refine o_aloadN X2 B d35_11 rfl rfl ?_
  exact o_rA X2 B hΦ hlk hret rfl rfl d35_12 e2 (by decide) (by decide) ⟨rfl, (Fr.nil n0), rfl⟩
theorem d34_0 : dK kC35 0 (.aload_n 0) 1 := by decide +kernel
theorem d34_1 : dK kC35 1 (.invokespecial 1) 3 := by decide +kernel
theorem d34_4 : dK kC35 4 (.aload_n 0) 1 := by decide +kernel
theorem d34_5 : dK kC35 5 (.aload_n 1) 1 := by decide +kernel
theorem d34_6 : dK kC35 6 (.invokestatic 7) 3 := by decide +kernel
theorem pd_22 : parseMethodDescriptor "(Ljava/util/Map;)Ljava/util/Map;" = some ⟨[(.object "java/util/Map")], some (.object "java/util/Map")⟩ := by decide +kernel
theorem d34_9 : dK kC35 9 (.putfield 13) 3 := by decide +kernel
theorem d34_12 : dK kC35 12 .return_ 1 := by decide +kernel
theorem pn_14 : plainName "com/example/brickwork/brickwork/Catalogue" = true := by first | (simp [plainName, overriddenIn]; done) | decide +kernel
theorem ef_rmCtin (m : MethodId) (a1 : Addr) (hm : Addr) : entryFrame m #[(.ref a1), (.ref hm)] 2 = mkF m 0 #[vr a1, vr hm] [] := by first | (simp [entryFrame, mkF, argsToLocals, Value.category]; done) | rfl
def Q_rmCtin (Z : State) (a1 : Addr) (hm : Addr) (mh : Addr) (mu : Addr) (h0 : Heap) (n0 : Nat) (v : Option Value) (h : Heap) (L : List Loc) : Prop := ∃ am : Addr, v = none ∧ Fr n0 L ∧ Keep h0 h [a1] ∧ fE7 Z h a1 ∧ fF24 Z h a1 (.ref am) ∧ own_D Z h am hm ∧ (am = hm ∨ h0.size ≤ am)
theorem rmCtin (l : Launch) (Z : State) (a0 : Array Value) (hw : own_H Z a0) (ws : List Jvm.Cond) (a1 : Addr) (hm : Addr) (mh : Addr) (mu : Addr) (h0 : Heap) (n0 : Nat) (Z0 : n0 ≤ h0.size) (E_a1 : fE7 Z h0 a1) (F_answers_a1 : fF24 Z h0 a1 .null) (g_a1 : n0 ≤ a1) (E_hm : fE5 Z h0 hm) (hmh : own_Mir Z "java/util/HashMap" mh) (hmu : own_Mir Z "java/util/Collections$UnmodifiableMap" mu) :
    own_Met l mN38 kC35 2 none ws (own_rm 3 1 4 39) Z h0 #[(.ref a1), (.ref hm)] (Q_rmCtin Z a1 hm mh mu h0 n0) := by
  refine own_met (plainFor_of_name pn_14) (fun m => ef_rmCtin m a1 hm) ?_
  intro p e s m below meth c s₁ Φ hΦ X0 hx hby hml hown hnm hret hlk hZ e0
  have N0 := Fr.nil n0
  have B : own_B p c _ _ := ⟨hx, hby, hml⟩
  have K0 : Keep h0 h0 [a1] := Keep.refl _ _
  show own_G p e below Φ s₁ (mkF m 0 #[vr a1, vr hm] [])
  refine o_aloadN X0 B d34_0 rfl rfl ?_
  refine o_io X0 B hZ hown (wd_228 hw) (wd_12 hw) (wd_13 hw) e0 d34_1 (by decide) 0 rfl (by decide) rfl ?_
  intro T1 X1 e1
  refine o_aloadN X1 B d34_4 rfl rfl ?_
  refine o_aloadN X1 B d34_5 rfl rfl ?_
  by_cases hmq : mh = mu
  · have hmu2 : own_Mir Z "java/util/Collections$UnmodifiableMap" mh := hmq ▸ hmu
    refine o_cS (argsL := [(.ref hm)]) (rest := [(.ref a1)]) X1 B hZ hown (wd_229 hw) (wd_230 hw) (wd_232 hw) (wd_231 hw) (by decide) 1 (rmUma0 l Z a0 hw [] hm mh h0 n0 Z0 E_hm hmh hmu2) (by decide) (by decide) (lenOf pd_22 rfl) rfl rfl rfl d34_6 e1 (by decide) (by decide) rfl ?_
    rintro _ T2 _ X2 ⟨rfl, N2q, hs2⟩
    refine o_pf (ty := (.object "java/util/Map")) X2 B hZ hown (wd_253 hw) Via.refl hs2 F_answers_a1 E_a1 (Or.inr ⟨(wd_254 hw), rfl, hnm⟩) (wd_223 hw) (by decide) rfl rfl d34_9 ?_
    intro T3 h3 X3 e3 W3
    have K3 := K0.wr W3 (Or.inl (List.mem_of_getElem? (i := 0) rfl))
    have f3w := F_answers_a1.same W3
    exact o_rV X3 B hΦ hlk hret d34_12 e3 (by decide) (by decide) ⟨hm, rfl, (Fr.snoc X3 (Fr.app N0 N2q) g_a1), K3, (E_a1.keep K3), f3w, (Or.inr rfl), (Or.inl rfl)⟩
  · refine o_cS (argsL := [(.ref hm)]) (rest := [(.ref a1)]) X1 B hZ hown (wd_229 hw) (wd_230 hw) (wd_232 hw) (wd_231 hw) (by decide) 1 (rmUma1 l Z a0 hw [] hm mh mu h0 n0 Z0 E_hm hmh hmu hmq) (by decide) (by decide) (lenOf pd_22 rfl) rfl rfl rfl d34_6 e1 (by decide) (by decide) rfl ?_
    rintro _ T4 _ X4 ⟨um_4, ns_um_4, rfl, N4q, Kq4, p4_0, p4_1⟩
    have ne_a1_um_4 : a1 ≠ um_4 := Nat.ne_of_lt (Nat.lt_of_lt_of_le E_a1.lt ns_um_4)
    have K4 := K0.trans Kq4 all0
    have f_3 := F_answers_a1.keep Kq4 nin0
    refine o_pf (ty := (.object "java/util/Map")) X4 B hZ hown (wd_253 hw) Via.refl rfl f_3 (E_a1.keep K4) (Or.inr ⟨(wd_254 hw), rfl, hnm⟩) (wd_223 hw) (by decide) rfl rfl d34_9 ?_
    intro T5 h5 X5 e5 W5
    have K5 := K4.wr W5 (Or.inl (List.mem_of_getElem? (i := 0) rfl))
    have f5w := f_3.same W5
    exact o_rV X5 B hΦ hlk hret d34_12 e5 (by decide) (by decide) ⟨um_4, rfl, (Fr.snoc X5 (Fr.app N0 N4q) g_a1), K5, (E_a1.keep K5), f5w, (Or.inl ⟨(p4_0.wr W5), (p4_1.other W5 (Or.inl (Ne.symm ne_a1_um_4)))⟩), (Or.inr (Nat.le_trans K0.1 ns_um_4))⟩
theorem d46_0 : dK kC36 0 (.aload_n 0) 1 := by decide +kernel
theorem d46_1 : dK kC36 1 .arraylength 1 := by decide +kernel
theorem d46_2 : dK kC36 2 (.aload_n 1) 1 := by decide +kernel
theorem d46_3 : dK kC36 3 .arraylength 1 := by decide +kernel
theorem d46_4 : dK kC36 4 (.if_icmp .ne 30) 3 := by decide +kernel
theorem d46_34 : dK kC36 34 (.iconst 0) 1 := by decide +kernel
theorem d46_35 : dK kC36 35 .ireturn 1 := by decide +kernel
theorem ef_rmLeq_len (m : MethodId) (ua : Addr) (ub : Addr) : entryFrame m #[(.ref ua), (.ref ub)] 3 = mkF m 0 #[vr ua, vr ub, .unset] [] := by first | (simp [entryFrame, mkF, argsToLocals, Value.category]; done) | rfl
def Q_rmLeq_len (Z : State) (ua : Addr) (kua : ClassId) (ub : Addr) (kub : ClassId) (za : Int32) (zb : Int32) (LA : List Int32) (LB : List Int32) (h0 : Heap) (n0 : Nat) (v : Option Value) (h : Heap) (L : List Loc) : Prop := v = some (.int (0 : Int32)) ∧ Fr n0 L ∧ h = h0
theorem rmLeq_len (l : Launch) (Z : State) (a0 : Array Value) (hw : own_H Z a0) (ws : List Jvm.Cond) (ua : Addr) (kua : ClassId) (ub : Addr) (kub : ClassId) (za : Int32) (zb : Int32) (LA : List Int32) (LB : List Int32) (h0 : Heap) (n0 : Nat) (Z0 : n0 ≤ h0.size) (V_ua : Arv Z h0 ua kua .byte za (own_vs LA) (.int (0 : Int32))) (V_ub : Arv Z h0 ub kub .byte zb (own_vs LB) (.int (0 : Int32))) (hn : ¬ za = zb) :
    own_Met l mN39 kC36 3 (some .boolean) ws (own_rm 0 0 0 0) Z h0 #[(.ref ua), (.ref ub)] (Q_rmLeq_len Z ua kua ub kub za zb LA LB h0 n0) := by
  refine own_met (plainFor_of_name pn_2) (fun m => ef_rmLeq_len m ua ub) ?_
  intro p e s m below meth c s₁ Φ hΦ X0 hx hby hml hown hnm hret hlk hZ e0
  have B : own_B p c _ _ := ⟨hx, hby, hml⟩
  show own_G p e below Φ s₁ (mkF m 0 #[vr ua, vr ub, .unset] [])
  refine o_aloadN X0 B d46_0 rfl rfl ?_
  refine o_len X0 B hZ e0 V_ua d46_1 ?_
  refine o_aloadN X0 B d46_2 rfl rfl ?_
  refine o_len X0 B hZ e0 V_ub d46_3 ?_
  refine o_icY X0 B 34 d46_4 (XT.ii_ne_t hn) rfl ?_
  refine o_iconst X0 B d46_34 ?_
  exact o_rZ X0 B hΦ hlk hret (by simp) d46_35 (0 : Int32) rfl e0 (by decide) (by decide) ⟨rfl, (Fr.nil n0), rfl⟩
theorem d46_7 : dK kC36 7 (.iconst 0) 1 := by decide +kernel
theorem d46_8 : dK kC36 8 (.istore_n 2) 1 := by decide +kernel
theorem d46_9 : dK kC36 9 (.iload_n 2) 1 := by decide +kernel
theorem d46_10 : dK kC36 10 (.aload_n 0) 1 := by decide +kernel
theorem d46_11 : dK kC36 11 .arraylength 1 := by decide +kernel
theorem d46_12 : dK kC36 12 (.if_icmp .ge 20) 3 := by decide +kernel
theorem d46_15 : dK kC36 15 (.aload_n 0) 1 := by decide +kernel
theorem d46_16 : dK kC36 16 (.iload_n 2) 1 := by decide +kernel
theorem d46_17 : dK kC36 17 .baload 1 := by decide +kernel
theorem d46_18 : dK kC36 18 (.aload_n 1) 1 := by decide +kernel
theorem d46_19 : dK kC36 19 (.iload_n 2) 1 := by decide +kernel
theorem d46_20 : dK kC36 20 .baload 1 := by decide +kernel
theorem d46_21 : dK kC36 21 (.if_icmp .eq 5) 3 := by decide +kernel
theorem d46_26 : dK kC36 26 (.iinc 2 1) 3 := by decide +kernel
theorem d46_29 : dK kC36 29 (.goto (-20)) 3 := by decide +kernel
theorem d46_32 : dK kC36 32 (.iconst 1) 1 := by decide +kernel
theorem d46_33 : dK kC36 33 .ireturn 1 := by decide +kernel
theorem ef_rmLeq_one (m : MethodId) (ua : Addr) (ub : Addr) : entryFrame m #[(.ref ua), (.ref ub)] 3 = mkF m 0 #[vr ua, vr ub, .unset] [] := by first | (simp [entryFrame, mkF, argsToLocals, Value.category]; done) | rfl
def Q_rmLeq_one (Z : State) (ua : Addr) (kua : ClassId) (ub : Addr) (kub : ClassId) (x0 : Int32) (y0 : Int32) (h0 : Heap) (n0 : Nat) (v : Option Value) (h : Heap) (L : List Loc) : Prop := v = some (.int (1 : Int32)) ∧ Fr n0 L ∧ h = h0
theorem rmLeq_one (l : Launch) (Z : State) (a0 : Array Value) (hw : own_H Z a0) (ws : List Jvm.Cond) (ua : Addr) (kua : ClassId) (ub : Addr) (kub : ClassId) (x0 : Int32) (y0 : Int32) (h0 : Heap) (n0 : Nat) (Z0 : n0 ≤ h0.size) (V_ua : Arv Z h0 ua kua .byte (1 : Int32) [(.int (own_lo x0))] (.int (0 : Int32))) (V_ub : Arv Z h0 ub kub .byte (1 : Int32) [(.int (own_lo y0))] (.int (0 : Int32))) (hx0 : own_lo x0 = own_lo y0) :
    own_Met l mN39 kC36 3 (some .boolean) ws (own_rm 0 0 0 0) Z h0 #[(.ref ua), (.ref ub)] (Q_rmLeq_one Z ua kua ub kub x0 y0 h0 n0) := by
  refine own_met (plainFor_of_name pn_2) (fun m => ef_rmLeq_one m ua ub) ?_
  intro p e s m below meth c s₁ Φ hΦ X0 hx hby hml hown hnm hret hlk hZ e0
  have B : own_B p c _ _ := ⟨hx, hby, hml⟩
  show own_G p e below Φ s₁ (mkF m 0 #[vr ua, vr ub, .unset] [])
  refine o_aloadN X0 B d46_0 rfl rfl ?_
  refine o_len X0 B hZ e0 V_ua d46_1 ?_
  refine o_aloadN X0 B d46_2 rfl rfl ?_
  refine o_len X0 B hZ e0 V_ub d46_3 ?_
  refine o_icN X0 B d46_4 (XT.ii_ne_f (by decide : ((1 : Int32) = (1 : Int32)))) ?_
  refine o_iconst X0 B d46_7 ?_
  refine o_istoreN (L' := #[vr ua, vr ub, vi 0]) X0 B d46_8 rfl ?_
  refine o_iloadN X0 B d46_9 rfl ?_
  refine o_aloadN X0 B d46_10 rfl rfl ?_
  refine o_len X0 B hZ e0 V_ua d46_11 ?_
  refine o_icN X0 B d46_12 (XT.ii_ge_f (by decide : ((0 : Int32) < (1 : Int32)))) ?_
  refine o_aloadN X0 B d46_15 rfl rfl ?_
  refine o_iloadN X0 B d46_16 rfl ?_
  refine o_bal (v := (.int (own_lo x0))) X0 B hZ e0 V_ua ⟨by decide, by decide⟩ rfl d46_17 ?_
  refine o_aloadN X0 B d46_18 rfl rfl ?_
  refine o_iloadN X0 B d46_19 rfl ?_
  refine o_bal (v := (.int (own_lo y0))) X0 B hZ e0 V_ub ⟨by decide, by decide⟩ rfl d46_20 ?_
  refine o_icY X0 B 26 d46_21 (XT.ii_eq_t hx0) rfl ?_
  refine o_iinc (L' := #[vr ua, vr ub, vi 1]) X0 B d46_26 rfl rfl ?_
  refine o_goto X0 B 9 d46_29 rfl ?_
  show own_G p e below Φ s₁ (mkF m 9 #[vr ua, vr ub, vi 1] [])
  refine o_iloadN X0 B d46_9 rfl ?_
  refine o_aloadN X0 B d46_10 rfl rfl ?_
  refine o_len X0 B hZ e0 V_ua d46_11 ?_
  refine o_icY X0 B 32 d46_12 (XT.ii_ge_t (by decide : ¬ ((1 : Int32) < (1 : Int32)))) rfl ?_
  refine o_iconst X0 B d46_32 ?_
  exact o_rZ X0 B hΦ hlk hret (by simp) d46_33 (1 : Int32) rfl e0 (by decide) (by decide) ⟨rfl, (Fr.nil n0), rfl⟩
theorem ef_rmLeq_two (m : MethodId) (ua : Addr) (ub : Addr) : entryFrame m #[(.ref ua), (.ref ub)] 3 = mkF m 0 #[vr ua, vr ub, .unset] [] := by first | (simp [entryFrame, mkF, argsToLocals, Value.category]; done) | rfl
def Q_rmLeq_two (Z : State) (ua : Addr) (kua : ClassId) (ub : Addr) (kub : ClassId) (x0 : Int32) (x1 : Int32) (y0 : Int32) (y1 : Int32) (h0 : Heap) (n0 : Nat) (v : Option Value) (h : Heap) (L : List Loc) : Prop := v = some (.int (1 : Int32)) ∧ Fr n0 L ∧ h = h0
theorem rmLeq_two (l : Launch) (Z : State) (a0 : Array Value) (hw : own_H Z a0) (ws : List Jvm.Cond) (ua : Addr) (kua : ClassId) (ub : Addr) (kub : ClassId) (x0 : Int32) (x1 : Int32) (y0 : Int32) (y1 : Int32) (h0 : Heap) (n0 : Nat) (Z0 : n0 ≤ h0.size) (V_ua : Arv Z h0 ua kua .byte (2 : Int32) [(.int (own_lo x0)), (.int (own_lo x1))] (.int (0 : Int32))) (V_ub : Arv Z h0 ub kub .byte (2 : Int32) [(.int (own_lo y0)), (.int (own_lo y1))] (.int (0 : Int32))) (hx0 : own_lo x0 = own_lo y0) (hx1 : own_lo x1 = own_lo y1) :
    own_Met l mN39 kC36 3 (some .boolean) ws (own_rm 0 0 0 0) Z h0 #[(.ref ua), (.ref ub)] (Q_rmLeq_two Z ua kua ub kub x0 x1 y0 y1 h0 n0) := by
  refine own_met (plainFor_of_name pn_2) (fun m => ef_rmLeq_two m ua ub) ?_
  intro p e s m below meth c s₁ Φ hΦ X0 hx hby hml hown hnm hret hlk hZ e0
  have B : own_B p c _ _ := ⟨hx, hby, hml⟩
  show own_G p e below Φ s₁ (mkF m 0 #[vr ua, vr ub, .unset] [])
  refine o_aloadN X0 B d46_0 rfl rfl ?_
  refine o_len X0 B hZ e0 V_ua d46_1 ?_
  refine o_aloadN X0 B d46_2 rfl rfl ?_
  refine o_len X0 B hZ e0 V_ub d46_3 ?_
  refine o_icN X0 B d46_4 (XT.ii_ne_f (by decide : ((2 : Int32) = (2 : Int32)))) ?_
  refine o_iconst X0 B d46_7 ?_
  refine o_istoreN (L' := #[vr ua, vr ub, vi 0]) X0 B d46_8 rfl ?_
  refine o_iloadN X0 B d46_9 rfl ?_
  refine o_aloadN X0 B d46_10 rfl rfl ?_
  refine o_len X0 B hZ e0 V_ua d46_11 ?_
  refine o_icN X0 B d46_12 (XT.ii_ge_f (by decide : ((0 : Int32) < (2 : Int32)))) ?_
  refine o_aloadN X0 B d46_15 rfl rfl ?_
  refine o_iloadN X0 B d46_16 rfl ?_
  refine o_bal (v := (.int (own_lo x0))) X0 B hZ e0 V_ua ⟨by decide, by decide⟩ rfl d46_17 ?_
  refine o_aloadN X0 B d46_18 rfl rfl ?_
  refine o_iloadN X0 B d46_19 rfl ?_
  refine o_bal (v := (.int (own_lo y0))) X0 B hZ e0 V_ub ⟨by decide, by decide⟩ rfl d46_20 ?_
  refine o_icY X0 B 26 d46_21 (XT.ii_eq_t hx0) rfl ?_
  refine o_iinc (L' := #[vr ua, vr ub, vi 1]) X0 B d46_26 rfl rfl ?_
  refine o_goto X0 B 9 d46_29 rfl ?_
  show own_G p e below Φ s₁ (mkF m 9 #[vr ua, vr ub, vi 1] [])
  refine o_iloadN X0 B d46_9 rfl ?_
  refine o_aloadN X0 B d46_10 rfl rfl ?_
  refine o_len X0 B hZ e0 V_ua d46_11 ?_
  refine o_icN X0 B d46_12 (XT.ii_ge_f (by decide : ((1 : Int32) < (2 : Int32)))) ?_
  refine o_aloadN X0 B d46_15 rfl rfl ?_
  refine o_iloadN X0 B d46_16 rfl ?_
  refine o_bal (v := (.int (own_lo x1))) X0 B hZ e0 V_ua ⟨by decide, by decide⟩ rfl d46_17 ?_
  refine o_aloadN X0 B d46_18 rfl rfl ?_
  refine o_iloadN X0 B d46_19 rfl ?_
  refine o_bal (v := (.int (own_lo y1))) X0 B hZ e0 V_ub ⟨by decide, by decide⟩ rfl d46_20 ?_
  refine o_icY X0 B 26 d46_21 (XT.ii_eq_t hx1) rfl ?_
  refine o_iinc (L' := #[vr ua, vr ub, vi 2]) X0 B d46_26 rfl rfl ?_
  refine o_goto X0 B 9 d46_29 rfl ?_
  refine o_iloadN X0 B d46_9 rfl ?_
  refine o_aloadN X0 B d46_10 rfl rfl ?_
  refine o_len X0 B hZ e0 V_ua d46_11 ?_
  refine o_icY X0 B 32 d46_12 (XT.ii_ge_t (by decide : ¬ ((2 : Int32) < (2 : Int32)))) rfl ?_
  refine o_iconst X0 B d46_32 ?_
  exact o_rZ X0 B hΦ hlk hret (by simp) d46_33 (1 : Int32) rfl e0 (by decide) (by decide) ⟨rfl, (Fr.nil n0), rfl⟩
theorem d46_24 : dK kC36 24 (.iconst 0) 1 := by decide +kernel
theorem d46_25 : dK kC36 25 .ireturn 1 := by decide +kernel
theorem ef_rmLeq_ne (m : MethodId) (ua : Addr) (ub : Addr) : entryFrame m #[(.ref ua), (.ref ub)] 3 = mkF m 0 #[vr ua, vr ub, .unset] [] := by first | (simp [entryFrame, mkF, argsToLocals, Value.category]; done) | rfl
def Q_rmLeq_ne (Z : State) (ua : Addr) (kua : ClassId) (ub : Addr) (kub : ClassId) (x0 : Int32) (x1 : Int32) (y0 : Int32) (y1 : Int32) (h0 : Heap) (n0 : Nat) (v : Option Value) (h : Heap) (L : List Loc) : Prop := v = some (.int (0 : Int32)) ∧ Fr n0 L ∧ h = h0
theorem rmLeq_ne (l : Launch) (Z : State) (a0 : Array Value) (hw : own_H Z a0) (ws : List Jvm.Cond) (ua : Addr) (kua : ClassId) (ub : Addr) (kub : ClassId) (x0 : Int32) (x1 : Int32) (y0 : Int32) (y1 : Int32) (h0 : Heap) (n0 : Nat) (Z0 : n0 ≤ h0.size) (V_ua : Arv Z h0 ua kua .byte (2 : Int32) [(.int (own_lo x0)), (.int (own_lo x1))] (.int (0 : Int32))) (V_ub : Arv Z h0 ub kub .byte (2 : Int32) [(.int (own_lo y0)), (.int (own_lo y1))] (.int (0 : Int32))) (hne : ¬ (own_lo x0 = own_lo y0 ∧ own_lo x1 = own_lo y1)) :
    own_Met l mN39 kC36 3 (some .boolean) ws (own_rm 0 0 0 0) Z h0 #[(.ref ua), (.ref ub)] (Q_rmLeq_ne Z ua kua ub kub x0 x1 y0 y1 h0 n0) := by
  refine own_met (plainFor_of_name pn_2) (fun m => ef_rmLeq_ne m ua ub) ?_
  intro p e s m below meth c s₁ Φ hΦ X0 hx hby hml hown hnm hret hlk hZ e0
  have N0 := Fr.nil n0
  have B : own_B p c _ _ := ⟨hx, hby, hml⟩
  show own_G p e below Φ s₁ (mkF m 0 #[vr ua, vr ub, .unset] [])
  refine o_aloadN X0 B d46_0 rfl rfl ?_
  refine o_len X0 B hZ e0 V_ua d46_1 ?_
  refine o_aloadN X0 B d46_2 rfl rfl ?_
  refine o_len X0 B hZ e0 V_ub d46_3 ?_
  refine o_icN X0 B d46_4 (XT.ii_ne_f (by decide : ((2 : Int32) = (2 : Int32)))) ?_
  refine o_iconst X0 B d46_7 ?_
  refine o_istoreN (L' := #[vr ua, vr ub, vi 0]) X0 B d46_8 rfl ?_
  refine o_iloadN X0 B d46_9 rfl ?_
  refine o_aloadN X0 B d46_10 rfl rfl ?_
  refine o_len X0 B hZ e0 V_ua d46_11 ?_
  refine o_icN X0 B d46_12 (XT.ii_ge_f (by decide : ((0 : Int32) < (2 : Int32)))) ?_
  refine o_aloadN X0 B d46_15 rfl rfl ?_
  refine o_iloadN X0 B d46_16 rfl ?_
  refine o_bal (v := (.int (own_lo x0))) X0 B hZ e0 V_ua ⟨by decide, by decide⟩ rfl d46_17 ?_
  refine o_aloadN X0 B d46_18 rfl rfl ?_
  refine o_iloadN X0 B d46_19 rfl ?_
  refine o_bal (v := (.int (own_lo y0))) X0 B hZ e0 V_ub ⟨by decide, by decide⟩ rfl d46_20 ?_
  by_cases hc21 : (own_lo x0) = (own_lo y0)
  · refine o_icY X0 B 26 d46_21 (XT.ii_eq_t hc21) rfl ?_
    refine o_iinc (L' := #[vr ua, vr ub, vi 1]) X0 B d46_26 rfl rfl ?_
    refine o_goto X0 B 9 d46_29 rfl ?_
    show own_G p e below Φ s₁ (mkF m 9 #[vr ua, vr ub, vi 1] [])
    refine o_iloadN X0 B d46_9 rfl ?_
    refine o_aloadN X0 B d46_10 rfl rfl ?_
    refine o_len X0 B hZ e0 V_ua d46_11 ?_
    refine o_icN X0 B d46_12 (XT.ii_ge_f (by decide : ((1 : Int32) < (2 : Int32)))) ?_
    refine o_aloadN X0 B d46_15 rfl rfl ?_
    refine o_iloadN X0 B d46_16 rfl ?_
    refine o_bal (v := (.int (own_lo x1))) X0 B hZ e0 V_ua ⟨by decide, by decide⟩ rfl d46_17 ?_
    refine o_aloadN X0 B d46_18 rfl rfl ?_
    refine o_iloadN X0 B d46_19 rfl ?_
    refine o_bal (v := (.int (own_lo y1))) X0 B hZ e0 V_ub ⟨by decide, by decide⟩ rfl d46_20 ?_
    refine o_icN X0 B d46_21 (XT.ii_eq_f (fun q => hne ⟨hc21, q⟩)) ?_
    refine o_iconst X0 B d46_24 ?_
    exact o_rZ X0 B hΦ hlk hret (by simp) d46_25 (0 : Int32) rfl e0 (by decide) (by decide) ⟨rfl, N0, rfl⟩
  · refine o_icN X0 B d46_21 (XT.ii_eq_f hc21) ?_
    refine o_iconst X0 B d46_24 ?_
    exact o_rZ X0 B hΦ hlk hret (by simp) d46_25 (0 : Int32) rfl e0 (by decide) (by decide) ⟨rfl, N0, rfl⟩
theorem d45_0 : dK kC37 0 (.aload_n 0) 1 := by decide +kernel
theorem d45_1 : dK kC37 1 (.aload_n 1) 1 := by decide +kernel
theorem d45_2 : dK kC37 2 (.if_acmp .ne 5) 3 := by decide +kernel
theorem d45_7 : dK kC37 7 (.aload_n 1) 1 := by decide +kernel
theorem d45_8 : dK kC37 8 (.instanceof 10) 3 := by decide +kernel
theorem d45_11 : dK kC37 11 (.ifCond .eq 43) 3 := by decide +kernel
theorem d45_14 : dK kC37 14 (.aload_n 1) 1 := by decide +kernel
theorem d45_15 : dK kC37 15 (.checkcast 10) 3 := by decide +kernel
theorem d45_18 : dK kC37 18 (.astore_n 2) 1 := by decide +kernel
theorem d45_19 : dK kC37 19 (.getstatic 38) 3 := by decide +kernel
theorem d45_22 : dK kC37 22 (.ifCond .eq 14) 3 := by decide +kernel
theorem d45_25 : dK kC37 25 (.aload_n 0) 1 := by decide +kernel
theorem d45_26 : dK kC37 26 (.getfield 15) 3 := by decide +kernel
theorem d45_29 : dK kC37 29 (.aload_n 2) 1 := by decide +kernel
theorem d45_30 : dK kC37 30 (.getfield 15) 3 := by decide +kernel
theorem d45_33 : dK kC37 33 (.if_icmp .ne 21) 3 := by decide +kernel
theorem d45_36 : dK kC37 36 (.aload_n 0) 1 := by decide +kernel
theorem d45_37 : dK kC37 37 (.getfield 9) 3 := by decide +kernel
theorem d45_40 : dK kC37 40 (.aload_n 2) 1 := by decide +kernel
theorem d45_41 : dK kC37 41 (.getfield 9) 3 := by decide +kernel
theorem d45_44 : dK kC37 44 (.invokestatic 541) 3 := by decide +kernel
theorem pd_23 : parseMethodDescriptor "([B[B)Z" = some ⟨[(.array .byte), (.array .byte)], some .boolean⟩ := by decide +kernel
theorem d45_47 : dK kC37 47 (.ifCond .eq 7) 3 := by decide +kernel
theorem d45_54 : dK kC37 54 (.iconst 0) 1 := by decide +kernel
theorem d45_55 : dK kC37 55 .ireturn 1 := by decide +kernel
theorem ef_rmSeq_len (m : MethodId) (sa : Addr) (sb : Addr) : entryFrame m #[(.ref sa), (.ref sb)] 3 = mkF m 0 #[vr sa, vr sb, .unset] [] := by first | (simp [entryFrame, mkF, argsToLocals, Value.category]; done) | rfl
def Q_rmSeq_len (Z : State) (sa : Addr) (gz : Int32) (ua : Addr) (kua : ClassId) (sb : Addr) (ub : Addr) (kub : ClassId) (za : Int32) (zb : Int32) (LA : List Int32) (LB : List Int32) (h0 : Heap) (n0 : Nat) (v : Option Value) (h : Heap) (L : List Loc) : Prop := v = some (.int (0 : Int32)) ∧ Fr n0 L ∧ h = h0
theorem rmSeq_len (l : Launch) (Z : State) (a0 : Array Value) (hw : own_H Z a0) (ws : List Jvm.Cond) (sa : Addr) (gz : Int32) (ua : Addr) (kua : ClassId) (sb : Addr) (ub : Addr) (kub : ClassId) (za : Int32) (zb : Int32) (LA : List Int32) (LB : List Int32) (h0 : Heap) (n0 : Nat) (Z0 : n0 ≤ h0.size) (O0 : Old Z n0 h0) (S_COMPACT_STRINGS : Sta Z Z.heap "java/lang/String" "COMPACT_STRINGS" "Z" (.int gz)) (hgz : ¬ gz = (0 : Int32)) (E_sa : fE1 Z h0 sa) (F_coder_sa : fF2 Z h0 sa (.int (0 : Int32))) (F_value_sa : fF1 Z h0 sa (.ref ua)) (E_sb : fE1 Z h0 sb) (F_coder_sb : fF2 Z h0 sb (.int (0 : Int32))) (F_value_sb : fF1 Z h0 sb (.ref ub)) (V_ua : Arv Z h0 ua kua .byte za (own_vs LA) (.int (0 : Int32))) (V_ub : Arv Z h0 ub kub .byte zb (own_vs LB) (.int (0 : Int32))) (ne_sa_sb : sa ≠ sb) (hn : ¬ za = zb) :
    own_Met l mN40 kC37 3 (some .boolean) ws (own_rm 1 0 0 14) Z h0 #[(.ref sa), (.ref sb)] (Q_rmSeq_len Z sa gz ua kua sb ub kub za zb LA LB h0 n0) := by
  refine own_met (plainFor_of_name pn_1) (fun m => ef_rmSeq_len m sa sb) ?_
  intro p e s m below meth c s₁ Φ hΦ X0 hx hby hml hown hnm hret hlk hZ e0
  have B : own_B p c _ _ := ⟨hx, hby, hml⟩
  show own_G p e below Φ s₁ (mkF m 0 #[vr sa, vr sb, .unset] [])
  refine o_aloadN X0 B d45_0 rfl rfl ?_
  refine o_aloadN X0 B d45_1 rfl rfl ?_
  refine own_go (fun _ => Jvm.RoadKit.acmp (g := (mkF m 2 #[vr sa, vr sb, .unset] [(.ref sb), (.ref sa)])) X0 hx rfl rfl rfl (pc0 := 2) (pc' := 7) (same := false) rfl (hb hby d45_2) rfl (decide_eq_false fun q => ne_sa_sb (Value.ref.inj q)) (by decide) (by decide)) ?_
  refine o_aloadN X0 B d45_7 rfl rfl ?_
  refine o_inst X0 B hZ hown (wd_37 hw) e0 (Ins.self E_sb) d45_8 ?_
  intro T1 X1 e1
  refine o_ifN X1 B d45_11 (XT.i0_eq_f (by decide : ¬ ((1 : Int32) = (0 : Int32)))) ?_
  refine o_aloadN X1 B d45_14 rfl rfl ?_
  refine o_cast X1 B hZ hown (wd_37 hw) e1 (Ins.self E_sb) d45_15 ?_
  intro T2 X2 e2
  refine o_astoreN (L' := #[vr sa, vr sb, vr sb]) X2 B d45_18 rfl rfl ?_
  refine o_gs X2 B hZ hown (wd_14 hw) Via.refl e2 (S_COMPACT_STRINGS.ext O0.2) d45_19 ?_
  intro T3 X3 e3
  refine o_ifN X3 B d45_22 (XT.i0_eq_f hgz) ?_
  refine o_aloadN X3 B d45_25 rfl rfl ?_
  refine o_gf X3 B hZ hown (wd_26 hw) Via.refl e3 F_coder_sa d45_26 ?_
  intro T4 X4 e4
  refine o_aloadN X4 B d45_29 rfl rfl ?_
  refine o_gf X4 B hZ hown (wd_26 hw) Via.refl e4 F_coder_sb d45_30 ?_
  intro T5 X5 e5
  refine o_icN X5 B d45_33 (XT.ii_ne_f (by decide : ((0 : Int32) = (0 : Int32)))) ?_
  refine o_aloadN X5 B d45_36 rfl rfl ?_
  show own_G p e below Φ T5 (mkF m 37 #[vr sa, vr sb, vr sb] [(.ref sa)])
  refine o_gf X5 B hZ hown (wd_28 hw) Via.refl e5 F_value_sa d45_37 ?_
  intro T6 X6 e6
  refine o_aloadN X6 B d45_40 rfl rfl ?_
  refine o_gf X6 B hZ hown (wd_28 hw) Via.refl e6 F_value_sb d45_41 ?_
  intro T7 X7 e7
  refine o_cS (argsL := [(.ref ua), (.ref ub)]) (rest := []) X7 B hZ hown (wd_304 hw) (wd_305 hw) (wd_306 hw) (wd_35 hw) (by decide) 0 (rmLeq_len l Z a0 hw [] ua kua ub kub za zb LA LB h0 n0 Z0 V_ua V_ub hn) (by decide) (by decide) (lenOf pd_23 rfl) rfl rfl rfl d45_44 e7 (by decide) (by decide) rfl ?_
  rintro _ T8 _ X8 ⟨rfl, N8q, hs8⟩
  refine o_ifY X8 B 54 d45_47 (XT.i0_eq_t (by decide : ((0 : Int32) = (0 : Int32)))) rfl ?_
  refine o_iconst X8 B d45_54 ?_
  exact o_rZ X8 B hΦ hlk hret (by simp) d45_55 (0 : Int32) rfl hs8 (by decide) (by decide) ⟨rfl, (Fr.app (Fr.nil n0) N8q), rfl⟩
theorem d45_50 : dK kC37 50 (.iconst 1) 1 := by decide +kernel
theorem d45_51 : dK kC37 51 (.goto 4) 3 := by decide +kernel
theorem ef_rmSeq_one (m : MethodId) (sa : Addr) (sb : Addr) : entryFrame m #[(.ref sa), (.ref sb)] 3 = mkF m 0 #[vr sa, vr sb, .unset] [] := by first | (simp [entryFrame, mkF, argsToLocals, Value.category]; done) | rfl
def Q_rmSeq_one (Z : State) (sa : Addr) (gz : Int32) (ua : Addr) (kua : ClassId) (sb : Addr) (ub : Addr) (kub : ClassId) (x0 : Int32) (y0 : Int32) (h0 : Heap) (n0 : Nat) (v : Option Value) (h : Heap) (L : List Loc) : Prop := v = some (.int (1 : Int32)) ∧ Fr n0 L ∧ h = h0
theorem rmSeq_one (l : Launch) (Z : State) (a0 : Array Value) (hw : own_H Z a0) (ws : List Jvm.Cond) (sa : Addr) (gz : Int32) (ua : Addr) (kua : ClassId) (sb : Addr) (ub : Addr) (kub : ClassId) (x0 : Int32) (y0 : Int32) (h0 : Heap) (n0 : Nat) (Z0 : n0 ≤ h0.size) (O0 : Old Z n0 h0) (S_COMPACT_STRINGS : Sta Z Z.heap "java/lang/String" "COMPACT_STRINGS" "Z" (.int gz)) (hgz : ¬ gz = (0 : Int32)) (E_sa : fE1 Z h0 sa) (F_coder_sa : fF2 Z h0 sa (.int (0 : Int32))) (F_value_sa : fF1 Z h0 sa (.ref ua)) (E_sb : fE1 Z h0 sb) (F_coder_sb : fF2 Z h0 sb (.int (0 : Int32))) (F_value_sb : fF1 Z h0 sb (.ref ub)) (V_ua : Arv Z h0 ua kua .byte (1 : Int32) [(.int (own_lo x0))] (.int (0 : Int32))) (V_ub : Arv Z h0 ub kub .byte (1 : Int32) [(.int (own_lo y0))] (.int (0 : Int32))) (ne_sa_sb : sa ≠ sb) (hx0 : own_lo x0 = own_lo y0) :
    own_Met l mN40 kC37 3 (some .boolean) ws (own_rm 1 0 0 14) Z h0 #[(.ref sa), (.ref sb)] (Q_rmSeq_one Z sa gz ua kua sb ub kub x0 y0 h0 n0) := by
  refine own_met (plainFor_of_name pn_1) (fun m => ef_rmSeq_one m sa sb) ?_
  intro p e s m below meth c s₁ Φ hΦ X0 hx hby hml hown hnm hret hlk hZ e0
  have B : own_B p c _ _ := ⟨hx, hby, hml⟩
  show own_G p e below Φ s₁ (mkF m 0 #[vr sa, vr sb, .unset] [])
  refine o_aloadN X0 B d45_0 rfl rfl ?_
  refine o_aloadN X0 B d45_1 rfl rfl ?_
  refine own_go (fun _ => Jvm.RoadKit.acmp (g := (mkF m 2 #[vr sa, vr sb, .unset] [(.ref sb), (.ref sa)])) X0 hx rfl rfl rfl (pc0 := 2) (pc' := 7) (same := false) rfl (hb hby d45_2) rfl (decide_eq_false fun q => ne_sa_sb (Value.ref.inj q)) (by decide) (by decide)) ?_
  refine o_aloadN X0 B d45_7 rfl rfl ?_
  refine o_inst X0 B hZ hown (wd_37 hw) e0 (Ins.self E_sb) d45_8 ?_
  intro T1 X1 e1
  refine o_ifN X1 B d45_11 (XT.i0_eq_f (by decide : ¬ ((1 : Int32) = (0 : Int32)))) ?_
  refine o_aloadN X1 B d45_14 rfl rfl ?_
  refine o_cast X1 B hZ hown (wd_37 hw) e1 (Ins.self E_sb) d45_15 ?_
  intro T2 X2 e2
  refine o_astoreN (L' := #[vr sa, vr sb, vr sb]) X2 B d45_18 rfl rfl ?_
  refine o_gs X2 B hZ hown (wd_14 hw) Via.refl e2 (S_COMPACT_STRINGS.ext O0.2) d45_19 ?_
  intro T3 X3 e3
  refine o_ifN X3 B d45_22 (XT.i0_eq_f hgz) ?_
  refine o_aloadN X3 B d45_25 rfl rfl ?_
  refine o_gf X3 B hZ hown (wd_26 hw) Via.refl e3 F_coder_sa d45_26 ?_
  intro T4 X4 e4
  refine o_aloadN X4 B d45_29 rfl rfl ?_
  refine o_gf X4 B hZ hown (wd_26 hw) Via.refl e4 F_coder_sb d45_30 ?_
  intro T5 X5 e5
  refine o_icN X5 B d45_33 (XT.ii_ne_f (by decide : ((0 : Int32) = (0 : Int32)))) ?_
  refine o_aloadN X5 B d45_36 rfl rfl ?_
  show own_G p e below Φ T5 (mkF m 37 #[vr sa, vr sb, vr sb] [(.ref sa)])
  refine o_gf X5 B hZ hown (wd_28 hw) Via.refl e5 F_value_sa d45_37 ?_
  intro T6 X6 e6
  refine o_aloadN X6 B d45_40 rfl rfl ?_
  refine o_gf X6 B hZ hown (wd_28 hw) Via.refl e6 F_value_sb d45_41 ?_
  intro T7 X7 e7
  refine o_cS (argsL := [(.ref ua), (.ref ub)]) (rest := []) X7 B hZ hown (wd_304 hw) (wd_305 hw) (wd_306 hw) (wd_35 hw) (by decide) 0 (rmLeq_one l Z a0 hw [] ua kua ub kub x0 y0 h0 n0 Z0 V_ua V_ub hx0) (by decide) (by decide) (lenOf pd_23 rfl) rfl rfl rfl d45_44 e7 (by decide) (by decide) rfl ?_
  rintro _ T8 _ X8 ⟨rfl, N8q, hs8⟩
  refine o_ifN X8 B d45_47 (XT.i0_eq_f (by decide : ¬ ((1 : Int32) = (0 : Int32)))) ?_
  refine o_iconst X8 B d45_50 ?_
  refine o_goto X8 B 55 d45_51 rfl ?_
  exact o_rZ X8 B hΦ hlk hret (by simp) d45_55 (1 : Int32) rfl hs8 (by decide) (by decide) ⟨rfl, (Fr.app (Fr.nil n0) N8q), rfl⟩
theorem ef_rmSeq_two (m : MethodId) (sa : Addr) (sb : Addr) : entryFrame m #[(.ref sa), (.ref sb)] 3 = mkF m 0 #[vr sa, vr sb, .unset] [] := by first | (simp [entryFrame, mkF, argsToLocals, Value.category]; done) | rfl
def Q_rmSeq_two (Z : State) (sa : Addr) (gz : Int32) (ua : Addr) (kua : ClassId) (sb : Addr) (ub : Addr) (kub : ClassId) (x0 : Int32) (x1 : Int32) (y0 : Int32) (y1 : Int32) (h0 : Heap) (n0 : Nat) (v : Option Value) (h : Heap) (L : List Loc) : Prop := v = some (.int (1 : Int32)) ∧ Fr n0 L ∧ h = h0
theorem rmSeq_two (l : Launch) (Z : State) (a0 : Array Value) (hw : own_H Z a0) (ws : List Jvm.Cond) (sa : Addr) (gz : Int32) (ua : Addr) (kua : ClassId) (sb : Addr) (ub : Addr) (kub : ClassId) (x0 : Int32) (x1 : Int32) (y0 : Int32) (y1 : Int32) (h0 : Heap) (n0 : Nat) (Z0 : n0 ≤ h0.size) (O0 : Old Z n0 h0) (S_COMPACT_STRINGS : Sta Z Z.heap "java/lang/String" "COMPACT_STRINGS" "Z" (.int gz)) (hgz : ¬ gz = (0 : Int32)) (E_sa : fE1 Z h0 sa) (F_coder_sa : fF2 Z h0 sa (.int (0 : Int32))) (F_value_sa : fF1 Z h0 sa (.ref ua)) (E_sb : fE1 Z h0 sb) (F_coder_sb : fF2 Z h0 sb (.int (0 : Int32))) (F_value_sb : fF1 Z h0 sb (.ref ub)) (V_ua : Arv Z h0 ua kua .byte (2 : Int32) [(.int (own_lo x0)), (.int (own_lo x1))] (.int (0 : Int32))) (V_ub : Arv Z h0 ub kub .byte (2 : Int32) [(.int (own_lo y0)), (.int (own_lo y1))] (.int (0 : Int32))) (ne_sa_sb : sa ≠ sb) (hx0 : own_lo x0 = own_lo y0) (hx1 : own_lo x1 = own_lo y1) :
    own_Met l mN40 kC37 3 (some .boolean) ws (own_rm 1 0 0 14) Z h0 #[(.ref sa), (.ref sb)] (Q_rmSeq_two Z sa gz ua kua sb ub kub x0 x1 y0 y1 h0 n0) := by
  refine own_met (plainFor_of_name pn_1) (fun m => ef_rmSeq_two m sa sb) ?_
  intro p e s m below meth c s₁ Φ hΦ X0 hx hby hml hown hnm hret hlk hZ e0
  have B : own_B p c _ _ := ⟨hx, hby, hml⟩
  show own_G p e below Φ s₁ (mkF m 0 #[vr sa, vr sb, .unset] [])
  refine o_aloadN X0 B d45_0 rfl rfl ?_
  refine o_aloadN X0 B d45_1 rfl rfl ?_
  refine own_go (fun _ => Jvm.RoadKit.acmp (g := (mkF m 2 #[vr sa, vr sb, .unset] [(.ref sb), (.ref sa)])) X0 hx rfl rfl rfl (pc0 := 2) (pc' := 7) (same := false) rfl (hb hby d45_2) rfl (decide_eq_false fun q => ne_sa_sb (Value.ref.inj q)) (by decide) (by decide)) ?_
  refine o_aloadN X0 B d45_7 rfl rfl ?_
  refine o_inst X0 B hZ hown (wd_37 hw) e0 (Ins.self E_sb) d45_8 ?_
  intro T1 X1 e1
  refine o_ifN X1 B d45_11 (XT.i0_eq_f (by decide : ¬ ((1 : Int32) = (0 : Int32)))) ?_
  refine o_aloadN X1 B d45_14 rfl rfl ?_
  refine o_cast X1 B hZ hown (wd_37 hw) e1 (Ins.self E_sb) d45_15 ?_
  intro T2 X2 e2
  refine o_astoreN (L' := #[vr sa, vr sb, vr sb]) X2 B d45_18 rfl rfl ?_
  refine o_gs X2 B hZ hown (wd_14 hw) Via.refl e2 (S_COMPACT_STRINGS.ext O0.2) d45_19 ?_
  intro T3 X3 e3
  refine o_ifN X3 B d45_22 (XT.i0_eq_f hgz) ?_
  refine o_aloadN X3 B d45_25 rfl rfl ?_
  refine o_gf X3 B hZ hown (wd_26 hw) Via.refl e3 F_coder_sa d45_26 ?_
  intro T4 X4 e4
  refine o_aloadN X4 B d45_29 rfl rfl ?_
  refine o_gf X4 B hZ hown (wd_26 hw) Via.refl e4 F_coder_sb d45_30 ?_
  intro T5 X5 e5
  refine o_icN X5 B d45_33 (XT.ii_ne_f (by decide : ((0 : Int32) = (0 : Int32)))) ?_
  refine o_aloadN X5 B d45_36 rfl rfl ?_
  show own_G p e below Φ T5 (mkF m 37 #[vr sa, vr sb, vr sb] [(.ref sa)])
  refine o_gf X5 B hZ hown (wd_28 hw) Via.refl e5 F_value_sa d45_37 ?_
  intro T6 X6 e6
  refine o_aloadN X6 B d45_40 rfl rfl ?_
  refine o_gf X6 B hZ hown (wd_28 hw) Via.refl e6 F_value_sb d45_41 ?_
  intro T7 X7 e7
  refine o_cS (argsL := [(.ref ua), (.ref ub)]) (rest := []) X7 B hZ hown (wd_304 hw) (wd_305 hw) (wd_306 hw) (wd_35 hw) (by decide) 0 (rmLeq_two l Z a0 hw [] ua kua ub kub x0 x1 y0 y1 h0 n0 Z0 V_ua V_ub hx0 hx1) (by decide) (by decide) (lenOf pd_23 rfl) rfl rfl rfl d45_44 e7 (by decide) (by decide) rfl ?_
  rintro _ T8 _ X8 ⟨rfl, N8q, hs8⟩
  refine o_ifN X8 B d45_47 (XT.i0_eq_f (by decide : ¬ ((1 : Int32) = (0 : Int32)))) ?_
  refine o_iconst X8 B d45_50 ?_
  refine o_goto X8 B 55 d45_51 rfl ?_
  exact o_rZ X8 B hΦ hlk hret (by simp) d45_55 (1 : Int32) rfl hs8 (by decide) (by decide) ⟨rfl, (Fr.app (Fr.nil n0) N8q), rfl⟩
theorem ef_rmSeq_ne (m : MethodId) (sa : Addr) (sb : Addr) : entryFrame m #[(.ref sa), (.ref sb)] 3 = mkF m 0 #[vr sa, vr sb, .unset] [] := by first | (simp [entryFrame, mkF, argsToLocals, Value.category]; done) | rfl
def Q_rmSeq_ne (Z : State) (sa : Addr) (gz : Int32) (ua : Addr) (kua : ClassId) (sb : Addr) (ub : Addr) (kub : ClassId) (x0 : Int32) (x1 : Int32) (y0 : Int32) (y1 : Int32) (h0 : Heap) (n0 : Nat) (v : Option Value) (h : Heap) (L : List Loc) : Prop := v = some (.int (0 : Int32)) ∧ Fr n0 L ∧ h = h0
theorem rmSeq_ne (l : Launch) (Z : State) (a0 : Array Value) (hw : own_H Z a0) (ws : List Jvm.Cond) (sa : Addr) (gz : Int32) (ua : Addr) (kua : ClassId) (sb : Addr) (ub : Addr) (kub : ClassId) (x0 : Int32) (x1 : Int32) (y0 : Int32) (y1 : Int32) (h0 : Heap) (n0 : Nat) (Z0 : n0 ≤ h0.size) (O0 : Old Z n0 h0) (S_COMPACT_STRINGS : Sta Z Z.heap "java/lang/String" "COMPACT_STRINGS" "Z" (.int gz)) (hgz : ¬ gz = (0 : Int32)) (E_sa : fE1 Z h0 sa) (F_coder_sa : fF2 Z h0 sa (.int (0 : Int32))) (F_value_sa : fF1 Z h0 sa (.ref ua)) (E_sb : fE1 Z h0 sb) (F_coder_sb : fF2 Z h0 sb (.int (0 : Int32))) (F_value_sb : fF1 Z h0 sb (.ref ub)) (V_ua : Arv Z h0 ua kua .byte (2 : Int32) [(.int (own_lo x0)), (.int (own_lo x1))] (.int (0 : Int32))) (V_ub : Arv Z h0 ub kub .byte (2 : Int32) [(.int (own_lo y0)), (.int (own_lo y1))] (.int (0 : Int32))) (ne_sa_sb : sa ≠ sb) (hne : ¬ (own_lo x0 = own_lo y0 ∧ own_lo x1 = own_lo y1)) :
    own_Met l mN40 kC37 3 (some .boolean) ws (own_rm 1 0 0 14) Z h0 #[(.ref sa), (.ref sb)] (Q_rmSeq_ne Z sa gz ua kua sb ub kub x0 x1 y0 y1 h0 n0) := by
  refine own_met (plainFor_of_name pn_1) (fun m => ef_rmSeq_ne m sa sb) ?_
  intro p e s m below meth c s₁ Φ hΦ X0 hx hby hml hown hnm hret hlk hZ e0
  have B : own_B p c _ _ := ⟨hx, hby, hml⟩
  show own_G p e below Φ s₁ (mkF m 0 #[vr sa, vr sb, .unset] [])
  refine o_aloadN X0 B d45_0 rfl rfl ?_
  refine o_aloadN X0 B d45_1 rfl rfl ?_
  refine own_go (fun _ => Jvm.RoadKit.acmp (g := (mkF m 2 #[vr sa, vr sb, .unset] [(.ref sb), (.ref sa)])) X0 hx rfl rfl rfl (pc0 := 2) (pc' := 7) (same := false) rfl (hb hby d45_2) rfl (decide_eq_false fun q => ne_sa_sb (Value.ref.inj q)) (by decide) (by decide)) ?_
  refine o_aloadN X0 B d45_7 rfl rfl ?_
  refine o_inst X0 B hZ hown (wd_37 hw) e0 (Ins.self E_sb) d45_8 ?_
  intro T1 X1 e1
  refine o_ifN X1 B d45_11 (XT.i0_eq_f (by decide : ¬ ((1 : Int32) = (0 : Int32)))) ?_
  refine o_aloadN X1 B d45_14 rfl rfl ?_
  refine o_cast X1 B hZ hown (wd_37 hw) e1 (Ins.self E_sb) d45_15 ?_
  intro T2 X2 e2
  refine o_astoreN (L' := #[vr sa, vr sb, vr sb]) X2 B d45_18 rfl rfl ?_
  refine o_gs X2 B hZ hown (wd_14 hw) Via.refl e2 (S_COMPACT_STRINGS.ext O0.2) d45_19 ?_
  intro T3 X3 e3
  refine o_ifN X3 B d45_22 (XT.i0_eq_f hgz) ?_
  refine o_aloadN X3 B d45_25 rfl rfl ?_
  refine o_gf X3 B hZ hown (wd_26 hw) Via.refl e3 F_coder_sa d45_26 ?_
  intro T4 X4 e4
  refine o_aloadN X4 B d45_29 rfl rfl ?_
  refine o_gf X4 B hZ hown (wd_26 hw) Via.refl e4 F_coder_sb d45_30 ?_
  intro T5 X5 e5
  refine o_icN X5 B d45_33 (XT.ii_ne_f (by decide : ((0 : Int32) = (0 : Int32)))) ?_
  refine o_aloadN X5 B d45_36 rfl rfl ?_
  show own_G p e below Φ T5 (mkF m 37 #[vr sa, vr sb, vr sb] [(.ref sa)])
  refine o_gf X5 B hZ hown (wd_28 hw) Via.refl e5 F_value_sa d45_37 ?_
  intro T6 X6 e6
  refine o_aloadN X6 B d45_40 rfl rfl ?_
  refine o_gf X6 B hZ hown (wd_28 hw) Via.refl e6 F_value_sb d45_41 ?_
  intro T7 X7 e7
  refine o_cS (argsL := [(.ref ua), (.ref ub)]) (rest := []) X7 B hZ hown (wd_304 hw) (wd_305 hw) (wd_306 hw) (wd_35 hw) (by decide) 0 (rmLeq_ne l Z a0 hw [] ua kua ub kub x0 x1 y0 y1 h0 n0 Z0 V_ua V_ub hne) (by decide) (by decide) (lenOf pd_23 rfl) rfl rfl rfl d45_44 e7 (by decide) (by decide) rfl ?_
  rintro _ T8 _ X8 ⟨rfl, N8q, hs8⟩
  refine o_ifY X8 B 54 d45_47 (XT.i0_eq_t (by decide : ((0 : Int32) = (0 : Int32)))) rfl ?_
  refine o_iconst X8 B d45_54 ?_
  exact o_rZ X8 B hΦ hlk hret (by simp) d45_55 (0 : Int32) rfl hs8 (by decide) (by decide) ⟨rfl, (Fr.app (Fr.nil n0) N8q), rfl⟩
theorem d41_0 : dK kC38 0 (.aload_n 0) 1 := by decide +kernel
theorem d41_1 : dK kC38 1 (.getfield 105) 3 := by decide +kernel
theorem d41_4 : dK kC38 4 .dup 1 := by decide +kernel
theorem d41_5 : dK kC38 5 (.astore_n 2) 1 := by decide +kernel
theorem d41_6 : dK kC38 6 (.ifnull 142) 3 := by decide +kernel
theorem d41_9 : dK kC38 9 (.aload_n 2) 1 := by decide +kernel
theorem d41_10 : dK kC38 10 .arraylength 1 := by decide +kernel
theorem d41_11 : dK kC38 11 .dup 1 := by decide +kernel
theorem d41_12 : dK kC38 12 (.istore 5) 2 := by decide +kernel
theorem d41_14 : dK kC38 14 (.ifCond .le 134) 3 := by decide +kernel
theorem d41_17 : dK kC38 17 (.aload_n 2) 1 := by decide +kernel
theorem d41_18 : dK kC38 18 (.iload 5) 2 := by decide +kernel
theorem d41_20 : dK kC38 20 (.iconst 1) 1 := by decide +kernel
theorem d41_21 : dK kC38 21 .isub 1 := by decide +kernel
theorem d41_22 : dK kC38 22 (.aload_n 1) 1 := by decide +kernel
theorem d41_23 : dK kC38 23 (.invokestatic 149) 3 := by decide +kernel
theorem d41_26 : dK kC38 26 .dup 1 := by decide +kernel
theorem d41_27 : dK kC38 27 (.istore 6) 2 := by decide +kernel
theorem d41_29 : dK kC38 29 .iand 1 := by decide +kernel
theorem d41_30 : dK kC38 30 .aaload 1 := by decide +kernel
theorem d41_31 : dK kC38 31 .dup 1 := by decide +kernel
theorem d41_32 : dK kC38 32 (.astore_n 3) 1 := by decide +kernel
theorem d41_33 : dK kC38 33 (.ifnull 115) 3 := by decide +kernel
theorem d41_36 : dK kC38 36 (.aload_n 3) 1 := by decide +kernel
theorem d41_37 : dK kC38 37 (.getfield 168) 3 := by decide +kernel
theorem d41_40 : dK kC38 40 (.iload 6) 2 := by decide +kernel
theorem d41_42 : dK kC38 42 (.if_icmp .ne 29) 3 := by decide +kernel
theorem d41_45 : dK kC38 45 (.aload_n 3) 1 := by decide +kernel
theorem d41_46 : dK kC38 46 (.getfield 170) 3 := by decide +kernel
theorem d41_49 : dK kC38 49 .dup 1 := by decide +kernel
theorem d41_50 : dK kC38 50 (.astore 7) 2 := by decide +kernel
theorem d41_52 : dK kC38 52 (.aload_n 1) 1 := by decide +kernel
theorem d41_53 : dK kC38 53 (.if_acmp .eq 16) 3 := by decide +kernel
theorem d41_56 : dK kC38 56 (.aload_n 1) 1 := by decide +kernel
theorem d41_57 : dK kC38 57 (.ifnull 14) 3 := by decide +kernel
theorem d41_60 : dK kC38 60 (.aload_n 1) 1 := by decide +kernel
theorem d41_61 : dK kC38 61 (.aload 7) 2 := by decide +kernel
theorem d41_63 : dK kC38 63 (.invokevirtual 173) 3 := by decide +kernel
theorem pd_24 : parseMethodDescriptor "(Ljava/lang/Object;)Z" = some ⟨[(.object "java/lang/Object")], some .boolean⟩ := by decide +kernel
theorem d41_66 : dK kC38 66 (.ifCond .eq 5) 3 := by decide +kernel
theorem d41_69 : dK kC38 69 (.aload_n 3) 1 := by decide +kernel
theorem d41_70 : dK kC38 70 .areturn 1 := by decide +kernel
theorem ef_rmGnd1 (m : MethodId) (hm : Addr) (a1 : Addr) : entryFrame m #[(.ref hm), (.ref a1)] 8 = mkF m 0 #[vr hm, vr a1, .unset, .unset, .unset, .unset, .unset, .unset] [] := by first | (simp [entryFrame, mkF, argsToLocals, Value.category]; done) | rfl
def Q_rmGnd1 (Z : State) (hm : Addr) (tab : Addr) (kt : ClassId) (nd : Addr) (tv : Value) (ec : Int32) (ks : Addr) (vk : Addr) (kvk : ClassId) (a1 : Addr) (gz : Int32) (va : Addr) (kva : ClassId) (qc : Int32) (hv : Int32) (zv : Int32) (h0 : Heap) (n0 : Nat) (v : Option Value) (h : Heap) (L : List Loc) : Prop := ∃ hv2 : Int32, ∃ zv2 : Int32, v = some (.ref nd) ∧ Fr n0 L ∧ Keep h0 h [a1] ∧ fE1 Z h a1 ∧ fF1 Z h a1 (.ref va) ∧ fF2 Z h a1 (.int (0 : Int32)) ∧ fF3 Z h a1 (.int hv2) ∧ fF4 Z h a1 (.int zv2) ∧ own_hc hv2 zv2 qc
theorem rmGnd1 (l : Launch) (Z : State) (a0 : Array Value) (hw : own_H Z a0) (ws : List Jvm.Cond) (hm : Addr) (tab : Addr) (kt : ClassId) (nd : Addr) (tv : Value) (ec : Int32) (ks : Addr) (vk : Addr) (kvk : ClassId) (a1 : Addr) (gz : Int32) (va : Addr) (kva : ClassId) (qc : Int32) (hv : Int32) (zv : Int32) (h0 : Heap) (n0 : Nat) (Z0 : n0 ≤ h0.size) (O0 : Old Z n0 h0) (S_COMPACT_STRINGS : Sta Z Z.heap "java/lang/String" "COMPACT_STRINGS" "Z" (.int gz)) (hgz : ¬ gz = (0 : Int32)) (E_a1 : fE1 Z h0 a1) (F_value_a1 : fF1 Z h0 a1 (.ref va)) (F_coder_a1 : fF2 Z h0 a1 (.int (0 : Int32))) (V_va : Arv Z h0 va kva .byte (1 : Int32) [(.int (own_lo qc))] (.int (0 : Int32))) (F_hash_a1 : fF3 Z h0 a1 (.int hv)) (F_hashIsZero_a1 : fF4 Z h0 a1 (.int zv)) (g_a1 : n0 ≤ a1) (hr : ¬ qc < 0 ∧ ¬ (255 : Int32) < qc) (hi : own_hc hv zv qc) (E_hm : fE5 Z h0 hm) (F_table_hm : fF15 Z h0 hm (.ref tab)) (V_tab : Arv Z h0 tab kt (.object "java/util/HashMap$Node") (16 : Int32) (own_tl ec nd) .null) (E_nd : fE6 Z h0 nd) (F_hash_nd : fF20 Z h0 nd (.int ec)) (F_key_nd : fF21 Z h0 nd (.ref ks)) (F_value_nd : fF22 Z h0 nd tv) (F_next_nd : fF23 Z h0 nd .null) (E_ks : fE1 Z h0 ks) (F_value_ks : fF1 Z h0 ks (.ref vk)) (F_coder_ks : fF2 Z h0 ks (.int (0 : Int32))) (V_vk : Arv Z h0 vk kvk .byte (1 : Int32) [(.int (own_lo ec))] (.int (0 : Int32))) (ne_a1_ks : a1 ≠ ks) (htv : tv.isRef = true) (hkq : ec = qc) :
    own_Met l mN42 kC38 8 (some (.object "java/util/HashMap$Node")) ws (own_rm 3 0 0 40) Z h0 #[(.ref hm), (.ref a1)] (Q_rmGnd1 Z hm tab kt nd tv ec ks vk kvk a1 gz va kva qc hv zv h0 n0) := by
  refine own_met (plainFor_of_name pn_10) (fun m => ef_rmGnd1 m hm a1) ?_
  intro p e s m below meth c s₁ Φ hΦ X0 hx hby hml hown hnm hret hlk hZ e0
  have B : own_B p c _ _ := ⟨hx, hby, hml⟩
  have K0 : Keep h0 h0 [a1] := Keep.refl _ _
  have nz_a1_tab : a1 ≠ tab := Exa.neArv E_a1 V_tab (wd_2 hw)
  have nz_nd_a1 : nd ≠ a1 := Exa.ne E_nd E_a1 (by decide)
  have nz_a1_va : a1 ≠ va := Exa.neArv E_a1 V_va (wd_2 hw)
  have nz_a1_vk : a1 ≠ vk := Exa.neArv E_a1 V_vk (wd_2 hw)
  show own_G p e below Φ s₁ (mkF m 0 #[vr hm, vr a1, .unset, .unset, .unset, .unset, .unset, .unset] [])
  refine o_aloadN X0 B d41_0 rfl rfl ?_
  refine o_gf X0 B hZ hown (wd_182 hw) Via.refl e0 F_table_hm d41_1 ?_
  intro T1 X1 e1
  refine o_dup X1 B d41_4 rfl ?_
  refine o_astoreN (L' := #[vr hm, vr a1, vr tab, .unset, .unset, .unset, .unset, .unset]) X1 B d41_5 rfl rfl ?_
  refine o_ifnullN X1 B d41_6 ?_
  refine o_aloadN X1 B d41_9 rfl rfl ?_
  refine o_len X1 B hZ e1 V_tab d41_10 ?_
  refine o_dup X1 B d41_11 rfl ?_
  refine o_istore (L' := #[vr hm, vr a1, vr tab, .unset, .unset, vi 16, .unset, .unset]) X1 B d41_12 rfl ?_
  refine o_ifN X1 B d41_14 (XT.i0_le_f (by decide : ((0 : Int32) < (16 : Int32)))) ?_
  refine o_aloadN X1 B d41_17 rfl rfl ?_
  refine o_iload X1 B d41_18 rfl ?_
  refine o_iconst X1 B d41_20 ?_
  refine o_isub X1 B d41_21 ?_
  refine o_aloadN X1 B d41_22 rfl rfl ?_
  refine o_cS (argsL := [(.ref a1)]) (rest := [(.int (15 : Int32)), (.ref tab)]) X1 B hZ hown (wd_156 hw) (wd_157 hw) (wd_158 hw) (wd_137 hw) (by decide) 2 (rmHsh l Z a0 hw [] a1 gz va kva qc hv zv h0 n0 Z0 O0 S_COMPACT_STRINGS hgz E_a1 F_value_a1 F_coder_a1 V_va F_hash_a1 F_hashIsZero_a1 g_a1 hr hi) (by decide) (by decide) (lenOf pd_19 rfl) rfl rfl rfl d41_23 e1 (by decide) (by decide) rfl ?_
  rintro _ T2 _ X2 ⟨hv2_2, zv2_2, rfl, N2q, Kq2, p2_0, p2_1, p2_2, p2_3, p2_4, p2_5⟩
  have K2 := K0.trans Kq2 (allS (Or.inl (List.mem_of_getElem? (i := 0) rfl)) all0)
  refine o_dup X2 B d41_26 rfl ?_
  refine o_istore (L' := #[vr hm, vr a1, vr tab, .unset, .unset, vi 16, vi qc, .unset]) X2 B d41_27 rfl ?_
  refine o_iand X2 B d41_29 ?_
  refine o_aal (v := (.ref nd)) X2 B hZ rfl (V_tab.keep K2 (ninS (Ne.symm nz_a1_tab) nin0)) rfl (own_15 _) (own_tl_eq nd hkq) d41_30 ?_
  show own_G p e below Φ T2 (mkF m 31 #[vr hm, vr a1, vr tab, .unset, .unset, vi 16, vi qc, .unset] [(.ref nd)])
  refine o_dup X2 B d41_31 rfl ?_
  refine o_astoreN (L' := #[vr hm, vr a1, vr tab, vr nd, .unset, vi 16, vi qc, .unset]) X2 B d41_32 rfl rfl ?_
  refine o_ifnullN X2 B d41_33 ?_
  refine o_aloadN X2 B d41_36 rfl rfl ?_
  refine o_gf X2 B hZ hown (wd_296 hw) Via.refl rfl (F_hash_nd.keep K2 (ninS nz_nd_a1 nin0)) d41_37 ?_
  intro T4 X4 e4
  refine o_iload X4 B d41_40 rfl ?_
  refine o_icN X4 B d41_42 (XT.ii_ne_f hkq) ?_
  refine o_aloadN X4 B d41_45 rfl rfl ?_
  refine o_gf X4 B hZ hown (wd_297 hw) Via.refl e4 (F_key_nd.keep K2 (ninS nz_nd_a1 nin0)) d41_46 ?_
  intro T5 X5 e5
  refine o_dup X5 B d41_49 rfl ?_
  refine o_astore (L' := #[vr hm, vr a1, vr tab, vr nd, .unset, vi 16, vi qc, vr ks]) X5 B d41_50 rfl rfl ?_
  refine o_aloadN X5 B d41_52 rfl rfl ?_
  refine own_go (fun _ => Jvm.RoadKit.acmp (g := (mkF m 53 #[vr hm, vr a1, vr tab, vr nd, .unset, vi 16, vi qc, vr ks] [(.ref a1), (.ref ks)])) X5 hx rfl rfl rfl (pc0 := 53) (pc' := 56) (same := false) rfl (hb hby d41_53) rfl (decide_eq_false fun q => (Ne.symm ne_a1_ks) (Value.ref.inj q)) (by decide) (by decide)) ?_
  refine o_aloadN X5 B d41_56 rfl rfl ?_
  refine o_ifnullN X5 B d41_57 ?_
  refine o_aloadN X5 B d41_60 rfl rfl ?_
  refine o_aload X5 B d41_61 rfl rfl ?_
  show own_G p e below Φ T5 (mkF m 63 #[vr hm, vr a1, vr tab, vr nd, .unset, vi 16, vi qc, vr ks] [(.ref ks), (.ref a1)])
  refine o_cW (argsL := [(.ref ks)]) (rest := []) X5 B hZ hown (wd_298 hw) (wd_299 hw) (wd_236 hw) rfl (wd_301 hw) (wd_302 hw) (wd_303 hw) (wd_3 hw) (by decide) p2_0 0 (rmSeq_one l Z a0 hw [] a1 gz va kva ks vk kvk qc ec T2.heap n0 (Nat.le_trans Z0 Kq2.1) (O0.keep Kq2 (allS g_a1 all0)) S_COMPACT_STRINGS hgz p2_0 p2_2 p2_1 (E_ks.keep K2) (F_coder_ks.keep K2 (ninS (Ne.symm ne_a1_ks) nin0)) (F_value_ks.keep K2 (ninS (Ne.symm ne_a1_ks) nin0)) (V_va.keep K2 (ninS (Ne.symm nz_a1_va) nin0)) (V_vk.keep K2 (ninS (Ne.symm nz_a1_vk) nin0)) ne_a1_ks (congrArg own_lo hkq.symm)) (by decide) (by decide) (lenOf pd_24 rfl) rfl rfl rfl d41_63 e5 (by decide) (by decide) rfl ?_
  rintro _ T6 _ X6 ⟨rfl, N6q, hs6⟩
  refine o_ifN X6 B d41_66 (XT.i0_eq_f (by decide : ¬ ((1 : Int32) = (0 : Int32)))) ?_
  refine o_aloadN X6 B d41_69 rfl rfl ?_
  exact o_rA X6 B hΦ hlk hret rfl rfl d41_70 hs6 (by decide) (by decide) ⟨hv2_2, zv2_2, rfl, (Fr.app (Fr.app (Fr.nil n0) N2q) N6q), K2, p2_0, p2_1, p2_2, p2_3, p2_4, p2_5⟩
theorem d41_71 : dK kC38 71 (.aload_n 3) 1 := by decide +kernel
theorem d41_72 : dK kC38 72 (.getfield 177) 3 := by decide +kernel
theorem d41_75 : dK kC38 75 .dup 1 := by decide +kernel
theorem d41_76 : dK kC38 76 (.astore 4) 2 := by decide +kernel
theorem d41_78 : dK kC38 78 (.ifnull 70) 3 := by decide +kernel
theorem d41_148 : dK kC38 148 .aconst_null 1 := by decide +kernel
theorem d41_149 : dK kC38 149 .areturn 1 := by decide +kernel
theorem ef_rmGnd0 (m : MethodId) (hm : Addr) (a1 : Addr) : entryFrame m #[(.ref hm), (.ref a1)] 8 = mkF m 0 #[vr hm, vr a1, .unset, .unset, .unset, .unset, .unset, .unset] [] := by first | (simp [entryFrame, mkF, argsToLocals, Value.category]; done) | rfl
def Q_rmGnd0 (Z : State) (hm : Addr) (tab : Addr) (kt : ClassId) (nd : Addr) (tv : Value) (ec : Int32) (ks : Addr) (vk : Addr) (kvk : ClassId) (a1 : Addr) (gz : Int32) (va : Addr) (kva : ClassId) (qc : Int32) (hv : Int32) (zv : Int32) (h0 : Heap) (n0 : Nat) (v : Option Value) (h : Heap) (L : List Loc) : Prop := ∃ hv2 : Int32, ∃ zv2 : Int32, v = some .null ∧ Fr n0 L ∧ Keep h0 h [a1] ∧ fE1 Z h a1 ∧ fF1 Z h a1 (.ref va) ∧ fF2 Z h a1 (.int (0 : Int32)) ∧ fF3 Z h a1 (.int hv2) ∧ fF4 Z h a1 (.int zv2) ∧ own_hc hv2 zv2 qc
theorem rmGnd0 (l : Launch) (Z : State) (a0 : Array Value) (hw : own_H Z a0) (ws : List Jvm.Cond) (hm : Addr) (tab : Addr) (kt : ClassId) (nd : Addr) (tv : Value) (ec : Int32) (ks : Addr) (vk : Addr) (kvk : ClassId) (a1 : Addr) (gz : Int32) (va : Addr) (kva : ClassId) (qc : Int32) (hv : Int32) (zv : Int32) (h0 : Heap) (n0 : Nat) (Z0 : n0 ≤ h0.size) (O0 : Old Z n0 h0) (S_COMPACT_STRINGS : Sta Z Z.heap "java/lang/String" "COMPACT_STRINGS" "Z" (.int gz)) (hgz : ¬ gz = (0 : Int32)) (E_a1 : fE1 Z h0 a1) (F_value_a1 : fF1 Z h0 a1 (.ref va)) (F_coder_a1 : fF2 Z h0 a1 (.int (0 : Int32))) (V_va : Arv Z h0 va kva .byte (1 : Int32) [(.int (own_lo qc))] (.int (0 : Int32))) (F_hash_a1 : fF3 Z h0 a1 (.int hv)) (F_hashIsZero_a1 : fF4 Z h0 a1 (.int zv)) (g_a1 : n0 ≤ a1) (hr : ¬ qc < 0 ∧ ¬ (255 : Int32) < qc) (hi : own_hc hv zv qc) (E_hm : fE5 Z h0 hm) (F_table_hm : fF15 Z h0 hm (.ref tab)) (V_tab : Arv Z h0 tab kt (.object "java/util/HashMap$Node") (16 : Int32) (own_tl ec nd) .null) (E_nd : fE6 Z h0 nd) (F_hash_nd : fF20 Z h0 nd (.int ec)) (F_key_nd : fF21 Z h0 nd (.ref ks)) (F_value_nd : fF22 Z h0 nd tv) (F_next_nd : fF23 Z h0 nd .null) (E_ks : fE1 Z h0 ks) (F_value_ks : fF1 Z h0 ks (.ref vk)) (F_coder_ks : fF2 Z h0 ks (.int (0 : Int32))) (V_vk : Arv Z h0 vk kvk .byte (1 : Int32) [(.int (own_lo ec))] (.int (0 : Int32))) (ne_a1_ks : a1 ≠ ks) (htv : tv.isRef = true) (hkq : ¬ ec = qc) :
    own_Met l mN42 kC38 8 (some (.object "java/util/HashMap$Node")) ws (own_rm 3 0 0 40) Z h0 #[(.ref hm), (.ref a1)] (Q_rmGnd0 Z hm tab kt nd tv ec ks vk kvk a1 gz va kva qc hv zv h0 n0) := by
  refine own_met (plainFor_of_name pn_10) (fun m => ef_rmGnd0 m hm a1) ?_
  intro p e s m below meth c s₁ Φ hΦ X0 hx hby hml hown hnm hret hlk hZ e0
  have B : own_B p c _ _ := ⟨hx, hby, hml⟩
  have K0 : Keep h0 h0 [a1] := Keep.refl _ _
  have nz_a1_tab : a1 ≠ tab := Exa.neArv E_a1 V_tab (wd_2 hw)
  have nz_nd_a1 : nd ≠ a1 := Exa.ne E_nd E_a1 (by decide)
  show own_G p e below Φ s₁ (mkF m 0 #[vr hm, vr a1, .unset, .unset, .unset, .unset, .unset, .unset] [])
  refine o_aloadN X0 B d41_0 rfl rfl ?_
  refine o_gf X0 B hZ hown (wd_182 hw) Via.refl e0 F_table_hm d41_1 ?_
  intro T1 X1 e1
  refine o_dup X1 B d41_4 rfl ?_
  refine o_astoreN (L' := #[vr hm, vr a1, vr tab, .unset, .unset, .unset, .unset, .unset]) X1 B d41_5 rfl rfl ?_
  refine o_ifnullN X1 B d41_6 ?_
  refine o_aloadN X1 B d41_9 rfl rfl ?_
  refine o_len X1 B hZ e1 V_tab d41_10 ?_
  refine o_dup X1 B d41_11 rfl ?_
  refine o_istore (L' := #[vr hm, vr a1, vr tab, .unset, .unset, vi 16, .unset, .unset]) X1 B d41_12 rfl ?_
  refine o_ifN X1 B d41_14 (XT.i0_le_f (by decide : ((0 : Int32) < (16 : Int32)))) ?_
  refine o_aloadN X1 B d41_17 rfl rfl ?_
  refine o_iload X1 B d41_18 rfl ?_
  refine o_iconst X1 B d41_20 ?_
  refine o_isub X1 B d41_21 ?_
  refine o_aloadN X1 B d41_22 rfl rfl ?_
  refine o_cS (argsL := [(.ref a1)]) (rest := [(.int (15 : Int32)), (.ref tab)]) X1 B hZ hown (wd_156 hw) (wd_157 hw) (wd_158 hw) (wd_137 hw) (by decide) 2 (rmHsh l Z a0 hw [] a1 gz va kva qc hv zv h0 n0 Z0 O0 S_COMPACT_STRINGS hgz E_a1 F_value_a1 F_coder_a1 V_va F_hash_a1 F_hashIsZero_a1 g_a1 hr hi) (by decide) (by decide) (lenOf pd_19 rfl) rfl rfl rfl d41_23 e1 (by decide) (by decide) rfl ?_
  rintro _ T2 _ X2 ⟨hv2_2, zv2_2, rfl, N2q, Kq2, p2_0, p2_1, p2_2, p2_3, p2_4, p2_5⟩
  have N2 := Fr.app (Fr.nil n0) N2q
  have K2 := K0.trans Kq2 (allS (Or.inl (List.mem_of_getElem? (i := 0) rfl)) all0)
  refine o_dup X2 B d41_26 rfl ?_
  refine o_istore (L' := #[vr hm, vr a1, vr tab, .unset, .unset, vi 16, vi qc, .unset]) X2 B d41_27 rfl ?_
  refine o_iand X2 B d41_29 ?_
  by_cases hq15 : ((15 : Int32) &&& qc) = ((15 : Int32) &&& ec)
  · have f_1 := V_tab.keep K2 (ninS (Ne.symm nz_a1_tab) nin0)
    refine o_aal (v := (.ref nd)) X2 B hZ rfl f_1 rfl (own_15 _) (own_tl_hit nd hq15) d41_30 ?_
    show own_G p e below Φ T2 (mkF m 31 #[vr hm, vr a1, vr tab, .unset, .unset, vi 16, vi qc, .unset] [(.ref nd)])
    refine o_dup X2 B d41_31 rfl ?_
    refine o_astoreN (L' := #[vr hm, vr a1, vr tab, vr nd, .unset, vi 16, vi qc, .unset]) X2 B d41_32 rfl rfl ?_
    refine o_ifnullN X2 B d41_33 ?_
    refine o_aloadN X2 B d41_36 rfl rfl ?_
    refine o_gf X2 B hZ hown (wd_296 hw) Via.refl rfl (F_hash_nd.keep K2 (ninS nz_nd_a1 nin0)) d41_37 ?_
    intro T4 X4 e4
    refine o_iload X4 B d41_40 rfl ?_
    refine o_icY X4 B 71 d41_42 (XT.ii_ne_t hkq) rfl ?_
    refine o_aloadN X4 B d41_71 rfl rfl ?_
    refine o_gf X4 B hZ hown (wd_400 hw) Via.refl e4 (F_next_nd.keep K2 (ninS nz_nd_a1 nin0)) d41_72 ?_
    intro T5 X5 e5
    refine o_dup X5 B d41_75 rfl ?_
    refine o_astore (L' := #[vr hm, vr a1, vr tab, vr nd, .val .null, vi 16, vi qc, .unset]) X5 B d41_76 rfl rfl ?_
    refine o_ifnullY X5 B 148 d41_78 rfl ?_
    refine o_anull X5 B d41_148 ?_
    exact o_rA X5 B hΦ hlk hret rfl rfl d41_149 e5 (by decide) (by decide) ⟨hv2_2, zv2_2, rfl, N2, K2, p2_0, p2_1, p2_2, p2_3, p2_4, p2_5⟩
  · have f_4 := V_tab.keep K2 (ninS (Ne.symm nz_a1_tab) nin0)
    refine o_aal (v := .null) X2 B hZ rfl f_4 rfl (own_15 _) (own_tl_miss nd hq15) d41_30 ?_
    show own_G p e below Φ T2 (mkF m 31 #[vr hm, vr a1, vr tab, .unset, .unset, vi 16, vi qc, .unset] [.null])
    refine o_dup X2 B d41_31 rfl ?_
    refine o_astoreN (L' := #[vr hm, vr a1, vr tab, .val .null, .unset, vi 16, vi qc, .unset]) X2 B d41_32 rfl rfl ?_
    refine o_ifnullY X2 B 148 d41_33 rfl ?_
    refine o_anull X2 B d41_148 ?_
    exact o_rA X2 B hΦ hlk hret rfl rfl d41_149 rfl (by decide) (by decide) ⟨hv2_2, zv2_2, rfl, N2, K2, p2_0, p2_1, p2_2, p2_3, p2_4, p2_5⟩
theorem d40_0 : dK kC39 0 (.aload_n 0) 1 := by decide +kernel
theorem d40_1 : dK kC39 1 (.aload_n 1) 1 := by decide +kernel
theorem d40_2 : dK kC39 2 (.invokevirtual 158) 3 := by decide +kernel
theorem pd_25 : parseMethodDescriptor "(Ljava/lang/Object;)Ljava/util/HashMap$Node;" = some ⟨[(.object "java/lang/Object")], some (.object "java/util/HashMap$Node")⟩ := by decide +kernel
theorem d40_5 : dK kC39 5 .dup 1 := by decide +kernel
theorem d40_6 : dK kC39 6 (.astore_n 2) 1 := by decide +kernel
theorem d40_7 : dK kC39 7 (.ifnonnull 7) 3 := by decide +kernel
theorem d40_14 : dK kC39 14 (.aload_n 2) 1 := by decide +kernel
theorem d40_15 : dK kC39 15 (.getfield 162) 3 := by decide +kernel
theorem d40_18 : dK kC39 18 .areturn 1 := by decide +kernel
theorem d40_10 : dK kC39 10 .aconst_null 1 := by decide +kernel
theorem d40_11 : dK kC39 11 (.goto 7) 3 := by decide +kernel
theorem ef_rmHgt (m : MethodId) (hm : Addr) (a1 : Addr) : entryFrame m #[(.ref hm), (.ref a1)] 3 = mkF m 0 #[vr hm, vr a1, .unset] [] := by first | (simp [entryFrame, mkF, argsToLocals, Value.category]; done) | rfl
def Q_rmHgt (Z : State) (hm : Addr) (tab : Addr) (kt : ClassId) (nd : Addr) (tv : Value) (ec : Int32) (ks : Addr) (vk : Addr) (kvk : ClassId) (a1 : Addr) (gz : Int32) (va : Addr) (kva : ClassId) (qc : Int32) (hv : Int32) (zv : Int32) (rv : Value) (h0 : Heap) (n0 : Nat) (v : Option Value) (h : Heap) (L : List Loc) : Prop := ∃ hv2 : Int32, ∃ zv2 : Int32, v = some rv ∧ Fr n0 L ∧ Keep h0 h [a1] ∧ fE1 Z h a1 ∧ fF1 Z h a1 (.ref va) ∧ fF2 Z h a1 (.int (0 : Int32)) ∧ fF3 Z h a1 (.int hv2) ∧ fF4 Z h a1 (.int zv2) ∧ own_hc hv2 zv2 qc
theorem rmHgt (l : Launch) (Z : State) (a0 : Array Value) (hw : own_H Z a0) (ws : List Jvm.Cond) (hm : Addr) (tab : Addr) (kt : ClassId) (nd : Addr) (tv : Value) (ec : Int32) (ks : Addr) (vk : Addr) (kvk : ClassId) (a1 : Addr) (gz : Int32) (va : Addr) (kva : ClassId) (qc : Int32) (hv : Int32) (zv : Int32) (rv : Value) (h0 : Heap) (n0 : Nat) (Z0 : n0 ≤ h0.size) (O0 : Old Z n0 h0) (S_COMPACT_STRINGS : Sta Z Z.heap "java/lang/String" "COMPACT_STRINGS" "Z" (.int gz)) (hgz : ¬ gz = (0 : Int32)) (E_a1 : fE1 Z h0 a1) (F_value_a1 : fF1 Z h0 a1 (.ref va)) (F_coder_a1 : fF2 Z h0 a1 (.int (0 : Int32))) (V_va : Arv Z h0 va kva .byte (1 : Int32) [(.int (own_lo qc))] (.int (0 : Int32))) (F_hash_a1 : fF3 Z h0 a1 (.int hv)) (F_hashIsZero_a1 : fF4 Z h0 a1 (.int zv)) (g_a1 : n0 ≤ a1) (hr : ¬ qc < 0 ∧ ¬ (255 : Int32) < qc) (hi : own_hc hv zv qc) (E_hm : fE5 Z h0 hm) (F_table_hm : fF15 Z h0 hm (.ref tab)) (V_tab : Arv Z h0 tab kt (.object "java/util/HashMap$Node") (16 : Int32) (own_tl ec nd) .null) (E_nd : fE6 Z h0 nd) (F_hash_nd : fF20 Z h0 nd (.int ec)) (F_key_nd : fF21 Z h0 nd (.ref ks)) (F_value_nd : fF22 Z h0 nd tv) (F_next_nd : fF23 Z h0 nd .null) (E_ks : fE1 Z h0 ks) (F_value_ks : fF1 Z h0 ks (.ref vk)) (F_coder_ks : fF2 Z h0 ks (.int (0 : Int32))) (V_vk : Arv Z h0 vk kvk .byte (1 : Int32) [(.int (own_lo ec))] (.int (0 : Int32))) (ne_a1_ks : a1 ≠ ks) (htv : tv.isRef = true) (hrv : own_gv ec qc tv = rv) (hrr : rv.isRef = true) :
    own_Met l mN43 kC39 3 (some (.object "java/lang/Object")) ws (own_rm 4 0 0 59) Z h0 #[(.ref hm), (.ref a1)] (Q_rmHgt Z hm tab kt nd tv ec ks vk kvk a1 gz va kva qc hv zv rv h0 n0) := by
  refine own_met (plainFor_of_name pn_10) (fun m => ef_rmHgt m hm a1) ?_
  intro p e s m below meth c s₁ Φ hΦ X0 hx hby hml hown hnm hret hlk hZ e0
  have N0 := Fr.nil n0
  have B : own_B p c _ _ := ⟨hx, hby, hml⟩
  have K0 : Keep h0 h0 [a1] := Keep.refl _ _
  have nz_nd_a1 : nd ≠ a1 := Exa.ne E_nd E_a1 (by decide)
  show own_G p e below Φ s₁ (mkF m 0 #[vr hm, vr a1, .unset] [])
  refine o_aloadN X0 B d40_0 rfl rfl ?_
  refine o_aloadN X0 B d40_1 rfl rfl ?_
  by_cases hkq : ec = qc
  · refine o_cV (argsL := [(.ref a1)]) (rest := []) X0 B hZ hown (wd_280 hw) (wd_281 hw) (wd_283 hw) (wd_282 hw) (wd_284 hw) (wd_137 hw) (by decide) E_hm 0 (rmGnd1 l Z a0 hw [] hm tab kt nd tv ec ks vk kvk a1 gz va kva qc hv zv h0 n0 Z0 O0 S_COMPACT_STRINGS hgz E_a1 F_value_a1 F_coder_a1 V_va F_hash_a1 F_hashIsZero_a1 g_a1 hr hi E_hm F_table_hm V_tab E_nd F_hash_nd F_key_nd F_value_nd F_next_nd E_ks F_value_ks F_coder_ks V_vk ne_a1_ks htv hkq) (by decide) (by decide) (lenOf pd_25 rfl) rfl rfl rfl d40_2 e0 (by decide) (by decide) rfl ?_
    rintro _ T1 _ X1 ⟨hv2_1, zv2_1, rfl, N1q, Kq1, p1_0, p1_1, p1_2, p1_3, p1_4, p1_5⟩
    have K1 := K0.trans Kq1 (allS (Or.inl (List.mem_of_getElem? (i := 0) rfl)) all0)
    refine o_dup X1 B d40_5 rfl ?_
    refine o_astoreN (L' := #[vr hm, vr a1, vr nd]) X1 B d40_6 rfl rfl ?_
    refine o_ifnonnullY X1 B 14 d40_7 rfl ?_
    refine o_aloadN X1 B d40_14 rfl rfl ?_
    refine o_gf X1 B hZ hown (wd_307 hw) Via.refl rfl (F_value_nd.keep K1 (ninS nz_nd_a1 nin0)) d40_15 ?_
    intro T3 X3 e3
    exact o_rA X3 B hΦ hlk hret rfl htv d40_18 e3 (by decide) (by decide) ⟨hv2_1, zv2_1, (congrArg some ((if_pos hkq).symm.trans hrv)), (Fr.app N0 N1q), K1, p1_0, p1_1, p1_2, p1_3, p1_4, p1_5⟩
  · refine o_cV (argsL := [(.ref a1)]) (rest := []) X0 B hZ hown (wd_280 hw) (wd_281 hw) (wd_283 hw) (wd_282 hw) (wd_284 hw) (wd_137 hw) (by decide) E_hm 0 (rmGnd0 l Z a0 hw [] hm tab kt nd tv ec ks vk kvk a1 gz va kva qc hv zv h0 n0 Z0 O0 S_COMPACT_STRINGS hgz E_a1 F_value_a1 F_coder_a1 V_va F_hash_a1 F_hashIsZero_a1 g_a1 hr hi E_hm F_table_hm V_tab E_nd F_hash_nd F_key_nd F_value_nd F_next_nd E_ks F_value_ks F_coder_ks V_vk ne_a1_ks htv hkq) (by decide) (by decide) (lenOf pd_25 rfl) rfl rfl rfl d40_2 e0 (by decide) (by decide) rfl ?_
    rintro _ T4 _ X4 ⟨hv2_4, zv2_4, rfl, N4q, Kq4, p4_0, p4_1, p4_2, p4_3, p4_4, p4_5⟩
    have K4 := K0.trans Kq4 (allS (Or.inl (List.mem_of_getElem? (i := 0) rfl)) all0)
    refine o_dup X4 B d40_5 rfl ?_
    refine o_astoreN (L' := #[vr hm, vr a1, .val .null]) X4 B d40_6 rfl rfl ?_
    refine o_ifnonnullN X4 B d40_7 ?_
    refine o_anull X4 B d40_10 ?_
    refine o_goto X4 B 18 d40_11 rfl ?_
    exact o_rA X4 B hΦ hlk hret rfl rfl d40_18 rfl (by decide) (by decide) ⟨hv2_4, zv2_4, (congrArg some ((if_neg hkq).symm.trans hrv)), (Fr.app N0 N4q), K4, p4_0, p4_1, p4_2, p4_3, p4_4, p4_5⟩
theorem d39_0 : dK kC40 0 (.aload_n 0) 1 := by decide +kernel
theorem d39_1 : dK kC40 1 (.getfield 10) 3 := by decide +kernel
theorem d39_4 : dK kC40 4 (.aload_n 1) 1 := by decide +kernel
theorem d39_5 : dK kC40 5 (.invokeinterface 33 2) 5 := by decide +kernel
theorem pd_26 : parseMethodDescriptor "(Ljava/lang/Object;)Ljava/lang/Object;" = some ⟨[(.object "java/lang/Object")], some (.object "java/lang/Object")⟩ := by decide +kernel
theorem d39_10 : dK kC40 10 .areturn 1 := by decide +kernel
theorem ef_rmUgt (m : MethodId) (um : Addr) (a1 : Addr) : entryFrame m #[(.ref um), (.ref a1)] 2 = mkF m 0 #[vr um, vr a1] [] := by first | (simp [entryFrame, mkF, argsToLocals, Value.category]; done) | rfl
def Q_rmUgt (Z : State) (um : Addr) (hm : Addr) (tab : Addr) (kt : ClassId) (nd : Addr) (tv : Value) (ec : Int32) (ks : Addr) (vk : Addr) (kvk : ClassId) (a1 : Addr) (gz : Int32) (va : Addr) (kva : ClassId) (qc : Int32) (hv : Int32) (zv : Int32) (rv : Value) (h0 : Heap) (n0 : Nat) (v : Option Value) (h : Heap) (L : List Loc) : Prop := ∃ hv2 : Int32, ∃ zv2 : Int32, v = some rv ∧ Fr n0 L ∧ Keep h0 h [a1] ∧ fE1 Z h a1 ∧ fF1 Z h a1 (.ref va) ∧ fF2 Z h a1 (.int (0 : Int32)) ∧ fF3 Z h a1 (.int hv2) ∧ fF4 Z h a1 (.int zv2) ∧ own_hc hv2 zv2 qc
theorem rmUgt (l : Launch) (Z : State) (a0 : Array Value) (hw : own_H Z a0) (ws : List Jvm.Cond) (um : Addr) (hm : Addr) (tab : Addr) (kt : ClassId) (nd : Addr) (tv : Value) (ec : Int32) (ks : Addr) (vk : Addr) (kvk : ClassId) (a1 : Addr) (gz : Int32) (va : Addr) (kva : ClassId) (qc : Int32) (hv : Int32) (zv : Int32) (rv : Value) (h0 : Heap) (n0 : Nat) (Z0 : n0 ≤ h0.size) (E_um : fE0 Z h0 um) (F_m_um : fF0 Z h0 um (.ref hm)) (O0 : Old Z n0 h0) (S_COMPACT_STRINGS : Sta Z Z.heap "java/lang/String" "COMPACT_STRINGS" "Z" (.int gz)) (hgz : ¬ gz = (0 : Int32)) (E_a1 : fE1 Z h0 a1) (F_value_a1 : fF1 Z h0 a1 (.ref va)) (F_coder_a1 : fF2 Z h0 a1 (.int (0 : Int32))) (V_va : Arv Z h0 va kva .byte (1 : Int32) [(.int (own_lo qc))] (.int (0 : Int32))) (F_hash_a1 : fF3 Z h0 a1 (.int hv)) (F_hashIsZero_a1 : fF4 Z h0 a1 (.int zv)) (g_a1 : n0 ≤ a1) (hr : ¬ qc < 0 ∧ ¬ (255 : Int32) < qc) (hi : own_hc hv zv qc) (E_hm : fE5 Z h0 hm) (F_table_hm : fF15 Z h0 hm (.ref tab)) (V_tab : Arv Z h0 tab kt (.object "java/util/HashMap$Node") (16 : Int32) (own_tl ec nd) .null) (E_nd : fE6 Z h0 nd) (F_hash_nd : fF20 Z h0 nd (.int ec)) (F_key_nd : fF21 Z h0 nd (.ref ks)) (F_value_nd : fF22 Z h0 nd tv) (F_next_nd : fF23 Z h0 nd .null) (E_ks : fE1 Z h0 ks) (F_value_ks : fF1 Z h0 ks (.ref vk)) (F_coder_ks : fF2 Z h0 ks (.int (0 : Int32))) (V_vk : Arv Z h0 vk kvk .byte (1 : Int32) [(.int (own_lo ec))] (.int (0 : Int32))) (ne_a1_ks : a1 ≠ ks) (htv : tv.isRef = true) (hrv : own_gv ec qc tv = rv) (hrr : rv.isRef = true) :
    own_Met l mN45 kC40 2 (some (.object "java/lang/Object")) ws (own_rm 5 0 0 73) Z h0 #[(.ref um), (.ref a1)] (Q_rmUgt Z um hm tab kt nd tv ec ks vk kvk a1 gz va kva qc hv zv rv h0 n0) := by
  refine own_met (plainFor_of_name pn_12) (fun m => ef_rmUgt m um a1) ?_
  intro p e s m below meth c s₁ Φ hΦ X0 hx hby hml hown hnm hret hlk hZ e0
  have B : own_B p c _ _ := ⟨hx, hby, hml⟩
  have K0 : Keep h0 h0 [a1] := Keep.refl _ _
  show own_G p e below Φ s₁ (mkF m 0 #[vr um, vr a1] [])
  refine o_aloadN X0 B d39_0 rfl rfl ?_
  refine o_gf X0 B hZ hown (wd_251 hw) Via.refl e0 F_m_um d39_1 ?_
  intro T1 X1 e1
  refine o_aloadN X1 B d39_4 rfl rfl ?_
  refine o_cF (argsL := [(.ref a1)]) (rest := []) X1 B hZ hown (wd_274 hw) (wd_266 hw) (wd_267 hw) (wd_275 hw) (wd_276 hw) (wd_277 hw) (wd_278 hw) (wd_240 hw) (wd_279 hw) (wd_137 hw) (by decide) E_hm 0 (rmHgt l Z a0 hw [] hm tab kt nd tv ec ks vk kvk a1 gz va kva qc hv zv rv h0 n0 Z0 O0 S_COMPACT_STRINGS hgz E_a1 F_value_a1 F_coder_a1 V_va F_hash_a1 F_hashIsZero_a1 g_a1 hr hi E_hm F_table_hm V_tab E_nd F_hash_nd F_key_nd F_value_nd F_next_nd E_ks F_value_ks F_coder_ks V_vk ne_a1_ks htv hrv hrr) (by decide) (by decide) (lenOf pd_26 rfl) rfl rfl rfl d39_5 e1 (by decide) (by decide) rfl ?_
  rintro _ T2 _ X2 ⟨hv2_2, zv2_2, rfl, N2q, Kq2, p2_0, p2_1, p2_2, p2_3, p2_4, p2_5⟩
  have K2 := K0.trans Kq2 (allS (Or.inl (List.mem_of_getElem? (i := 0) rfl)) all0)
  exact o_rA X2 B hΦ hlk hret rfl hrr d39_10 rfl (by decide) (by decide) ⟨hv2_2, zv2_2, rfl, (Fr.app (Fr.nil n0) N2q), K2, p2_0, p2_1, p2_2, p2_3, p2_4, p2_5⟩
theorem own_get (l : Launch) (Z : State) (a0 : Array Value) (hw : own_H Z a0) {p : Program} {e : Env} {R : Room} {s : State} {m : MethodId} {args : Array Value} {below : List Frame} {meth : Method} {c : Code} {T : State} {locs : List Loc} {cells slots : Nat} {Φ : State → Prop} {code : ByteArray} {ml pc : Nat} {L : Array Slot} {rest : List Value}
    (X : Stand p l e R s m args below meth c T locs cells slots) (B : own_B p c code ml) (hZ : Z.Warmed39 s.vm) (hown : s.vm.findClass "com/example/brickwork/brickwork/Catalogue" = some m.cls) (am : Addr) (hm : Addr) (tab : Addr) (kt : ClassId) (nd : Addr) (tv : Value) (ec : Int32) (ks : Addr) (vk : Addr) (kvk : ClassId) (a1 : Addr) (gz : Int32) (va : Addr) (kva : ClassId) (qc : Int32) (hv : Int32) (zv : Int32) (rv : Value) (h0 : Heap) (n0 : Nat) (Z0 : n0 ≤ h0.size) (D_am : own_D Z h0 am hm) (O0 : Old Z n0 h0) (S_COMPACT_STRINGS : Sta Z Z.heap "java/lang/String" "COMPACT_STRINGS" "Z" (.int gz)) (hgz : ¬ gz = (0 : Int32)) (E_a1 : fE1 Z h0 a1) (F_value_a1 : fF1 Z h0 a1 (.ref va)) (F_coder_a1 : fF2 Z h0 a1 (.int (0 : Int32))) (V_va : Arv Z h0 va kva .byte (1 : Int32) [(.int (own_lo qc))] (.int (0 : Int32))) (F_hash_a1 : fF3 Z h0 a1 (.int hv)) (F_hashIsZero_a1 : fF4 Z h0 a1 (.int zv)) (g_a1 : n0 ≤ a1) (hr : ¬ qc < 0 ∧ ¬ (255 : Int32) < qc) (hi : own_hc hv zv qc) (E_hm : fE5 Z h0 hm) (F_table_hm : fF15 Z h0 hm (.ref tab)) (V_tab : Arv Z h0 tab kt (.object "java/util/HashMap$Node") (16 : Int32) (own_tl ec nd) .null) (E_nd : fE6 Z h0 nd) (F_hash_nd : fF20 Z h0 nd (.int ec)) (F_key_nd : fF21 Z h0 nd (.ref ks)) (F_value_nd : fF22 Z h0 nd tv) (F_next_nd : fF23 Z h0 nd .null) (E_ks : fE1 Z h0 ks) (F_value_ks : fF1 Z h0 ks (.ref vk)) (F_coder_ks : fF2 Z h0 ks (.int (0 : Int32))) (V_vk : Arv Z h0 vk kvk .byte (1 : Int32) [(.int (own_lo ec))] (.int (0 : Int32))) (ne_a1_ks : a1 ≠ ks) (htv : tv.isRef = true) (hrv : own_gv ec qc tv = rv) (hrr : rv.isRef = true)
    (hf : 5 + 1 ≤ R.frames) (W : Nat) (hW : (rest.map fun v => v.category).sum = W) (hl : W + (2 + 11) + 73 ≤ R.locals) (hd : decode code pc = .ok (.invokeinterface 158 2, 5)) (eT : T.heap = h0) (hL : L.size = ml) (hc : cells + 0 ≤ R.cells) (hn : slots + 0 ≤ R.slots)
    (K : ∀ v T' L', Stand p l e R s m args below meth c T' (locs ++ L') (cells + 0) (slots + 0) → Q_rmHgt Z hm tab kt nd tv ec ks vk kvk a1 gz va kva qc hv zv rv h0 n0 v T'.heap L' → own_G p e below Φ T' (mkF m (pc + 5) L (v.toList ++ rest))) :
    own_G p e below Φ T (mkF m pc L (.ref a1 :: .ref am :: rest)) := by
  rcases D_am with ⟨q1, q2⟩ | q
  · refine o_cF (argsL := [.ref a1]) (rest := rest) X B hZ hown (wd_265 hw) (wd_266 hw) (wd_267 hw) (wd_268 hw) (wd_269 hw) (wd_270 hw) (wd_271 hw) (wd_272 hw) (wd_273 hw) (wd_246 hw) (by decide) q1 W (rmUgt l Z a0 hw [] am hm tab kt nd tv ec ks vk kvk a1 gz va kva qc hv zv rv h0 n0 Z0 q1 q2 O0 S_COMPACT_STRINGS hgz E_a1 F_value_a1 F_coder_a1 V_va F_hash_a1 F_hashIsZero_a1 g_a1 hr hi E_hm F_table_hm V_tab E_nd F_hash_nd F_key_nd F_value_nd F_next_nd E_ks F_value_ks F_coder_ks V_vk ne_a1_ks htv hrv hrr) hf hl (lenOf pd_26 rfl) rfl rfl hW hd eT hc hn hL ?_
    exact K
  · rw [q]
    refine o_cF (argsL := [.ref a1]) (rest := rest) X B hZ hown (wd_265 hw) (wd_266 hw) (wd_267 hw) (wd_275 hw) (wd_276 hw) (wd_277 hw) (wd_278 hw) (wd_240 hw) (wd_279 hw) (wd_137 hw) (by decide) E_hm W (rmHgt l Z a0 hw [] hm tab kt nd tv ec ks vk kvk a1 gz va kva qc hv zv rv h0 n0 Z0 O0 S_COMPACT_STRINGS hgz E_a1 F_value_a1 F_coder_a1 V_va F_hash_a1 F_hashIsZero_a1 g_a1 hr hi E_hm F_table_hm V_tab E_nd F_hash_nd F_key_nd F_value_nd F_next_nd E_ks F_value_ks F_coder_ks V_vk ne_a1_ks htv hrv hrr) (show 4 + 1 ≤ R.frames by omega) (show W + (3 + 11) + 59 ≤ R.locals by omega) (lenOf pd_26 rfl) rfl rfl hW hd eT hc hn hL ?_
    exact K
theorem d47_0 : dK kC41 0 (.aload_n 0) 1 := by decide +kernel
theorem d47_1 : dK kC41 1 (.getfield 7) 3 := by decide +kernel
theorem d47_4 : dK kC41 4 .areturn 1 := by decide +kernel
theorem ef_rmKnw (m : MethodId) (tb : Addr) : entryFrame m #[(.ref tb)] 1 = mkF m 0 #[vr tb] [] := by first | (simp [entryFrame, mkF, argsToLocals, Value.category]; done) | rfl
def Q_rmKnw (Z : State) (tb : Addr) (kn : Addr) (h0 : Heap) (n0 : Nat) (v : Option Value) (h : Heap) (L : List Loc) : Prop := v = some (.ref kn) ∧ Fr n0 L ∧ h = h0
theorem rmKnw (l : Launch) (Z : State) (a0 : Array Value) (hw : own_H Z a0) (ws : List Jvm.Cond) (tb : Addr) (kn : Addr) (h0 : Heap) (n0 : Nat) (Z0 : n0 ≤ h0.size) (E_tb : fE4 Z h0 tb) (F_knowledge_tb : fF11 Z h0 tb (.ref kn)) :
    own_Met l mN46 kC41 1 (some (.object "com/example/brickwork/brickwork/wire/Protocol$Knowledge")) ws (own_rm 0 0 0 0) Z h0 #[(.ref tb)] (Q_rmKnw Z tb kn h0 n0) := by
  refine own_met (plainFor_of_name pn_8) (fun m => ef_rmKnw m tb) ?_
  intro p e s m below meth c s₁ Φ hΦ X0 hx hby hml hown hnm hret hlk hZ e0
  have B : own_B p c _ _ := ⟨hx, hby, hml⟩
  show own_G p e below Φ s₁ (mkF m 0 #[vr tb] [])
  refine o_aloadN X0 B d47_0 rfl rfl ?_
  refine o_gf X0 B hZ hown (wd_127 hw) Via.refl e0 F_knowledge_tb d47_1 ?_
  intro T1 X1 e1
  exact o_rA X1 B hΦ hlk hret rfl rfl d47_4 e1 (by decide) (by decide) ⟨rfl, (Fr.nil n0), rfl⟩
theorem d48_0 : dK kC42 0 (.aload_n 0) 1 := by decide +kernel
theorem d48_1 : dK kC42 1 (.getfield 13) 3 := by decide +kernel
theorem d48_4 : dK kC42 4 .lreturn 1 := by decide +kernel
theorem ef_rmDry (m : MethodId) (tb : Addr) : entryFrame m #[(.ref tb)] 1 = mkF m 0 #[vr tb] [] := by first | (simp [entryFrame, mkF, argsToLocals, Value.category]; done) | rfl
def Q_rmDry (Z : State) (tb : Addr) (dr : Int64) (h0 : Heap) (n0 : Nat) (v : Option Value) (h : Heap) (L : List Loc) : Prop := v = some (.long dr) ∧ Fr n0 L ∧ h = h0
theorem rmDry (l : Launch) (Z : State) (a0 : Array Value) (hw : own_H Z a0) (ws : List Jvm.Cond) (tb : Addr) (dr : Int64) (h0 : Heap) (n0 : Nat) (Z0 : n0 ≤ h0.size) (E_tb : fE4 Z h0 tb) (F_directory_tb : fF12 Z h0 tb (.long dr)) :
    own_Met l mN47 kC42 1 (some .long) ws (own_rm 0 0 0 0) Z h0 #[(.ref tb)] (Q_rmDry Z tb dr h0 n0) := by
  refine own_met (plainFor_of_name pn_8) (fun m => ef_rmDry m tb) ?_
  intro p e s m below meth c s₁ Φ hΦ X0 hx hby hml hown hnm hret hlk hZ e0
  have B : own_B p c _ _ := ⟨hx, hby, hml⟩
  show own_G p e below Φ s₁ (mkF m 0 #[vr tb] [])
  refine o_aloadN X0 B d48_0 rfl rfl ?_
  refine o_gf X0 B hZ hown (wd_129 hw) Via.refl e0 F_directory_tb d48_1 ?_
  intro T1 X1 e1
  exact o_rJ X1 B hΦ hlk hret d48_4 e1 (by decide) (by decide) ⟨rfl, (Fr.nil n0), rfl⟩
theorem d51_0 : dK kC43 0 (.aload_n 0) 1 := by decide +kernel
theorem d51_1 : dK kC43 1 (.getfield 17) 3 := by decide +kernel
theorem d51_4 : dK kC43 4 .areturn 1 := by decide +kernel
theorem ef_rmTbs (m : MethodId) (tb : Addr) : entryFrame m #[(.ref tb)] 1 = mkF m 0 #[vr tb] [] := by first | (simp [entryFrame, mkF, argsToLocals, Value.category]; done) | rfl
def Q_rmTbs (Z : State) (tb : Addr) (al : Addr) (h0 : Heap) (n0 : Nat) (v : Option Value) (h : Heap) (L : List Loc) : Prop := v = some (.ref al) ∧ Fr n0 L ∧ h = h0
theorem rmTbs (l : Launch) (Z : State) (a0 : Array Value) (hw : own_H Z a0) (ws : List Jvm.Cond) (tb : Addr) (al : Addr) (h0 : Heap) (n0 : Nat) (Z0 : n0 ≤ h0.size) (E_tb : fE4 Z h0 tb) (F_tables_tb : fF13 Z h0 tb (.ref al)) :
    own_Met l mN48 kC43 1 (some (.object "java/util/List")) ws (own_rm 0 0 0 0) Z h0 #[(.ref tb)] (Q_rmTbs Z tb al h0 n0) := by
  refine own_met (plainFor_of_name pn_8) (fun m => ef_rmTbs m tb) ?_
  intro p e s m below meth c s₁ Φ hΦ X0 hx hby hml hown hnm hret hlk hZ e0
  have B : own_B p c _ _ := ⟨hx, hby, hml⟩
  show own_G p e below Φ s₁ (mkF m 0 #[vr tb] [])
  refine o_aloadN X0 B d51_0 rfl rfl ?_
  refine o_gf X0 B hZ hown (wd_131 hw) Via.refl e0 F_tables_tb d51_1 ?_
  intro T1 X1 e1
  exact o_rA X1 B hΦ hlk hret rfl rfl d51_4 e1 (by decide) (by decide) ⟨rfl, (Fr.nil n0), rfl⟩
theorem d57_0 : dK kC44 0 (.aload_n 0) 1 := by decide +kernel
theorem d57_1 : dK kC44 1 (.getfield 7) 3 := by decide +kernel
theorem d57_4 : dK kC44 4 .areturn 1 := by decide +kernel
theorem ef_rmNam (m : MethodId) (x1 : Addr) : entryFrame m #[(.ref x1)] 1 = mkF m 0 #[vr x1] [] := by first | (simp [entryFrame, mkF, argsToLocals, Value.category]; done) | rfl
def Q_rmNam (Z : State) (x1 : Addr) (nA : Addr) (h0 : Heap) (n0 : Nat) (v : Option Value) (h : Heap) (L : List Loc) : Prop := v = some (.ref nA) ∧ Fr n0 L ∧ h = h0
theorem rmNam (l : Launch) (Z : State) (a0 : Array Value) (hw : own_H Z a0) (ws : List Jvm.Cond) (x1 : Addr) (nA : Addr) (h0 : Heap) (n0 : Nat) (Z0 : n0 ≤ h0.size) (E_x1 : fE3 Z h0 x1) (F_name_x1 : fF8 Z h0 x1 (.ref nA)) :
    own_Met l mN49 kC44 1 (some (.object "java/lang/String")) ws (own_rm 0 0 0 0) Z h0 #[(.ref x1)] (Q_rmNam Z x1 nA h0 n0) := by
  refine own_met (plainFor_of_name pn_7) (fun m => ef_rmNam m x1) ?_
  intro p e s m below meth c s₁ Φ hΦ X0 hx hby hml hown hnm hret hlk hZ e0
  have B : own_B p c _ _ := ⟨hx, hby, hml⟩
  show own_G p e below Φ s₁ (mkF m 0 #[vr x1] [])
  refine o_aloadN X0 B d57_0 rfl rfl ?_
  refine o_gf X0 B hZ hown (wd_80 hw) Via.refl e0 F_name_x1 d57_1 ?_
  intro T1 X1 e1
  exact o_rA X1 B hΦ hlk hret rfl rfl d57_4 e1 (by decide) (by decide) ⟨rfl, (Fr.nil n0), rfl⟩
theorem d42_0 : dK kC45 0 (.aload_n 0) 1 := by decide +kernel
theorem d42_1 : dK kC45 1 (.ifnull 17) 3 := by decide +kernel
theorem d42_18 : dK kC45 18 (.iconst 0) 1 := by decide +kernel
theorem d42_19 : dK kC45 19 .ireturn 1 := by decide +kernel
theorem ef_rmUtN (m : MethodId)  : entryFrame m #[.null] 1 = mkF m 0 #[.val .null] [] := by first | (simp [entryFrame, mkF, argsToLocals, Value.category]; done) | rfl
def Q_rmUtN (Z : State)  (h0 : Heap) (n0 : Nat) (v : Option Value) (h : Heap) (L : List Loc) : Prop := v = some (.int (0 : Int32)) ∧ Fr n0 L ∧ h = h0
theorem rmUtN (l : Launch) (Z : State) (a0 : Array Value) (hw : own_H Z a0) (ws : List Jvm.Cond)  (h0 : Heap) (n0 : Nat) (Z0 : n0 ≤ h0.size)  :
    own_Met l mN50 kC45 1 (some .boolean) ws (own_rm 0 0 0 0) Z h0 #[.null] (Q_rmUtN Z  h0 n0) := by
  refine own_met (plainFor_of_name pn_14) (fun m => ef_rmUtN m ) ?_
  intro p e s m below meth c s₁ Φ hΦ X0 hx hby hml hown hnm hret hlk hZ e0
  have B : own_B p c _ _ := ⟨hx, hby, hml⟩
  show own_G p e below Φ s₁ (mkF m 0 #[.val .null] [])
  refine o_aloadN X0 B d42_0 rfl rfl ?_
  refine o_ifnullY X0 B 18 d42_1 rfl ?_
  refine o_iconst X0 B d42_18 ?_
  exact o_rZ X0 B hΦ hlk hret (by simp) d42_19 (0 : Int32) rfl e0 (by decide) (by decide) ⟨rfl, (Fr.nil n0), rfl⟩
theorem d42_4 : dK kC45 4 (.aload_n 0) 1 := by decide +kernel
theorem d42_5 : dK kC45 5 (.invokevirtual 214) 3 := by decide +kernel
theorem pd_27 : parseMethodDescriptor "()Lcom/example/brickwork/brickwork/wire/Protocol$Knowledge;" = some ⟨[], some (.object "com/example/brickwork/brickwork/wire/Protocol$Knowledge")⟩ := by decide +kernel
theorem d42_8 : dK kC45 8 (.getstatic 227) 3 := by decide +kernel
theorem d42_11 : dK kC45 11 (.if_acmp .ne 7) 3 := by decide +kernel
theorem ef_rmUtF (m : MethodId) (tb : Addr) : entryFrame m #[(.ref tb)] 1 = mkF m 0 #[vr tb] [] := by first | (simp [entryFrame, mkF, argsToLocals, Value.category]; done) | rfl
def Q_rmUtF (Z : State) (tb : Addr) (kn : Addr) (ku : Addr) (h0 : Heap) (n0 : Nat) (v : Option Value) (h : Heap) (L : List Loc) : Prop := v = some (.int (0 : Int32)) ∧ Fr n0 L ∧ h = h0
theorem rmUtF (l : Launch) (Z : State) (a0 : Array Value) (hw : own_H Z a0) (ws : List Jvm.Cond) (tb : Addr) (kn : Addr) (ku : Addr) (h0 : Heap) (n0 : Nat) (Z0 : n0 ≤ h0.size) (O0 : Old Z n0 h0) (S_UNTOLD : Sta Z Z.heap "com/example/brickwork/brickwork/wire/Protocol$Knowledge" "UNTOLD" "Lcom/example/brickwork/brickwork/wire/Protocol$Knowledge;" (.ref ku)) (E_tb : fE4 Z h0 tb) (F_knowledge_tb : fF11 Z h0 tb (.ref kn)) (ne_kn_ku : kn ≠ ku) :
    own_Met l mN50 kC45 1 (some .boolean) ws (own_rm 1 0 0 12) Z h0 #[(.ref tb)] (Q_rmUtF Z tb kn ku h0 n0) := by
  refine own_met (plainFor_of_name pn_14) (fun m => ef_rmUtF m tb) ?_
  intro p e s m below meth c s₁ Φ hΦ X0 hx hby hml hown hnm hret hlk hZ e0
  have B : own_B p c _ _ := ⟨hx, hby, hml⟩
  show own_G p e below Φ s₁ (mkF m 0 #[vr tb] [])
  refine o_aloadN X0 B d42_0 rfl rfl ?_
  refine o_ifnullN X0 B d42_1 ?_
  refine o_aloadN X0 B d42_4 rfl rfl ?_
  refine o_cV (argsL := []) (rest := []) X0 B hZ hown (wd_312 hw) (wd_313 hw) (wd_315 hw) (wd_314 hw) (wd_316 hw) (wd_122 hw) (by decide) E_tb 0 (rmKnw l Z a0 hw [] tb kn h0 n0 Z0 E_tb F_knowledge_tb) (by decide) (by decide) (lenOf pd_27 rfl) rfl rfl rfl d42_5 e0 (by decide) (by decide) rfl ?_
  rintro _ T1 _ X1 ⟨rfl, N1q, hs1⟩
  refine o_gs X1 B hZ hown (wd_317 hw) Via.refl hs1 (S_UNTOLD.ext O0.2) d42_8 ?_
  intro T2 X2 e2
  refine own_go (fun _ => Jvm.RoadKit.acmp (g := (mkF m 11 #[vr tb] [(.ref ku), (.ref kn)])) X2 hx rfl rfl rfl (pc0 := 11) (pc' := 18) (same := false) rfl (hb hby d42_11) rfl (decide_eq_false fun q => ne_kn_ku (Value.ref.inj q)) (by decide) (by decide)) ?_
  refine o_iconst X2 B d42_18 ?_
  exact o_rZ X2 B hΦ hlk hret (by simp) d42_19 (0 : Int32) rfl e2 (by decide) (by decide) ⟨rfl, (Fr.app (Fr.nil n0) N1q), rfl⟩
theorem d42_14 : dK kC45 14 (.iconst 1) 1 := by decide +kernel
theorem d42_15 : dK kC45 15 (.goto 4) 3 := by decide +kernel
theorem ef_rmUtL (m : MethodId) (tb : Addr) : entryFrame m #[(.ref tb)] 1 = mkF m 0 #[vr tb] [] := by first | (simp [entryFrame, mkF, argsToLocals, Value.category]; done) | rfl
def Q_rmUtL (Z : State) (tb : Addr) (ku : Addr) (h0 : Heap) (n0 : Nat) (v : Option Value) (h : Heap) (L : List Loc) : Prop := v = some (.int (1 : Int32)) ∧ Fr n0 L ∧ h = h0
theorem rmUtL (l : Launch) (Z : State) (a0 : Array Value) (hw : own_H Z a0) (ws : List Jvm.Cond) (tb : Addr) (ku : Addr) (h0 : Heap) (n0 : Nat) (Z0 : n0 ≤ h0.size) (O0 : Old Z n0 h0) (S_UNTOLD : Sta Z Z.heap "com/example/brickwork/brickwork/wire/Protocol$Knowledge" "UNTOLD" "Lcom/example/brickwork/brickwork/wire/Protocol$Knowledge;" (.ref ku)) (E_tb : fE4 Z h0 tb) (F_knowledge_tb : fF11 Z h0 tb (.ref ku)) :
    own_Met l mN50 kC45 1 (some .boolean) ws (own_rm 1 0 0 12) Z h0 #[(.ref tb)] (Q_rmUtL Z tb ku h0 n0) := by
  refine own_met (plainFor_of_name pn_14) (fun m => ef_rmUtL m tb) ?_
  intro p e s m below meth c s₁ Φ hΦ X0 hx hby hml hown hnm hret hlk hZ e0
  have B : own_B p c _ _ := ⟨hx, hby, hml⟩
  show own_G p e below Φ s₁ (mkF m 0 #[vr tb] [])
  refine o_aloadN X0 B d42_0 rfl rfl ?_
  refine o_ifnullN X0 B d42_1 ?_
  refine o_aloadN X0 B d42_4 rfl rfl ?_
  refine o_cV (argsL := []) (rest := []) X0 B hZ hown (wd_312 hw) (wd_313 hw) (wd_315 hw) (wd_314 hw) (wd_316 hw) (wd_122 hw) (by decide) E_tb 0 (rmKnw l Z a0 hw [] tb ku h0 n0 Z0 E_tb F_knowledge_tb) (by decide) (by decide) (lenOf pd_27 rfl) rfl rfl rfl d42_5 e0 (by decide) (by decide) rfl ?_
  rintro _ T1 _ X1 ⟨rfl, N1q, hs1⟩
  refine o_gs X1 B hZ hown (wd_317 hw) Via.refl hs1 (S_UNTOLD.ext O0.2) d42_8 ?_
  intro T2 X2 e2
  refine own_go (fun _ => Jvm.RoadKit.acmp (g := (mkF m 11 #[vr tb] [(.ref ku), (.ref ku)])) X2 hx rfl rfl rfl (pc0 := 11) (pc' := 14) (same := true) rfl (hb hby d42_11) rfl (decide_eq_true rfl) (by decide) (by decide)) ?_
  refine o_iconst X2 B d42_14 ?_
  refine o_goto X2 B 19 d42_15 rfl ?_
  exact o_rZ X2 B hΦ hlk hret (by simp) d42_19 (1 : Int32) rfl e2 (by decide) (by decide) ⟨rfl, (Fr.app (Fr.nil n0) N1q), rfl⟩
theorem d38_0 : dK kC46 0 (.aload_n 0) 1 := by decide +kernel
theorem d38_1 : dK kC46 1 (.getfield 13) 3 := by decide +kernel
theorem d38_4 : dK kC46 4 (.aload_n 1) 1 := by decide +kernel
theorem d38_5 : dK kC46 5 (.invokeinterface 158 2) 5 := by decide +kernel
theorem d38_10 : dK kC46 10 (.checkcast 45) 3 := by decide +kernel
theorem d38_13 : dK kC46 13 (.invokestatic 51) 3 := by decide +kernel
theorem pd_28 : parseMethodDescriptor "(Lcom/example/brickwork/brickwork/wire/Protocol$Tables;)Z" = some ⟨[(.object "com/example/brickwork/brickwork/wire/Protocol$Tables")], some .boolean⟩ := by decide +kernel
theorem d38_16 : dK kC46 16 .ireturn 1 := by decide +kernel
theorem ef_rmUtsN (m : MethodId) (ct : Addr) (a1 : Addr) : entryFrame m #[(.ref ct), (.ref a1)] 2 = mkF m 0 #[vr ct, vr a1] [] := by first | (simp [entryFrame, mkF, argsToLocals, Value.category]; done) | rfl
def Q_rmUtsN (Z : State) (ct : Addr) (am : Addr) (hm : Addr) (tab : Addr) (kt : ClassId) (nd : Addr) (tv : Value) (ec : Int32) (ks : Addr) (vk : Addr) (kvk : ClassId) (a1 : Addr) (gz : Int32) (va : Addr) (kva : ClassId) (qc : Int32) (hv : Int32) (zv : Int32) (h0 : Heap) (n0 : Nat) (v : Option Value) (h : Heap) (L : List Loc) : Prop := ∃ hv2 : Int32, ∃ zv2 : Int32, v = some (.int (0 : Int32)) ∧ Fr n0 L ∧ Keep h0 h [a1] ∧ fE1 Z h a1 ∧ fF1 Z h a1 (.ref va) ∧ fF2 Z h a1 (.int (0 : Int32)) ∧ fF3 Z h a1 (.int hv2) ∧ fF4 Z h a1 (.int zv2) ∧ own_hc hv2 zv2 qc
theorem rmUtsN (l : Launch) (Z : State) (a0 : Array Value) (hw : own_H Z a0) (ws : List Jvm.Cond) (ct : Addr) (am : Addr) (hm : Addr) (tab : Addr) (kt : ClassId) (nd : Addr) (tv : Value) (ec : Int32) (ks : Addr) (vk : Addr) (kvk : ClassId) (a1 : Addr) (gz : Int32) (va : Addr) (kva : ClassId) (qc : Int32) (hv : Int32) (zv : Int32) (h0 : Heap) (n0 : Nat) (Z0 : n0 ≤ h0.size) (E_ct : fE7 Z h0 ct) (F_answers_ct : fF24 Z h0 ct (.ref am)) (D_am : own_D Z h0 am hm) (ne_am_a1 : am ≠ a1) (O0 : Old Z n0 h0) (S_COMPACT_STRINGS : Sta Z Z.heap "java/lang/String" "COMPACT_STRINGS" "Z" (.int gz)) (hgz : ¬ gz = (0 : Int32)) (E_a1 : fE1 Z h0 a1) (F_value_a1 : fF1 Z h0 a1 (.ref va)) (F_coder_a1 : fF2 Z h0 a1 (.int (0 : Int32))) (V_va : Arv Z h0 va kva .byte (1 : Int32) [(.int (own_lo qc))] (.int (0 : Int32))) (F_hash_a1 : fF3 Z h0 a1 (.int hv)) (F_hashIsZero_a1 : fF4 Z h0 a1 (.int zv)) (g_a1 : n0 ≤ a1) (hr : ¬ qc < 0 ∧ ¬ (255 : Int32) < qc) (hi : own_hc hv zv qc) (E_hm : fE5 Z h0 hm) (F_table_hm : fF15 Z h0 hm (.ref tab)) (V_tab : Arv Z h0 tab kt (.object "java/util/HashMap$Node") (16 : Int32) (own_tl ec nd) .null) (E_nd : fE6 Z h0 nd) (F_hash_nd : fF20 Z h0 nd (.int ec)) (F_key_nd : fF21 Z h0 nd (.ref ks)) (F_value_nd : fF22 Z h0 nd tv) (F_next_nd : fF23 Z h0 nd .null) (E_ks : fE1 Z h0 ks) (F_value_ks : fF1 Z h0 ks (.ref vk)) (F_coder_ks : fF2 Z h0 ks (.int (0 : Int32))) (V_vk : Arv Z h0 vk kvk .byte (1 : Int32) [(.int (own_lo ec))] (.int (0 : Int32))) (ne_a1_ks : a1 ≠ ks) (htv : tv.isRef = true) (hgv : own_gv ec qc tv = .null) :
    own_Met l mN51 kC46 2 (some .boolean) ws (own_rm 6 0 0 86) Z h0 #[(.ref ct), (.ref a1)] (Q_rmUtsN Z ct am hm tab kt nd tv ec ks vk kvk a1 gz va kva qc hv zv h0 n0) := by
  refine own_met (plainFor_of_name pn_14) (fun m => ef_rmUtsN m ct a1) ?_
  intro p e s m below meth c s₁ Φ hΦ X0 hx hby hml hown hnm hret hlk hZ e0
  have B : own_B p c _ _ := ⟨hx, hby, hml⟩
  have K0 : Keep h0 h0 [a1] := Keep.refl _ _
  show own_G p e below Φ s₁ (mkF m 0 #[vr ct, vr a1] [])
  refine o_aloadN X0 B d38_0 rfl rfl ?_
  refine o_gf X0 B hZ hown (wd_253 hw) Via.refl e0 F_answers_ct d38_1 ?_
  intro T1 X1 e1
  refine o_aloadN X1 B d38_4 rfl rfl ?_
  refine own_get l Z a0 hw (rest := []) X1 B hZ hown am hm tab kt nd tv ec ks vk kvk a1 gz va kva qc hv zv .null h0 n0 Z0 D_am O0 S_COMPACT_STRINGS hgz E_a1 F_value_a1 F_coder_a1 V_va F_hash_a1 F_hashIsZero_a1 g_a1 hr hi E_hm F_table_hm V_tab E_nd F_hash_nd F_key_nd F_value_nd F_next_nd E_ks F_value_ks F_coder_ks V_vk ne_a1_ks htv hgv rfl (by decide) 0 rfl (by decide) d38_5 e1 rfl (by decide) (by decide) ?_
  rintro _ T2 _ X2 ⟨hv2_2, zv2_2, rfl, N2q, Kq2, p2_0, p2_1, p2_2, p2_3, p2_4, p2_5⟩
  have K2 := K0.trans Kq2 (allS (Or.inl (List.mem_of_getElem? (i := 0) rfl)) all0)
  refine o_castN X2 B d38_10 ?_
  refine o_cS (argsL := [.null]) (rest := []) X2 B hZ hown (wd_285 hw) (wd_286 hw) (wd_287 hw) (wd_224 hw) (by decide) 0 (rmUtN l Z a0 hw []  T2.heap n0 (Nat.le_trans Z0 Kq2.1) ) (by decide) (by decide) (lenOf pd_28 rfl) rfl rfl rfl d38_13 rfl (by decide) (by decide) rfl ?_
  rintro _ T4 _ X4 ⟨rfl, N4q, hs4⟩
  exact o_rZ X4 B hΦ hlk hret (by simp) d38_16 (0 : Int32) rfl hs4 (by decide) (by decide) ⟨hv2_2, zv2_2, rfl, (Fr.app (Fr.app (Fr.nil n0) N2q) N4q), K2, p2_0, p2_1, p2_2, p2_3, p2_4, p2_5⟩
theorem ef_rmUtsF (m : MethodId) (ct : Addr) (a1 : Addr) : entryFrame m #[(.ref ct), (.ref a1)] 2 = mkF m 0 #[vr ct, vr a1] [] := by first | (simp [entryFrame, mkF, argsToLocals, Value.category]; done) | rfl
def Q_rmUtsF (Z : State) (ct : Addr) (am : Addr) (hm : Addr) (tab : Addr) (kt : ClassId) (nd : Addr) (tv : Value) (ec : Int32) (ks : Addr) (vk : Addr) (kvk : ClassId) (a1 : Addr) (gz : Int32) (va : Addr) (kva : ClassId) (qc : Int32) (hv : Int32) (zv : Int32) (tb : Addr) (dr : Int64) (al : Addr) (kn : Addr) (ku : Addr) (h0 : Heap) (n0 : Nat) (v : Option Value) (h : Heap) (L : List Loc) : Prop := ∃ hv2 : Int32, ∃ zv2 : Int32, v = some (.int (0 : Int32)) ∧ Fr n0 L ∧ Keep h0 h [a1] ∧ fE1 Z h a1 ∧ fF1 Z h a1 (.ref va) ∧ fF2 Z h a1 (.int (0 : Int32)) ∧ fF3 Z h a1 (.int hv2) ∧ fF4 Z h a1 (.int zv2) ∧ own_hc hv2 zv2 qc
theorem rmUtsF (l : Launch) (Z : State) (a0 : Array Value) (hw : own_H Z a0) (ws : List Jvm.Cond) (ct : Addr) (am : Addr) (hm : Addr) (tab : Addr) (kt : ClassId) (nd : Addr) (tv : Value) (ec : Int32) (ks : Addr) (vk : Addr) (kvk : ClassId) (a1 : Addr) (gz : Int32) (va : Addr) (kva : ClassId) (qc : Int32) (hv : Int32) (zv : Int32) (tb : Addr) (dr : Int64) (al : Addr) (kn : Addr) (ku : Addr) (h0 : Heap) (n0 : Nat) (Z0 : n0 ≤ h0.size) (E_ct : fE7 Z h0 ct) (F_answers_ct : fF24 Z h0 ct (.ref am)) (D_am : own_D Z h0 am hm) (ne_am_a1 : am ≠ a1) (O0 : Old Z n0 h0) (S_COMPACT_STRINGS : Sta Z Z.heap "java/lang/String" "COMPACT_STRINGS" "Z" (.int gz)) (hgz : ¬ gz = (0 : Int32)) (E_a1 : fE1 Z h0 a1) (F_value_a1 : fF1 Z h0 a1 (.ref va)) (F_coder_a1 : fF2 Z h0 a1 (.int (0 : Int32))) (V_va : Arv Z h0 va kva .byte (1 : Int32) [(.int (own_lo qc))] (.int (0 : Int32))) (F_hash_a1 : fF3 Z h0 a1 (.int hv)) (F_hashIsZero_a1 : fF4 Z h0 a1 (.int zv)) (g_a1 : n0 ≤ a1) (hr : ¬ qc < 0 ∧ ¬ (255 : Int32) < qc) (hi : own_hc hv zv qc) (E_hm : fE5 Z h0 hm) (F_table_hm : fF15 Z h0 hm (.ref tab)) (V_tab : Arv Z h0 tab kt (.object "java/util/HashMap$Node") (16 : Int32) (own_tl ec nd) .null) (E_nd : fE6 Z h0 nd) (F_hash_nd : fF20 Z h0 nd (.int ec)) (F_key_nd : fF21 Z h0 nd (.ref ks)) (F_value_nd : fF22 Z h0 nd tv) (F_next_nd : fF23 Z h0 nd .null) (E_ks : fE1 Z h0 ks) (F_value_ks : fF1 Z h0 ks (.ref vk)) (F_coder_ks : fF2 Z h0 ks (.int (0 : Int32))) (V_vk : Arv Z h0 vk kvk .byte (1 : Int32) [(.int (own_lo ec))] (.int (0 : Int32))) (ne_a1_ks : a1 ≠ ks) (htv : tv.isRef = true) (hgv : own_gv ec qc tv = .ref tb) (S_UNTOLD : Sta Z Z.heap "com/example/brickwork/brickwork/wire/Protocol$Knowledge" "UNTOLD" "Lcom/example/brickwork/brickwork/wire/Protocol$Knowledge;" (.ref ku)) (ne_kn_ku : kn ≠ ku) (E_tb : fE4 Z h0 tb) (F_knowledge_tb : fF11 Z h0 tb (.ref kn)) (F_directory_tb : fF12 Z h0 tb (.long dr)) (F_tables_tb : fF13 Z h0 tb (.ref al)) :
    own_Met l mN51 kC46 2 (some .boolean) ws (own_rm 6 0 0 86) Z h0 #[(.ref ct), (.ref a1)] (Q_rmUtsF Z ct am hm tab kt nd tv ec ks vk kvk a1 gz va kva qc hv zv tb dr al kn ku h0 n0) := by
  refine own_met (plainFor_of_name pn_14) (fun m => ef_rmUtsF m ct a1) ?_
  intro p e s m below meth c s₁ Φ hΦ X0 hx hby hml hown hnm hret hlk hZ e0
  have B : own_B p c _ _ := ⟨hx, hby, hml⟩
  have K0 : Keep h0 h0 [a1] := Keep.refl _ _
  have nz_tb_a1 : tb ≠ a1 := Exa.ne E_tb E_a1 (by decide)
  show own_G p e below Φ s₁ (mkF m 0 #[vr ct, vr a1] [])
  refine o_aloadN X0 B d38_0 rfl rfl ?_
  refine o_gf X0 B hZ hown (wd_253 hw) Via.refl e0 F_answers_ct d38_1 ?_
  intro T1 X1 e1
  refine o_aloadN X1 B d38_4 rfl rfl ?_
  refine own_get l Z a0 hw (rest := []) X1 B hZ hown am hm tab kt nd tv ec ks vk kvk a1 gz va kva qc hv zv (.ref tb) h0 n0 Z0 D_am O0 S_COMPACT_STRINGS hgz E_a1 F_value_a1 F_coder_a1 V_va F_hash_a1 F_hashIsZero_a1 g_a1 hr hi E_hm F_table_hm V_tab E_nd F_hash_nd F_key_nd F_value_nd F_next_nd E_ks F_value_ks F_coder_ks V_vk ne_a1_ks htv hgv rfl (by decide) 0 rfl (by decide) d38_5 e1 rfl (by decide) (by decide) ?_
  rintro _ T2 _ X2 ⟨hv2_2, zv2_2, rfl, N2q, Kq2, p2_0, p2_1, p2_2, p2_3, p2_4, p2_5⟩
  have K2 := K0.trans Kq2 (allS (Or.inl (List.mem_of_getElem? (i := 0) rfl)) all0)
  have f_1 := E_tb.keep K2
  refine o_cast X2 B hZ hown (wd_310 hw) rfl (Ins.self f_1) d38_10 ?_
  intro T4 X4 e4
  refine o_cS (argsL := [(.ref tb)]) (rest := []) X4 B hZ hown (wd_285 hw) (wd_286 hw) (wd_287 hw) (wd_224 hw) (by decide) 0 (rmUtF l Z a0 hw [] tb kn ku T2.heap n0 (Nat.le_trans Z0 Kq2.1) (O0.keep Kq2 (allS g_a1 all0)) S_UNTOLD f_1 (F_knowledge_tb.keep K2 (ninS nz_tb_a1 nin0)) ne_kn_ku) (by decide) (by decide) (lenOf pd_28 rfl) rfl rfl rfl d38_13 e4 (by decide) (by decide) rfl ?_
  rintro _ T5 _ X5 ⟨rfl, N5q, hs5⟩
  exact o_rZ X5 B hΦ hlk hret (by simp) d38_16 (0 : Int32) rfl hs5 (by decide) (by decide) ⟨hv2_2, zv2_2, rfl, (Fr.app (Fr.app (Fr.nil n0) N2q) N5q), K2, p2_0, p2_1, p2_2, p2_3, p2_4, p2_5⟩
theorem ef_rmUtsL (m : MethodId) (ct : Addr) (a1 : Addr) : entryFrame m #[(.ref ct), (.ref a1)] 2 = mkF m 0 #[vr ct, vr a1] [] := by first | (simp [entryFrame, mkF, argsToLocals, Value.category]; done) | rfl
def Q_rmUtsL (Z : State) (ct : Addr) (am : Addr) (hm : Addr) (tab : Addr) (kt : ClassId) (nd : Addr) (tv : Value) (ec : Int32) (ks : Addr) (vk : Addr) (kvk : ClassId) (a1 : Addr) (gz : Int32) (va : Addr) (kva : ClassId) (qc : Int32) (hv : Int32) (zv : Int32) (tb : Addr) (dr : Int64) (al : Addr) (ku : Addr) (h0 : Heap) (n0 : Nat) (v : Option Value) (h : Heap) (L : List Loc) : Prop := ∃ hv2 : Int32, ∃ zv2 : Int32, v = some (.int (1 : Int32)) ∧ Fr n0 L ∧ Keep h0 h [a1] ∧ fE1 Z h a1 ∧ fF1 Z h a1 (.ref va) ∧ fF2 Z h a1 (.int (0 : Int32)) ∧ fF3 Z h a1 (.int hv2) ∧ fF4 Z h a1 (.int zv2) ∧ own_hc hv2 zv2 qc
theorem rmUtsL (l : Launch) (Z : State) (a0 : Array Value) (hw : own_H Z a0) (ws : List Jvm.Cond) (ct : Addr) (am : Addr) (hm : Addr) (tab : Addr) (kt : ClassId) (nd : Addr) (tv : Value) (ec : Int32) (ks : Addr) (vk : Addr) (kvk : ClassId) (a1 : Addr) (gz : Int32) (va : Addr) (kva : ClassId) (qc : Int32) (hv : Int32) (zv : Int32) (tb : Addr) (dr : Int64) (al : Addr) (ku : Addr) (h0 : Heap) (n0 : Nat) (Z0 : n0 ≤ h0.size) (E_ct : fE7 Z h0 ct) (F_answers_ct : fF24 Z h0 ct (.ref am)) (D_am : own_D Z h0 am hm) (ne_am_a1 : am ≠ a1) (O0 : Old Z n0 h0) (S_COMPACT_STRINGS : Sta Z Z.heap "java/lang/String" "COMPACT_STRINGS" "Z" (.int gz)) (hgz : ¬ gz = (0 : Int32)) (E_a1 : fE1 Z h0 a1) (F_value_a1 : fF1 Z h0 a1 (.ref va)) (F_coder_a1 : fF2 Z h0 a1 (.int (0 : Int32))) (V_va : Arv Z h0 va kva .byte (1 : Int32) [(.int (own_lo qc))] (.int (0 : Int32))) (F_hash_a1 : fF3 Z h0 a1 (.int hv)) (F_hashIsZero_a1 : fF4 Z h0 a1 (.int zv)) (g_a1 : n0 ≤ a1) (hr : ¬ qc < 0 ∧ ¬ (255 : Int32) < qc) (hi : own_hc hv zv qc) (E_hm : fE5 Z h0 hm) (F_table_hm : fF15 Z h0 hm (.ref tab)) (V_tab : Arv Z h0 tab kt (.object "java/util/HashMap$Node") (16 : Int32) (own_tl ec nd) .null) (E_nd : fE6 Z h0 nd) (F_hash_nd : fF20 Z h0 nd (.int ec)) (F_key_nd : fF21 Z h0 nd (.ref ks)) (F_value_nd : fF22 Z h0 nd tv) (F_next_nd : fF23 Z h0 nd .null) (E_ks : fE1 Z h0 ks) (F_value_ks : fF1 Z h0 ks (.ref vk)) (F_coder_ks : fF2 Z h0 ks (.int (0 : Int32))) (V_vk : Arv Z h0 vk kvk .byte (1 : Int32) [(.int (own_lo ec))] (.int (0 : Int32))) (ne_a1_ks : a1 ≠ ks) (htv : tv.isRef = true) (hgv : own_gv ec qc tv = .ref tb) (S_UNTOLD : Sta Z Z.heap "com/example/brickwork/brickwork/wire/Protocol$Knowledge" "UNTOLD" "Lcom/example/brickwork/brickwork/wire/Protocol$Knowledge;" (.ref ku)) (E_tb : fE4 Z h0 tb) (F_knowledge_tb : fF11 Z h0 tb (.ref ku)) (F_directory_tb : fF12 Z h0 tb (.long dr)) (F_tables_tb : fF13 Z h0 tb (.ref al)) :
    own_Met l mN51 kC46 2 (some .boolean) ws (own_rm 6 0 0 86) Z h0 #[(.ref ct), (.ref a1)] (Q_rmUtsL Z ct am hm tab kt nd tv ec ks vk kvk a1 gz va kva qc hv zv tb dr al ku h0 n0) := by
  refine own_met (plainFor_of_name pn_14) (fun m => ef_rmUtsL m ct a1) ?_
  intro p e s m below meth c s₁ Φ hΦ X0 hx hby hml hown hnm hret hlk hZ e0
  have B : own_B p c _ _ := ⟨hx, hby, hml⟩
  have K0 : Keep h0 h0 [a1] := Keep.refl _ _
  have nz_tb_a1 : tb ≠ a1 := Exa.ne E_tb E_a1 (by decide)
  show own_G p e below Φ s₁ (mkF m 0 #[vr ct, vr a1] [])
  refine o_aloadN X0 B d38_0 rfl rfl ?_
  refine o_gf X0 B hZ hown (wd_253 hw) Via.refl e0 F_answers_ct d38_1 ?_
  intro T1 X1 e1
  refine o_aloadN X1 B d38_4 rfl rfl ?_
  refine own_get l Z a0 hw (rest := []) X1 B hZ hown am hm tab kt nd tv ec ks vk kvk a1 gz va kva qc hv zv (.ref tb) h0 n0 Z0 D_am O0 S_COMPACT_STRINGS hgz E_a1 F_value_a1 F_coder_a1 V_va F_hash_a1 F_hashIsZero_a1 g_a1 hr hi E_hm F_table_hm V_tab E_nd F_hash_nd F_key_nd F_value_nd F_next_nd E_ks F_value_ks F_coder_ks V_vk ne_a1_ks htv hgv rfl (by decide) 0 rfl (by decide) d38_5 e1 rfl (by decide) (by decide) ?_
  rintro _ T2 _ X2 ⟨hv2_2, zv2_2, rfl, N2q, Kq2, p2_0, p2_1, p2_2, p2_3, p2_4, p2_5⟩
  have K2 := K0.trans Kq2 (allS (Or.inl (List.mem_of_getElem? (i := 0) rfl)) all0)
  have f_1 := E_tb.keep K2
  refine o_cast X2 B hZ hown (wd_310 hw) rfl (Ins.self f_1) d38_10 ?_
  intro T4 X4 e4
  refine o_cS (argsL := [(.ref tb)]) (rest := []) X4 B hZ hown (wd_285 hw) (wd_286 hw) (wd_287 hw) (wd_224 hw) (by decide) 0 (rmUtL l Z a0 hw [] tb ku T2.heap n0 (Nat.le_trans Z0 Kq2.1) (O0.keep Kq2 (allS g_a1 all0)) S_UNTOLD f_1 (F_knowledge_tb.keep K2 (ninS nz_tb_a1 nin0))) (by decide) (by decide) (lenOf pd_28 rfl) rfl rfl rfl d38_13 e4 (by decide) (by decide) rfl ?_
  rintro _ T5 _ X5 ⟨rfl, N5q, hs5⟩
  exact o_rZ X5 B hΦ hlk hret (by simp) d38_16 (1 : Int32) rfl hs5 (by decide) (by decide) ⟨hv2_2, zv2_2, rfl, (Fr.app (Fr.app (Fr.nil n0) N2q) N5q), K2, p2_0, p2_1, p2_2, p2_3, p2_4, p2_5⟩
theorem d43_0 : dK kC47 0 (.aload_n 0) 1 := by decide +kernel
theorem d43_1 : dK kC47 1 (.getfield 13) 3 := by decide +kernel
theorem d43_4 : dK kC47 4 (.aload_n 1) 1 := by decide +kernel
theorem d43_5 : dK kC47 5 (.invokeinterface 158 2) 5 := by decide +kernel
theorem d43_10 : dK kC47 10 (.checkcast 45) 3 := by decide +kernel
theorem d43_13 : dK kC47 13 (.astore_n 2) 1 := by decide +kernel
theorem d43_14 : dK kC47 14 (.aload_n 2) 1 := by decide +kernel
theorem d43_15 : dK kC47 15 (.ifnonnull 7) 3 := by decide +kernel
theorem d43_18 : dK kC47 18 (.lconst 0) 1 := by decide +kernel
theorem d43_19 : dK kC47 19 (.goto 7) 3 := by decide +kernel
theorem d43_26 : dK kC47 26 .lreturn 1 := by decide +kernel
theorem ef_rmDrsN (m : MethodId) (ct : Addr) (a1 : Addr) : entryFrame m #[(.ref ct), (.ref a1)] 3 = mkF m 0 #[vr ct, vr a1, .unset] [] := by first | (simp [entryFrame, mkF, argsToLocals, Value.category]; done) | rfl
def Q_rmDrsN (Z : State) (ct : Addr) (am : Addr) (hm : Addr) (tab : Addr) (kt : ClassId) (nd : Addr) (tv : Value) (ec : Int32) (ks : Addr) (vk : Addr) (kvk : ClassId) (a1 : Addr) (gz : Int32) (va : Addr) (kva : ClassId) (qc : Int32) (hv : Int32) (zv : Int32) (h0 : Heap) (n0 : Nat) (v : Option Value) (h : Heap) (L : List Loc) : Prop := ∃ hv2 : Int32, ∃ zv2 : Int32, v = some (.long (0 : Int64)) ∧ Fr n0 L ∧ Keep h0 h [a1] ∧ fE1 Z h a1 ∧ fF1 Z h a1 (.ref va) ∧ fF2 Z h a1 (.int (0 : Int32)) ∧ fF3 Z h a1 (.int hv2) ∧ fF4 Z h a1 (.int zv2) ∧ own_hc hv2 zv2 qc
theorem rmDrsN (l : Launch) (Z : State) (a0 : Array Value) (hw : own_H Z a0) (ws : List Jvm.Cond) (ct : Addr) (am : Addr) (hm : Addr) (tab : Addr) (kt : ClassId) (nd : Addr) (tv : Value) (ec : Int32) (ks : Addr) (vk : Addr) (kvk : ClassId) (a1 : Addr) (gz : Int32) (va : Addr) (kva : ClassId) (qc : Int32) (hv : Int32) (zv : Int32) (h0 : Heap) (n0 : Nat) (Z0 : n0 ≤ h0.size) (E_ct : fE7 Z h0 ct) (F_answers_ct : fF24 Z h0 ct (.ref am)) (D_am : own_D Z h0 am hm) (ne_am_a1 : am ≠ a1) (O0 : Old Z n0 h0) (S_COMPACT_STRINGS : Sta Z Z.heap "java/lang/String" "COMPACT_STRINGS" "Z" (.int gz)) (hgz : ¬ gz = (0 : Int32)) (E_a1 : fE1 Z h0 a1) (F_value_a1 : fF1 Z h0 a1 (.ref va)) (F_coder_a1 : fF2 Z h0 a1 (.int (0 : Int32))) (V_va : Arv Z h0 va kva .byte (1 : Int32) [(.int (own_lo qc))] (.int (0 : Int32))) (F_hash_a1 : fF3 Z h0 a1 (.int hv)) (F_hashIsZero_a1 : fF4 Z h0 a1 (.int zv)) (g_a1 : n0 ≤ a1) (hr : ¬ qc < 0 ∧ ¬ (255 : Int32) < qc) (hi : own_hc hv zv qc) (E_hm : fE5 Z h0 hm) (F_table_hm : fF15 Z h0 hm (.ref tab)) (V_tab : Arv Z h0 tab kt (.object "java/util/HashMap$Node") (16 : Int32) (own_tl ec nd) .null) (E_nd : fE6 Z h0 nd) (F_hash_nd : fF20 Z h0 nd (.int ec)) (F_key_nd : fF21 Z h0 nd (.ref ks)) (F_value_nd : fF22 Z h0 nd tv) (F_next_nd : fF23 Z h0 nd .null) (E_ks : fE1 Z h0 ks) (F_value_ks : fF1 Z h0 ks (.ref vk)) (F_coder_ks : fF2 Z h0 ks (.int (0 : Int32))) (V_vk : Arv Z h0 vk kvk .byte (1 : Int32) [(.int (own_lo ec))] (.int (0 : Int32))) (ne_a1_ks : a1 ≠ ks) (htv : tv.isRef = true) (hgv : own_gv ec qc tv = .null) :
    own_Met l mN52 kC47 3 (some .long) ws (own_rm 6 0 0 86) Z h0 #[(.ref ct), (.ref a1)] (Q_rmDrsN Z ct am hm tab kt nd tv ec ks vk kvk a1 gz va kva qc hv zv h0 n0) := by
  refine own_met (plainFor_of_name pn_14) (fun m => ef_rmDrsN m ct a1) ?_
  intro p e s m below meth c s₁ Φ hΦ X0 hx hby hml hown hnm hret hlk hZ e0
  have B : own_B p c _ _ := ⟨hx, hby, hml⟩
  have K0 : Keep h0 h0 [a1] := Keep.refl _ _
  show own_G p e below Φ s₁ (mkF m 0 #[vr ct, vr a1, .unset] [])
  refine o_aloadN X0 B d43_0 rfl rfl ?_
  refine o_gf X0 B hZ hown (wd_253 hw) Via.refl e0 F_answers_ct d43_1 ?_
  intro T1 X1 e1
  refine o_aloadN X1 B d43_4 rfl rfl ?_
  refine own_get l Z a0 hw (rest := []) X1 B hZ hown am hm tab kt nd tv ec ks vk kvk a1 gz va kva qc hv zv .null h0 n0 Z0 D_am O0 S_COMPACT_STRINGS hgz E_a1 F_value_a1 F_coder_a1 V_va F_hash_a1 F_hashIsZero_a1 g_a1 hr hi E_hm F_table_hm V_tab E_nd F_hash_nd F_key_nd F_value_nd F_next_nd E_ks F_value_ks F_coder_ks V_vk ne_a1_ks htv hgv rfl (by decide) 0 rfl (by decide) d43_5 e1 rfl (by decide) (by decide) ?_
  rintro _ T2 _ X2 ⟨hv2_2, zv2_2, rfl, N2q, Kq2, p2_0, p2_1, p2_2, p2_3, p2_4, p2_5⟩
  have K2 := K0.trans Kq2 (allS (Or.inl (List.mem_of_getElem? (i := 0) rfl)) all0)
  refine o_castN X2 B d43_10 ?_
  refine o_astoreN (L' := #[vr ct, vr a1, .val .null]) X2 B d43_13 rfl rfl ?_
  refine o_aloadN X2 B d43_14 rfl rfl ?_
  refine o_ifnonnullN X2 B d43_15 ?_
  refine o_lconst X2 B (0 : Int64) d43_18 rfl ?_
  refine o_goto X2 B 26 d43_19 rfl ?_
  exact o_rJ X2 B hΦ hlk hret d43_26 rfl (by decide) (by decide) ⟨hv2_2, zv2_2, rfl, (Fr.app (Fr.nil n0) N2q), K2, p2_0, p2_1, p2_2, p2_3, p2_4, p2_5⟩
theorem d43_22 : dK kC47 22 (.aload_n 2) 1 := by decide +kernel
theorem d43_23 : dK kC47 23 (.invokevirtual 162) 3 := by decide +kernel
theorem pd_29 : parseMethodDescriptor "()J" = some ⟨[], some .long⟩ := by decide +kernel
theorem ef_rmDrsF (m : MethodId) (ct : Addr) (a1 : Addr) : entryFrame m #[(.ref ct), (.ref a1)] 3 = mkF m 0 #[vr ct, vr a1, .unset] [] := by first | (simp [entryFrame, mkF, argsToLocals, Value.category]; done) | rfl
def Q_rmDrsF (Z : State) (ct : Addr) (am : Addr) (hm : Addr) (tab : Addr) (kt : ClassId) (nd : Addr) (tv : Value) (ec : Int32) (ks : Addr) (vk : Addr) (kvk : ClassId) (a1 : Addr) (gz : Int32) (va : Addr) (kva : ClassId) (qc : Int32) (hv : Int32) (zv : Int32) (tb : Addr) (dr : Int64) (al : Addr) (kn : Addr) (h0 : Heap) (n0 : Nat) (v : Option Value) (h : Heap) (L : List Loc) : Prop := ∃ hv2 : Int32, ∃ zv2 : Int32, v = some (.long dr) ∧ Fr n0 L ∧ Keep h0 h [a1] ∧ fE1 Z h a1 ∧ fF1 Z h a1 (.ref va) ∧ fF2 Z h a1 (.int (0 : Int32)) ∧ fF3 Z h a1 (.int hv2) ∧ fF4 Z h a1 (.int zv2) ∧ own_hc hv2 zv2 qc
theorem rmDrsF (l : Launch) (Z : State) (a0 : Array Value) (hw : own_H Z a0) (ws : List Jvm.Cond) (ct : Addr) (am : Addr) (hm : Addr) (tab : Addr) (kt : ClassId) (nd : Addr) (tv : Value) (ec : Int32) (ks : Addr) (vk : Addr) (kvk : ClassId) (a1 : Addr) (gz : Int32) (va : Addr) (kva : ClassId) (qc : Int32) (hv : Int32) (zv : Int32) (tb : Addr) (dr : Int64) (al : Addr) (kn : Addr) (h0 : Heap) (n0 : Nat) (Z0 : n0 ≤ h0.size) (E_ct : fE7 Z h0 ct) (F_answers_ct : fF24 Z h0 ct (.ref am)) (D_am : own_D Z h0 am hm) (ne_am_a1 : am ≠ a1) (O0 : Old Z n0 h0) (S_COMPACT_STRINGS : Sta Z Z.heap "java/lang/String" "COMPACT_STRINGS" "Z" (.int gz)) (hgz : ¬ gz = (0 : Int32)) (E_a1 : fE1 Z h0 a1) (F_value_a1 : fF1 Z h0 a1 (.ref va)) (F_coder_a1 : fF2 Z h0 a1 (.int (0 : Int32))) (V_va : Arv Z h0 va kva .byte (1 : Int32) [(.int (own_lo qc))] (.int (0 : Int32))) (F_hash_a1 : fF3 Z h0 a1 (.int hv)) (F_hashIsZero_a1 : fF4 Z h0 a1 (.int zv)) (g_a1 : n0 ≤ a1) (hr : ¬ qc < 0 ∧ ¬ (255 : Int32) < qc) (hi : own_hc hv zv qc) (E_hm : fE5 Z h0 hm) (F_table_hm : fF15 Z h0 hm (.ref tab)) (V_tab : Arv Z h0 tab kt (.object "java/util/HashMap$Node") (16 : Int32) (own_tl ec nd) .null) (E_nd : fE6 Z h0 nd) (F_hash_nd : fF20 Z h0 nd (.int ec)) (F_key_nd : fF21 Z h0 nd (.ref ks)) (F_value_nd : fF22 Z h0 nd tv) (F_next_nd : fF23 Z h0 nd .null) (E_ks : fE1 Z h0 ks) (F_value_ks : fF1 Z h0 ks (.ref vk)) (F_coder_ks : fF2 Z h0 ks (.int (0 : Int32))) (V_vk : Arv Z h0 vk kvk .byte (1 : Int32) [(.int (own_lo ec))] (.int (0 : Int32))) (ne_a1_ks : a1 ≠ ks) (htv : tv.isRef = true) (hgv : own_gv ec qc tv = .ref tb) (E_tb : fE4 Z h0 tb) (F_knowledge_tb : fF11 Z h0 tb (.ref kn)) (F_directory_tb : fF12 Z h0 tb (.long dr)) (F_tables_tb : fF13 Z h0 tb (.ref al)) :
    own_Met l mN52 kC47 3 (some .long) ws (own_rm 6 0 0 86) Z h0 #[(.ref ct), (.ref a1)] (Q_rmDrsF Z ct am hm tab kt nd tv ec ks vk kvk a1 gz va kva qc hv zv tb dr al kn h0 n0) := by
  refine own_met (plainFor_of_name pn_14) (fun m => ef_rmDrsF m ct a1) ?_
  intro p e s m below meth c s₁ Φ hΦ X0 hx hby hml hown hnm hret hlk hZ e0
  have B : own_B p c _ _ := ⟨hx, hby, hml⟩
  have K0 : Keep h0 h0 [a1] := Keep.refl _ _
  have nz_tb_a1 : tb ≠ a1 := Exa.ne E_tb E_a1 (by decide)
  show own_G p e below Φ s₁ (mkF m 0 #[vr ct, vr a1, .unset] [])
  refine o_aloadN X0 B d43_0 rfl rfl ?_
  refine o_gf X0 B hZ hown (wd_253 hw) Via.refl e0 F_answers_ct d43_1 ?_
  intro T1 X1 e1
  refine o_aloadN X1 B d43_4 rfl rfl ?_
  refine own_get l Z a0 hw (rest := []) X1 B hZ hown am hm tab kt nd tv ec ks vk kvk a1 gz va kva qc hv zv (.ref tb) h0 n0 Z0 D_am O0 S_COMPACT_STRINGS hgz E_a1 F_value_a1 F_coder_a1 V_va F_hash_a1 F_hashIsZero_a1 g_a1 hr hi E_hm F_table_hm V_tab E_nd F_hash_nd F_key_nd F_value_nd F_next_nd E_ks F_value_ks F_coder_ks V_vk ne_a1_ks htv hgv rfl (by decide) 0 rfl (by decide) d43_5 e1 rfl (by decide) (by decide) ?_
  rintro _ T2 _ X2 ⟨hv2_2, zv2_2, rfl, N2q, Kq2, p2_0, p2_1, p2_2, p2_3, p2_4, p2_5⟩
  have K2 := K0.trans Kq2 (allS (Or.inl (List.mem_of_getElem? (i := 0) rfl)) all0)
  have f_1 := E_tb.keep K2
  refine o_cast X2 B hZ hown (wd_310 hw) rfl (Ins.self f_1) d43_10 ?_
  intro T4 X4 e4
  refine o_astoreN (L' := #[vr ct, vr a1, vr tb]) X4 B d43_13 rfl rfl ?_
  refine o_aloadN X4 B d43_14 rfl rfl ?_
  refine o_ifnonnullY X4 B 22 d43_15 rfl ?_
  refine o_aloadN X4 B d43_22 rfl rfl ?_
  refine o_cV (argsL := []) (rest := []) X4 B hZ hown (wd_319 hw) (wd_320 hw) (wd_322 hw) (wd_321 hw) (wd_323 hw) (wd_122 hw) (by decide) f_1 0 (rmDry l Z a0 hw [] tb dr T2.heap n0 (Nat.le_trans Z0 Kq2.1) f_1 (F_directory_tb.keep K2 (ninS nz_tb_a1 nin0))) (by decide) (by decide) (lenOf pd_29 rfl) rfl rfl rfl d43_23 e4 (by decide) (by decide) rfl ?_
  rintro _ T5 _ X5 ⟨rfl, N5q, hs5⟩
  exact o_rJ X5 B hΦ hlk hret d43_26 hs5 (by decide) (by decide) ⟨hv2_2, zv2_2, rfl, (Fr.app (Fr.app (Fr.nil n0) N2q) N5q), K2, p2_0, p2_1, p2_2, p2_3, p2_4, p2_5⟩
theorem d50_0 : dK kC48 0 (.aload_n 0) 1 := by decide +kernel
theorem d50_1 : dK kC48 1 (.getfield 13) 3 := by decide +kernel
theorem d50_4 : dK kC48 4 (.aload_n 1) 1 := by decide +kernel
theorem d50_5 : dK kC48 5 (.invokeinterface 158 2) 5 := by decide +kernel
theorem d50_10 : dK kC48 10 (.checkcast 45) 3 := by decide +kernel
theorem d50_13 : dK kC48 13 (.astore_n 2) 1 := by decide +kernel
theorem d50_14 : dK kC48 14 (.aload_n 2) 1 := by decide +kernel
theorem d50_15 : dK kC48 15 (.ifnonnull 9) 3 := by decide +kernel
theorem d50_24 : dK kC48 24 (.aload_n 2) 1 := by decide +kernel
theorem d50_25 : dK kC48 25 (.invokevirtual 78) 3 := by decide +kernel
theorem pd_30 : parseMethodDescriptor "()Ljava/util/List;" = some ⟨[], some (.object "java/util/List")⟩ := by decide +kernel
theorem d50_28 : dK kC48 28 .areturn 1 := by decide +kernel
theorem ef_rmLsd (m : MethodId) (ct : Addr) (a1 : Addr) : entryFrame m #[(.ref ct), (.ref a1)] 3 = mkF m 0 #[vr ct, vr a1, .unset] [] := by first | (simp [entryFrame, mkF, argsToLocals, Value.category]; done) | rfl
def Q_rmLsd (Z : State) (ct : Addr) (am : Addr) (hm : Addr) (tab : Addr) (kt : ClassId) (nd : Addr) (tv : Value) (ec : Int32) (ks : Addr) (vk : Addr) (kvk : ClassId) (a1 : Addr) (gz : Int32) (va : Addr) (kva : ClassId) (qc : Int32) (hv : Int32) (zv : Int32) (tb : Addr) (dr : Int64) (al : Addr) (kn : Addr) (h0 : Heap) (n0 : Nat) (v : Option Value) (h : Heap) (L : List Loc) : Prop := ∃ hv2 : Int32, ∃ zv2 : Int32, v = some (.ref al) ∧ Fr n0 L ∧ Keep h0 h [a1] ∧ fE1 Z h a1 ∧ fF1 Z h a1 (.ref va) ∧ fF2 Z h a1 (.int (0 : Int32)) ∧ fF3 Z h a1 (.int hv2) ∧ fF4 Z h a1 (.int zv2) ∧ own_hc hv2 zv2 qc
theorem rmLsd (l : Launch) (Z : State) (a0 : Array Value) (hw : own_H Z a0) (ws : List Jvm.Cond) (ct : Addr) (am : Addr) (hm : Addr) (tab : Addr) (kt : ClassId) (nd : Addr) (tv : Value) (ec : Int32) (ks : Addr) (vk : Addr) (kvk : ClassId) (a1 : Addr) (gz : Int32) (va : Addr) (kva : ClassId) (qc : Int32) (hv : Int32) (zv : Int32) (tb : Addr) (dr : Int64) (al : Addr) (kn : Addr) (h0 : Heap) (n0 : Nat) (Z0 : n0 ≤ h0.size) (E_ct : fE7 Z h0 ct) (F_answers_ct : fF24 Z h0 ct (.ref am)) (D_am : own_D Z h0 am hm) (ne_am_a1 : am ≠ a1) (O0 : Old Z n0 h0) (S_COMPACT_STRINGS : Sta Z Z.heap "java/lang/String" "COMPACT_STRINGS" "Z" (.int gz)) (hgz : ¬ gz = (0 : Int32)) (E_a1 : fE1 Z h0 a1) (F_value_a1 : fF1 Z h0 a1 (.ref va)) (F_coder_a1 : fF2 Z h0 a1 (.int (0 : Int32))) (V_va : Arv Z h0 va kva .byte (1 : Int32) [(.int (own_lo qc))] (.int (0 : Int32))) (F_hash_a1 : fF3 Z h0 a1 (.int hv)) (F_hashIsZero_a1 : fF4 Z h0 a1 (.int zv)) (g_a1 : n0 ≤ a1) (hr : ¬ qc < 0 ∧ ¬ (255 : Int32) < qc) (hi : own_hc hv zv qc) (E_hm : fE5 Z h0 hm) (F_table_hm : fF15 Z h0 hm (.ref tab)) (V_tab : Arv Z h0 tab kt (.object "java/util/HashMap$Node") (16 : Int32) (own_tl ec nd) .null) (E_nd : fE6 Z h0 nd) (F_hash_nd : fF20 Z h0 nd (.int ec)) (F_key_nd : fF21 Z h0 nd (.ref ks)) (F_value_nd : fF22 Z h0 nd tv) (F_next_nd : fF23 Z h0 nd .null) (E_ks : fE1 Z h0 ks) (F_value_ks : fF1 Z h0 ks (.ref vk)) (F_coder_ks : fF2 Z h0 ks (.int (0 : Int32))) (V_vk : Arv Z h0 vk kvk .byte (1 : Int32) [(.int (own_lo ec))] (.int (0 : Int32))) (ne_a1_ks : a1 ≠ ks) (htv : tv.isRef = true) (hgv : own_gv ec qc tv = .ref tb) (E_tb : fE4 Z h0 tb) (F_knowledge_tb : fF11 Z h0 tb (.ref kn)) (F_directory_tb : fF12 Z h0 tb (.long dr)) (F_tables_tb : fF13 Z h0 tb (.ref al)) :
    own_Met l mN53 kC48 3 (some (.object "java/util/List")) ws (own_rm 6 0 0 86) Z h0 #[(.ref ct), (.ref a1)] (Q_rmLsd Z ct am hm tab kt nd tv ec ks vk kvk a1 gz va kva qc hv zv tb dr al kn h0 n0) := by
  refine own_met (plainFor_of_name pn_14) (fun m => ef_rmLsd m ct a1) ?_
  intro p e s m below meth c s₁ Φ hΦ X0 hx hby hml hown hnm hret hlk hZ e0
  have B : own_B p c _ _ := ⟨hx, hby, hml⟩
  have K0 : Keep h0 h0 [a1] := Keep.refl _ _
  have nz_tb_a1 : tb ≠ a1 := Exa.ne E_tb E_a1 (by decide)
  show own_G p e below Φ s₁ (mkF m 0 #[vr ct, vr a1, .unset] [])
  refine o_aloadN X0 B d50_0 rfl rfl ?_
  refine o_gf X0 B hZ hown (wd_253 hw) Via.refl e0 F_answers_ct d50_1 ?_
  intro T1 X1 e1
  refine o_aloadN X1 B d50_4 rfl rfl ?_
  refine own_get l Z a0 hw (rest := []) X1 B hZ hown am hm tab kt nd tv ec ks vk kvk a1 gz va kva qc hv zv (.ref tb) h0 n0 Z0 D_am O0 S_COMPACT_STRINGS hgz E_a1 F_value_a1 F_coder_a1 V_va F_hash_a1 F_hashIsZero_a1 g_a1 hr hi E_hm F_table_hm V_tab E_nd F_hash_nd F_key_nd F_value_nd F_next_nd E_ks F_value_ks F_coder_ks V_vk ne_a1_ks htv hgv rfl (by decide) 0 rfl (by decide) d50_5 e1 rfl (by decide) (by decide) ?_
  rintro _ T2 _ X2 ⟨hv2_2, zv2_2, rfl, N2q, Kq2, p2_0, p2_1, p2_2, p2_3, p2_4, p2_5⟩
  have K2 := K0.trans Kq2 (allS (Or.inl (List.mem_of_getElem? (i := 0) rfl)) all0)
  have f_1 := E_tb.keep K2
  refine o_cast X2 B hZ hown (wd_310 hw) rfl (Ins.self f_1) d50_10 ?_
  intro T4 X4 e4
  refine o_astoreN (L' := #[vr ct, vr a1, vr tb]) X4 B d50_13 rfl rfl ?_
  refine o_aloadN X4 B d50_14 rfl rfl ?_
  refine o_ifnonnullY X4 B 24 d50_15 rfl ?_
  refine o_aloadN X4 B d50_24 rfl rfl ?_
  refine o_cV (argsL := []) (rest := []) X4 B hZ hown (wd_335 hw) (wd_336 hw) (wd_338 hw) (wd_337 hw) (wd_339 hw) (wd_122 hw) (by decide) f_1 0 (rmTbs l Z a0 hw [] tb al T2.heap n0 (Nat.le_trans Z0 Kq2.1) f_1 (F_tables_tb.keep K2 (ninS nz_tb_a1 nin0))) (by decide) (by decide) (lenOf pd_30 rfl) rfl rfl rfl d50_25 e4 (by decide) (by decide) rfl ?_
  rintro _ T5 _ X5 ⟨rfl, N5q, hs5⟩
  exact o_rA X5 B hΦ hlk hret rfl rfl d50_28 hs5 (by decide) (by decide) ⟨hv2_2, zv2_2, rfl, (Fr.app (Fr.app (Fr.nil n0) N2q) N5q), K2, p2_0, p2_1, p2_2, p2_3, p2_4, p2_5⟩
theorem d44_0 : dK kC49 0 (.lload_n 0) 1 := by decide +kernel
theorem d44_1 : dK kC49 1 (.lconst 0) 1 := by decide +kernel
theorem d44_2 : dK kC49 2 .lcmp 1 := by decide +kernel
theorem d44_3 : dK kC49 3 (.ifCond .eq 25) 3 := by decide +kernel
theorem d44_28 : dK kC49 28 (.iload 4) 2 := by decide +kernel
theorem d44_30 : dK kC49 30 (.ifCond .ne 7) 3 := by decide +kernel
theorem d44_33 : dK kC49 33 (.iconst 1) 1 := by decide +kernel
theorem d44_34 : dK kC49 34 (.goto 4) 3 := by decide +kernel
theorem d44_38 : dK kC49 38 (.istore 5) 2 := by decide +kernel
theorem d44_40 : dK kC49 40 (.iload 5) 2 := by decide +kernel
theorem d44_42 : dK kC49 42 .ireturn 1 := by decide +kernel
theorem d44_6 : dK kC49 6 (.lload_n 2) 1 := by decide +kernel
theorem d44_7 : dK kC49 7 (.lconst 0) 1 := by decide +kernel
theorem d44_8 : dK kC49 8 .lcmp 1 := by decide +kernel
theorem d44_9 : dK kC49 9 (.ifCond .eq 19) 3 := by decide +kernel
theorem d44_12 : dK kC49 12 (.lload_n 0) 1 := by decide +kernel
theorem d44_13 : dK kC49 13 (.lload_n 2) 1 := by decide +kernel
theorem d44_14 : dK kC49 14 .lcmp 1 := by decide +kernel
theorem d44_15 : dK kC49 15 (.ifCond .ne 7) 3 := by decide +kernel
theorem d44_18 : dK kC49 18 (.iconst 1) 1 := by decide +kernel
theorem d44_19 : dK kC49 19 (.goto 4) 3 := by decide +kernel
theorem d44_23 : dK kC49 23 (.istore 5) 2 := by decide +kernel
theorem d44_25 : dK kC49 25 (.goto 15) 3 := by decide +kernel
theorem d44_22 : dK kC49 22 (.iconst 0) 1 := by decide +kernel
theorem ef_rmSpj0 (m : MethodId) (xl : Int64) (yl : Int64) : entryFrame m #[(.long xl), (.long yl), (.int (0 : Int32))] 6 = mkF m 0 #[vj xl, .second, vj yl, .second, vi 0, .unset] [] := by first | (simp [entryFrame, mkF, argsToLocals, Value.category]; done) | rfl
def Q_rmSpj0 (Z : State) (xl : Int64) (yl : Int64) (h0 : Heap) (n0 : Nat) (v : Option Value) (h : Heap) (L : List Loc) : Prop := v = some (.int (own_sp xl yl (0 : Int32))) ∧ Fr n0 L ∧ h = h0
theorem rmSpj0 (l : Launch) (Z : State) (a0 : Array Value) (hw : own_H Z a0) (ws : List Jvm.Cond) (xl : Int64) (yl : Int64) (h0 : Heap) (n0 : Nat) (Z0 : n0 ≤ h0.size)  :
    own_Met l mN54 kC49 6 (some .boolean) ws (own_rm 0 0 0 0) Z h0 #[(.long xl), (.long yl), (.int (0 : Int32))] (Q_rmSpj0 Z xl yl h0 n0) := by
  refine own_met (plainFor_of_name pn_14) (fun m => ef_rmSpj0 m xl yl) ?_
  intro p e s m below meth c s₁ Φ hΦ X0 hx hby hml hown hnm hret hlk hZ e0
  have N0 := Fr.nil n0
  have B : own_B p c _ _ := ⟨hx, hby, hml⟩
  show own_G p e below Φ s₁ (mkF m 0 #[vj xl, .second, vj yl, .second, vi 0, .unset] [])
  refine o_lloadN X0 B d44_0 rfl ?_
  refine o_lconst X0 B (0 : Int64) d44_1 rfl ?_
  refine o_lcmp X0 B d44_2 ?_
  by_cases hc3 : xl = (0 : Int64)
  · refine o_ifY X0 B 28 d44_3 (XT.ll_eq_t hc3) rfl ?_
    refine o_iload X0 B d44_28 rfl ?_
    refine o_ifN X0 B d44_30 (XT.i0_ne_f (by decide : ((0 : Int32) = (0 : Int32)))) ?_
    refine o_iconst X0 B d44_33 ?_
    refine o_goto X0 B 38 d44_34 rfl ?_
    refine o_istore (L' := #[vj xl, .second, vj yl, .second, vi 0, vi 1]) X0 B d44_38 rfl ?_
    refine o_iload X0 B d44_40 rfl ?_
    exact o_rZ X0 B hΦ hlk hret (by simp) d44_42 (1 : Int32) rfl e0 (by decide) (by decide) ⟨(by simp [own_sp, hc3]), N0, rfl⟩
  · refine o_ifN X0 B d44_3 (XT.ll_eq_f hc3) ?_
    refine o_lloadN X0 B d44_6 rfl ?_
    refine o_lconst X0 B (0 : Int64) d44_7 rfl ?_
    refine o_lcmp X0 B d44_8 ?_
    by_cases hc9 : yl = (0 : Int64)
    · refine o_ifY X0 B 28 d44_9 (XT.ll_eq_t hc9) rfl ?_
      refine o_iload X0 B d44_28 rfl ?_
      refine o_ifN X0 B d44_30 (XT.i0_ne_f (by decide : ((0 : Int32) = (0 : Int32)))) ?_
      refine o_iconst X0 B d44_33 ?_
      refine o_goto X0 B 38 d44_34 rfl ?_
      refine o_istore (L' := #[vj xl, .second, vj yl, .second, vi 0, vi 1]) X0 B d44_38 rfl ?_
      refine o_iload X0 B d44_40 rfl ?_
      exact o_rZ X0 B hΦ hlk hret (by simp) d44_42 (1 : Int32) rfl e0 (by decide) (by decide) ⟨(by simp [own_sp, hc3, hc9]), N0, rfl⟩
    · refine o_ifN X0 B d44_9 (XT.ll_eq_f hc9) ?_
      refine o_lloadN X0 B d44_12 rfl ?_
      refine o_lloadN X0 B d44_13 rfl ?_
      refine o_lcmp X0 B d44_14 ?_
      by_cases hc15 : xl = yl
      · refine o_ifN X0 B d44_15 (XT.ll_ne_f hc15) ?_
        refine o_iconst X0 B d44_18 ?_
        refine o_goto X0 B 23 d44_19 rfl ?_
        refine o_istore (L' := #[vj xl, .second, vj yl, .second, vi 0, vi 1]) X0 B d44_23 rfl ?_
        refine o_goto X0 B 40 d44_25 rfl ?_
        refine o_iload X0 B d44_40 rfl ?_
        exact o_rZ X0 B hΦ hlk hret (by simp) d44_42 (1 : Int32) rfl e0 (by decide) (by decide) ⟨(by simp [own_sp, hc3, hc9, hc15]), N0, rfl⟩
      · refine o_ifY X0 B 22 d44_15 (XT.ll_ne_t hc15) rfl ?_
        refine o_iconst X0 B d44_22 ?_
        refine o_istore (L' := #[vj xl, .second, vj yl, .second, vi 0, vi 0]) X0 B d44_23 rfl ?_
        refine o_goto X0 B 40 d44_25 rfl ?_
        refine o_iload X0 B d44_40 rfl ?_
        exact o_rZ X0 B hΦ hlk hret (by simp) d44_42 (0 : Int32) rfl e0 (by decide) (by decide) ⟨(by simp [own_sp, hc3, hc9, hc15]), N0, rfl⟩
theorem d44_37 : dK kC49 37 (.iconst 0) 1 := by decide +kernel
theorem ef_rmSpj1 (m : MethodId) (xl : Int64) (yl : Int64) : entryFrame m #[(.long xl), (.long yl), (.int (1 : Int32))] 6 = mkF m 0 #[vj xl, .second, vj yl, .second, vi 1, .unset] [] := by first | (simp [entryFrame, mkF, argsToLocals, Value.category]; done) | rfl
def Q_rmSpj1 (Z : State) (xl : Int64) (yl : Int64) (h0 : Heap) (n0 : Nat) (v : Option Value) (h : Heap) (L : List Loc) : Prop := v = some (.int (own_sp xl yl (1 : Int32))) ∧ Fr n0 L ∧ h = h0
theorem rmSpj1 (l : Launch) (Z : State) (a0 : Array Value) (hw : own_H Z a0) (ws : List Jvm.Cond) (xl : Int64) (yl : Int64) (h0 : Heap) (n0 : Nat) (Z0 : n0 ≤ h0.size)  :
    own_Met l mN54 kC49 6 (some .boolean) ws (own_rm 0 0 0 0) Z h0 #[(.long xl), (.long yl), (.int (1 : Int32))] (Q_rmSpj1 Z xl yl h0 n0) := by
  refine own_met (plainFor_of_name pn_14) (fun m => ef_rmSpj1 m xl yl) ?_
  intro p e s m below meth c s₁ Φ hΦ X0 hx hby hml hown hnm hret hlk hZ e0
  have N0 := Fr.nil n0
  have B : own_B p c _ _ := ⟨hx, hby, hml⟩
  show own_G p e below Φ s₁ (mkF m 0 #[vj xl, .second, vj yl, .second, vi 1, .unset] [])
  refine o_lloadN X0 B d44_0 rfl ?_
  refine o_lconst X0 B (0 : Int64) d44_1 rfl ?_
  refine o_lcmp X0 B d44_2 ?_
  by_cases hc3 : xl = (0 : Int64)
  · refine o_ifY X0 B 28 d44_3 (XT.ll_eq_t hc3) rfl ?_
    refine o_iload X0 B d44_28 rfl ?_
    refine o_ifY X0 B 37 d44_30 (XT.i0_ne_t (by decide : ¬ ((1 : Int32) = (0 : Int32)))) rfl ?_
    refine o_iconst X0 B d44_37 ?_
    refine o_istore (L' := #[vj xl, .second, vj yl, .second, vi 1, vi 0]) X0 B d44_38 rfl ?_
    refine o_iload X0 B d44_40 rfl ?_
    exact o_rZ X0 B hΦ hlk hret (by simp) d44_42 (0 : Int32) rfl e0 (by decide) (by decide) ⟨(by simp [own_sp, hc3]), N0, rfl⟩
  · refine o_ifN X0 B d44_3 (XT.ll_eq_f hc3) ?_
    refine o_lloadN X0 B d44_6 rfl ?_
    refine o_lconst X0 B (0 : Int64) d44_7 rfl ?_
    refine o_lcmp X0 B d44_8 ?_
    by_cases hc9 : yl = (0 : Int64)
    · refine o_ifY X0 B 28 d44_9 (XT.ll_eq_t hc9) rfl ?_
      refine o_iload X0 B d44_28 rfl ?_
      refine o_ifY X0 B 37 d44_30 (XT.i0_ne_t (by decide : ¬ ((1 : Int32) = (0 : Int32)))) rfl ?_
      refine o_iconst X0 B d44_37 ?_
      refine o_istore (L' := #[vj xl, .second, vj yl, .second, vi 1, vi 0]) X0 B d44_38 rfl ?_
      refine o_iload X0 B d44_40 rfl ?_
      exact o_rZ X0 B hΦ hlk hret (by simp) d44_42 (0 : Int32) rfl e0 (by decide) (by decide) ⟨(by simp [own_sp, hc3, hc9]), N0, rfl⟩
    · refine o_ifN X0 B d44_9 (XT.ll_eq_f hc9) ?_
      refine o_lloadN X0 B d44_12 rfl ?_
      refine o_lloadN X0 B d44_13 rfl ?_
      refine o_lcmp X0 B d44_14 ?_
      by_cases hc15 : xl = yl
      · refine o_ifN X0 B d44_15 (XT.ll_ne_f hc15) ?_
        refine o_iconst X0 B d44_18 ?_
        refine o_goto X0 B 23 d44_19 rfl ?_
        refine o_istore (L' := #[vj xl, .second, vj yl, .second, vi 1, vi 1]) X0 B d44_23 rfl ?_
        refine o_goto X0 B 40 d44_25 rfl ?_
        refine o_iload X0 B d44_40 rfl ?_
        exact o_rZ X0 B hΦ hlk hret (by simp) d44_42 (1 : Int32) rfl e0 (by decide) (by decide) ⟨(by simp [own_sp, hc3, hc9, hc15]), N0, rfl⟩
      · refine o_ifY X0 B 22 d44_15 (XT.ll_ne_t hc15) rfl ?_
        refine o_iconst X0 B d44_22 ?_
        refine o_istore (L' := #[vj xl, .second, vj yl, .second, vi 1, vi 0]) X0 B d44_23 rfl ?_
        refine o_goto X0 B 40 d44_25 rfl ?_
        refine o_iload X0 B d44_40 rfl ?_
        exact o_rZ X0 B hΦ hlk hret (by simp) d44_42 (0 : Int32) rfl e0 (by decide) (by decide) ⟨(by simp [own_sp, hc3, hc9, hc15]), N0, rfl⟩
theorem d53_0 : dK kC50 0 (.aload_n 0) 1 := by decide +kernel
theorem d53_1 : dK kC50 1 (.aload_n 1) 1 := by decide +kernel
theorem d53_2 : dK kC50 2 (.putfield 1) 3 := by decide +kernel
theorem d53_5 : dK kC50 5 (.aload_n 0) 1 := by decide +kernel
theorem d53_6 : dK kC50 6 (.invokespecial 7) 3 := by decide +kernel
theorem d53_9 : dK kC50 9 (.aload_n 0) 1 := by decide +kernel
theorem d53_10 : dK kC50 10 (.iconst (-1)) 1 := by decide +kernel
theorem d53_11 : dK kC50 11 (.putfield 13) 3 := by decide +kernel
def sl_62 {Z : State} {a0 : Array Value} (hw : own_H Z a0) := slot_ne (C := "java/util/ArrayList$Itr") (Or.inl (wd_360 hw)) (Or.inr (wd_357 hw)) (by decide) (t := .int) (t' := (.object "java/util/ArrayList")) (by decide) (by decide)
theorem d53_14 : dK kC50 14 (.aload_n 0) 1 := by decide +kernel
theorem d53_15 : dK kC50 15 (.aload_n 0) 1 := by decide +kernel
theorem d53_16 : dK kC50 16 (.getfield 1) 3 := by decide +kernel
def sl_63 {Z : State} {a0 : Array Value} (hw : own_H Z a0) := slot_ne (C := "java/util/ArrayList$Itr") (Or.inr (wd_357 hw)) (Or.inl (wd_360 hw)) (by decide) (t := (.object "java/util/ArrayList")) (t' := .int) (by decide) (by decide)
theorem d53_19 : dK kC50 19 (.getfield 17) 3 := by decide +kernel
theorem d53_22 : dK kC50 22 (.putfield 22) 3 := by decide +kernel
def sl_64 {Z : State} {a0 : Array Value} (hw : own_H Z a0) := slot_ne (C := "java/util/ArrayList$Itr") (Or.inl (wd_363 hw)) (Or.inr (wd_357 hw)) (by decide) (t := .int) (t' := (.object "java/util/ArrayList")) (by decide) (by decide)
def sl_65 {Z : State} {a0 : Array Value} (hw : own_H Z a0) := slot_ne (C := "java/util/ArrayList$Itr") (Or.inl (wd_363 hw)) (Or.inl (wd_360 hw)) (by decide) (t := .int) (t' := .int) (by decide) (by decide)
theorem d53_25 : dK kC50 25 .return_ 1 := by decide +kernel
def sl_66 {Z : State} {a0 : Array Value} (hw : own_H Z a0) := slot_ne (C := "java/util/ArrayList$Itr") (Or.inr (wd_357 hw)) (Or.inl (wd_363 hw)) (by decide) (t := (.object "java/util/ArrayList")) (t' := .int) (by decide) (by decide)
def sl_67 {Z : State} {a0 : Array Value} (hw : own_H Z a0) := slot_ne (C := "java/util/ArrayList$Itr") (Or.inl (wd_374 hw)) (Or.inr (wd_357 hw)) (by decide) (t := .int) (t' := (.object "java/util/ArrayList")) (by decide) (by decide)
def sl_68 {Z : State} {a0 : Array Value} (hw : own_H Z a0) := slot_ne (C := "java/util/ArrayList$Itr") (Or.inl (wd_374 hw)) (Or.inl (wd_360 hw)) (by decide) (t := .int) (t' := .int) (by decide) (by decide)
def sl_69 {Z : State} {a0 : Array Value} (hw : own_H Z a0) := slot_ne (C := "java/util/ArrayList$Itr") (Or.inl (wd_374 hw)) (Or.inl (wd_363 hw)) (by decide) (t := .int) (t' := .int) (by decide) (by decide)
def sl_70 {Z : State} {a0 : Array Value} (hw : own_H Z a0) := slot_ne (C := "java/util/ArrayList$Itr") (Or.inl (wd_360 hw)) (Or.inl (wd_363 hw)) (by decide) (t := .int) (t' := .int) (by decide) (by decide)
theorem pn_15 : plainName "java/util/ArrayList$Itr" = true := by first | (simp [plainName, overriddenIn]; done) | decide +kernel
theorem ef_rmItin (m : MethodId) (it : Addr) (al : Addr) : entryFrame m #[(.ref it), (.ref al)] 2 = mkF m 0 #[vr it, vr al] [] := by first | (simp [entryFrame, mkF, argsToLocals, Value.category]; done) | rfl
def Q_rmItin (Z : State) (it : Addr) (al : Addr) (mc : Int32) (h0 : Heap) (n0 : Nat) (v : Option Value) (h : Heap) (L : List Loc) : Prop := v = none ∧ Fr n0 L ∧ Keep h0 h [it] ∧ fE8 Z h it ∧ fF25 Z h it (.ref al) ∧ fF26 Z h it (.int (0 : Int32)) ∧ fF27 Z h it (.int mc) ∧ fF28 Z h it (.int (-1 : Int32))
theorem rmItin (l : Launch) (Z : State) (a0 : Array Value) (hw : own_H Z a0) (ws : List Jvm.Cond) (it : Addr) (al : Addr) (mc : Int32) (h0 : Heap) (n0 : Nat) (Z0 : n0 ≤ h0.size) (E_it : fE8 Z h0 it) (F_this_0_it : fF25 Z h0 it .null) (F_cursor_it : fF26 Z h0 it (.int (0 : Int32))) (F_lastRet_it : fF28 Z h0 it (.int (0 : Int32))) (F_expectedModCount_it : fF27 Z h0 it (.int (0 : Int32))) (g_it : n0 ≤ it) (E_al : fE2 Z h0 al) (F_modCount_al : fF5 Z h0 al (.int mc)) :
    own_Met l mN55 kC50 2 none ws (own_rm 1 0 0 12) Z h0 #[(.ref it), (.ref al)] (Q_rmItin Z it al mc h0 n0) := by
  refine own_met (plainFor_of_name pn_15) (fun m => ef_rmItin m it al) ?_
  intro p e s m below meth c s₁ Φ hΦ X0 hx hby hml hown hnm hret hlk hZ e0
  have B : own_B p c _ _ := ⟨hx, hby, hml⟩
  have K0 : Keep h0 h0 [it] := Keep.refl _ _
  have nz_al_it : al ≠ it := Exa.ne E_al E_it (by decide)
  show own_G p e below Φ s₁ (mkF m 0 #[vr it, vr al] [])
  refine o_aloadN X0 B d53_0 rfl rfl ?_
  refine o_aloadN X0 B d53_1 rfl rfl ?_
  refine o_pf (ty := (.object "java/util/ArrayList")) X0 B hZ hown (wd_356 hw) Via.refl e0 F_this_0_it E_it (Or.inr ⟨(wd_357 hw), rfl, hnm⟩) (wd_350 hw) (by decide) rfl rfl d53_2 ?_
  intro T1 h1 X1 e1 W1
  have K1 := K0.wr W1 (Or.inl (List.mem_of_getElem? (i := 0) rfl))
  have f1w := F_this_0_it.same W1
  refine o_aloadN X1 B d53_5 rfl rfl ?_
  refine o_io X1 B hZ hown (wd_358 hw) (wd_12 hw) (wd_13 hw) e1 d53_6 (by decide) 0 rfl (by decide) rfl ?_
  intro T2 X2 e2
  refine o_aloadN X2 B d53_9 rfl rfl ?_
  refine o_iconst X2 B d53_10 ?_
  have f_2 : fF28 Z h1 it (.int (0 : Int32)) := F_lastRet_it.other W1 (Or.inr (sl_62 hw))
  refine o_pf (ty := .int) X2 B hZ hown (wd_359 hw) Via.refl e2 f_2 (E_it.keep K1) (Or.inl (wd_360 hw)) (wd_350 hw) (by decide) rfl rfl d53_11 ?_
  intro T3 h3 X3 e3 W3
  have K3 := K1.wr W3 (Or.inl (List.mem_of_getElem? (i := 0) rfl))
  have f3w := f_2.same W3
  refine o_aloadN X3 B d53_14 rfl rfl ?_
  refine o_aloadN X3 B d53_15 rfl rfl ?_
  have f_3 : fF25 Z h3 it (.ref al) := f1w.other W3 (Or.inr (sl_63 hw))
  refine o_gf X3 B hZ hown (wd_356 hw) Via.refl e3 f_3 d53_16 ?_
  intro T4 X4 e4
  refine o_gf X4 B hZ hown (wd_361 hw) (Via.of (wd_92 hw)) e4 (F_modCount_al.keep K3 (ninS nz_al_it nin0)) d53_19 ?_
  intro T5 X5 e5
  have f_6 : fF27 Z h1 it (.int (0 : Int32)) := F_expectedModCount_it.other W1 (Or.inr (sl_64 hw))
  have f_7 : fF27 Z h3 it (.int (0 : Int32)) := f_6.other W3 (Or.inr (sl_65 hw))
  refine o_pf (ty := .int) X5 B hZ hown (wd_362 hw) Via.refl e5 f_7 (E_it.keep K3) (Or.inl (wd_363 hw)) (wd_350 hw) (by decide) rfl rfl d53_22 ?_
  intro T6 h6 X6 e6 W6
  have K6 := K3.wr W6 (Or.inl (List.mem_of_getElem? (i := 0) rfl))
  have f6w := f_7.same W6
  have f_9 : fF25 Z h6 it (.ref al) := f_3.other W6 (Or.inr (sl_66 hw))
  have f_10 : fF26 Z h1 it (.int (0 : Int32)) := F_cursor_it.other W1 (Or.inr (sl_67 hw))
  have f_11 : fF26 Z h3 it (.int (0 : Int32)) := f_10.other W3 (Or.inr (sl_68 hw))
  have f_12 : fF26 Z h6 it (.int (0 : Int32)) := f_11.other W6 (Or.inr (sl_69 hw))
  have f_13 : fF28 Z h6 it (.int (-1 : Int32)) := f3w.other W6 (Or.inr (sl_70 hw))
  exact o_rV X6 B hΦ hlk hret d53_25 e6 (by decide) (by decide) ⟨rfl, (Fr.snoc X6 (Fr.snoc X3 (Fr.snoc X1 (Fr.nil n0) g_it) g_it) g_it), K6, (E_it.keep K6), f_9, f_12, f6w, f_13⟩
theorem d52_0 : dK kC51 0 (.new 267) 3 := by decide +kernel
theorem d52_3 : dK kC51 3 .dup 1 := by decide +kernel
theorem d52_4 : dK kC51 4 (.aload_n 0) 1 := by decide +kernel
theorem d52_5 : dK kC51 5 (.invokespecial 269) 3 := by decide +kernel
theorem pd_31 : parseMethodDescriptor "(Ljava/util/ArrayList;)V" = some ⟨[(.object "java/util/ArrayList")], none⟩ := by decide +kernel
theorem d52_8 : dK kC51 8 .areturn 1 := by decide +kernel
theorem ef_rmItr (m : MethodId) (al : Addr) : entryFrame m #[(.ref al)] 1 = mkF m 0 #[vr al] [] := by first | (simp [entryFrame, mkF, argsToLocals, Value.category]; done) | rfl
def Q_rmItr (Z : State) (al : Addr) (mc : Int32) (h0 : Heap) (n0 : Nat) (v : Option Value) (h : Heap) (L : List Loc) : Prop := ∃ it : Addr, h0.size ≤ it ∧ v = some (.ref it) ∧ Fr n0 L ∧ Keep h0 h [] ∧ fE8 Z h it ∧ fF25 Z h it (.ref al) ∧ fF26 Z h it (.int (0 : Int32)) ∧ fF27 Z h it (.int mc) ∧ fF28 Z h it (.int (-1 : Int32))
theorem rmItr (l : Launch) (Z : State) (a0 : Array Value) (hw : own_H Z a0) (ws : List Jvm.Cond) (al : Addr) (mc : Int32) (h0 : Heap) (n0 : Nat) (Z0 : n0 ≤ h0.size) (E_al : fE2 Z h0 al) (F_modCount_al : fF5 Z h0 al (.int mc)) :
    own_Met l mN56 kC51 1 (some (.object "java/util/Iterator")) ws (own_rm 2 1 4 26) Z h0 #[(.ref al)] (Q_rmItr Z al mc h0 n0) := by
  refine own_met (plainFor_of_name pn_5) (fun m => ef_rmItr m al) ?_
  intro p e s m below meth c s₁ Φ hΦ X0 hx hby hml hown hnm hret hlk hZ e0
  have B : own_B p c _ _ := ⟨hx, hby, hml⟩
  have K0 : Keep h0 h0 [] := Keep.refl _ _
  show own_G p e below Φ s₁ (mkF m 0 #[vr al] [])
  refine o_new X0 B hZ hown (wd_349 hw) (wd_350 hw) (wd_351 hw) e0 d52_0 (by decide) (by decide) ?_
  intro T1 h1 ob1 g1 X1 e1 E1 A1 D1
  have sz_ob1 : h0.size ≤ ob1 := Nat.le_trans K0.1 (Nat.le_of_eq g1.symm)
  have K1 := K0.ext E1
  have F_this_0_ob1 : fF25 Z h1 ob1 .null := D1 (Or.inr (wd_357 hw)) (ty := (.object "java/util/ArrayList")) (by decide)
  have F_lastRet_ob1 : fF28 Z h1 ob1 (.int (0 : Int32)) := D1 (Or.inl (wd_360 hw)) (ty := .int) (by decide)
  have F_expectedModCount_ob1 : fF27 Z h1 ob1 (.int (0 : Int32)) := D1 (Or.inl (wd_363 hw)) (ty := .int) (by decide)
  have F_cursor_ob1 : fF26 Z h1 ob1 (.int (0 : Int32)) := D1 (Or.inl (wd_374 hw)) (ty := .int) (by decide)
  refine o_dup X1 B d52_3 rfl ?_
  refine o_aloadN X1 B d52_4 rfl rfl ?_
  refine o_cI (argsL := [(.ref al)]) (rest := [(.ref ob1)]) X1 B hZ hown rfl (wd_352 hw) (wd_353 hw) (wd_355 hw) (wd_351 hw) (by decide) rfl 1 (rmItin l Z a0 hw [] ob1 al mc h1 n0 (Nat.le_trans Z0 E1.1) A1 F_this_0_ob1 F_cursor_ob1 F_lastRet_ob1 F_expectedModCount_ob1 (Nat.le_trans Z0 (Nat.le_of_eq g1.symm)) (E_al.keep K1) (F_modCount_al.keep K1 nin0)) (by decide) (by decide) (lenOf pd_31 rfl) rfl rfl rfl d52_5 e1 (by decide) (by decide) rfl ?_
  rintro _ T2 _ X2 ⟨rfl, N2q, Kq2, p2_0, p2_1, p2_2, p2_3, p2_4⟩
  have K2 := K1.trans Kq2 (allS (Or.inr sz_ob1) all0)
  exact o_rA X2 B hΦ hlk hret rfl rfl d52_8 rfl (by decide) (by decide) ⟨ob1, sz_ob1, rfl, (Fr.app (Fr.nil n0) N2q), K2, p2_0, p2_1, p2_2, p2_3, p2_4⟩
theorem d54_0 : dK kC52 0 (.aload_n 0) 1 := by decide +kernel
theorem d54_1 : dK kC52 1 (.getfield 25) 3 := by decide +kernel
theorem d54_4 : dK kC52 4 (.aload_n 0) 1 := by decide +kernel
theorem d54_5 : dK kC52 5 (.getfield 1) 3 := by decide +kernel
theorem d54_8 : dK kC52 8 (.getfield 28) 3 := by decide +kernel
theorem d54_11 : dK kC52 11 (.if_icmp .eq 7) 3 := by decide +kernel
theorem d54_14 : dK kC52 14 (.iconst 1) 1 := by decide +kernel
theorem d54_15 : dK kC52 15 (.goto 4) 3 := by decide +kernel
theorem d54_19 : dK kC52 19 .ireturn 1 := by decide +kernel
theorem ef_rmHnx1 (m : MethodId) (it : Addr) : entryFrame m #[(.ref it)] 1 = mkF m 0 #[vr it] [] := by first | (simp [entryFrame, mkF, argsToLocals, Value.category]; done) | rfl
def Q_rmHnx1 (Z : State) (it : Addr) (al : Addr) (cu : Int32) (sz : Int32) (h0 : Heap) (n0 : Nat) (v : Option Value) (h : Heap) (L : List Loc) : Prop := v = some (.int (1 : Int32)) ∧ Fr n0 L ∧ h = h0
theorem rmHnx1 (l : Launch) (Z : State) (a0 : Array Value) (hw : own_H Z a0) (ws : List Jvm.Cond) (it : Addr) (al : Addr) (cu : Int32) (sz : Int32) (h0 : Heap) (n0 : Nat) (Z0 : n0 ≤ h0.size) (E_it : fE8 Z h0 it) (F_this_0_it : fF25 Z h0 it (.ref al)) (F_cursor_it : fF26 Z h0 it (.int cu)) (E_al : fE2 Z h0 al) (F_size_al : fF6 Z h0 al (.int sz)) (hcs : ¬ cu = sz) :
    own_Met l mN57 kC52 1 (some .boolean) ws (own_rm 0 0 0 0) Z h0 #[(.ref it)] (Q_rmHnx1 Z it al cu sz h0 n0) := by
  refine own_met (plainFor_of_name pn_15) (fun m => ef_rmHnx1 m it) ?_
  intro p e s m below meth c s₁ Φ hΦ X0 hx hby hml hown hnm hret hlk hZ e0
  have B : own_B p c _ _ := ⟨hx, hby, hml⟩
  show own_G p e below Φ s₁ (mkF m 0 #[vr it] [])
  refine o_aloadN X0 B d54_0 rfl rfl ?_
  refine o_gf X0 B hZ hown (wd_373 hw) Via.refl e0 F_cursor_it d54_1 ?_
  intro T1 X1 e1
  refine o_aloadN X1 B d54_4 rfl rfl ?_
  refine o_gf X1 B hZ hown (wd_356 hw) Via.refl e1 F_this_0_it d54_5 ?_
  intro T2 X2 e2
  refine o_gfN X2 B hZ hown (wd_375 hw) Via.refl e2 F_size_al d54_8 ?_
  intro T3 X3 e3
  refine o_icN X3 B d54_11 (XT.ii_eq_f hcs) ?_
  refine o_iconst X3 B d54_14 ?_
  refine o_goto X3 B 19 d54_15 rfl ?_
  exact o_rZ X3 B hΦ hlk hret (by simp) d54_19 (1 : Int32) rfl e3 (by decide) (by decide) ⟨rfl, (Fr.nil n0), rfl⟩
theorem d54_18 : dK kC52 18 (.iconst 0) 1 := by decide +kernel
theorem ef_rmHnx0 (m : MethodId) (it : Addr) : entryFrame m #[(.ref it)] 1 = mkF m 0 #[vr it] [] := by first | (simp [entryFrame, mkF, argsToLocals, Value.category]; done) | rfl
def Q_rmHnx0 (Z : State) (it : Addr) (al : Addr) (cu : Int32) (sz : Int32) (h0 : Heap) (n0 : Nat) (v : Option Value) (h : Heap) (L : List Loc) : Prop := v = some (.int (0 : Int32)) ∧ Fr n0 L ∧ h = h0
theorem rmHnx0 (l : Launch) (Z : State) (a0 : Array Value) (hw : own_H Z a0) (ws : List Jvm.Cond) (it : Addr) (al : Addr) (cu : Int32) (sz : Int32) (h0 : Heap) (n0 : Nat) (Z0 : n0 ≤ h0.size) (E_it : fE8 Z h0 it) (F_this_0_it : fF25 Z h0 it (.ref al)) (F_cursor_it : fF26 Z h0 it (.int cu)) (E_al : fE2 Z h0 al) (F_size_al : fF6 Z h0 al (.int sz)) (hcs : cu = sz) :
    own_Met l mN57 kC52 1 (some .boolean) ws (own_rm 0 0 0 0) Z h0 #[(.ref it)] (Q_rmHnx0 Z it al cu sz h0 n0) := by
  refine own_met (plainFor_of_name pn_15) (fun m => ef_rmHnx0 m it) ?_
  intro p e s m below meth c s₁ Φ hΦ X0 hx hby hml hown hnm hret hlk hZ e0
  have B : own_B p c _ _ := ⟨hx, hby, hml⟩
  show own_G p e below Φ s₁ (mkF m 0 #[vr it] [])
  refine o_aloadN X0 B d54_0 rfl rfl ?_
  refine o_gf X0 B hZ hown (wd_373 hw) Via.refl e0 F_cursor_it d54_1 ?_
  intro T1 X1 e1
  refine o_aloadN X1 B d54_4 rfl rfl ?_
  refine o_gf X1 B hZ hown (wd_356 hw) Via.refl e1 F_this_0_it d54_5 ?_
  intro T2 X2 e2
  refine o_gfN X2 B hZ hown (wd_375 hw) Via.refl e2 F_size_al d54_8 ?_
  intro T3 X3 e3
  refine o_icY X3 B 18 d54_11 (XT.ii_eq_t hcs) rfl ?_
  refine o_iconst X3 B d54_18 ?_
  exact o_rZ X3 B hΦ hlk hret (by simp) d54_19 (0 : Int32) rfl e3 (by decide) (by decide) ⟨rfl, (Fr.nil n0), rfl⟩
theorem d56_0 : dK kC53 0 (.aload_n 0) 1 := by decide +kernel
theorem d56_1 : dK kC53 1 (.getfield 1) 3 := by decide +kernel
theorem d56_4 : dK kC53 4 (.getfield 17) 3 := by decide +kernel
theorem d56_7 : dK kC53 7 (.aload_n 0) 1 := by decide +kernel
theorem d56_8 : dK kC53 8 (.getfield 22) 3 := by decide +kernel
theorem d56_11 : dK kC53 11 (.if_icmp .eq 11) 3 := by decide +kernel
theorem d56_22 : dK kC53 22 .return_ 1 := by decide +kernel
theorem ef_rmChk (m : MethodId) (it : Addr) : entryFrame m #[(.ref it)] 1 = mkF m 0 #[vr it] [] := by first | (simp [entryFrame, mkF, argsToLocals, Value.category]; done) | rfl
def Q_rmChk (Z : State) (it : Addr) (al : Addr) (mc : Int32) (h0 : Heap) (n0 : Nat) (v : Option Value) (h : Heap) (L : List Loc) : Prop := v = none ∧ Fr n0 L ∧ h = h0
theorem rmChk (l : Launch) (Z : State) (a0 : Array Value) (hw : own_H Z a0) (ws : List Jvm.Cond) (it : Addr) (al : Addr) (mc : Int32) (h0 : Heap) (n0 : Nat) (Z0 : n0 ≤ h0.size) (E_it : fE8 Z h0 it) (F_this_0_it : fF25 Z h0 it (.ref al)) (F_expectedModCount_it : fF27 Z h0 it (.int mc)) (E_al : fE2 Z h0 al) (F_modCount_al : fF5 Z h0 al (.int mc)) :
    own_Met l mN58 kC53 1 none ws (own_rm 0 0 0 0) Z h0 #[(.ref it)] (Q_rmChk Z it al mc h0 n0) := by
  refine own_met (plainFor_of_name pn_15) (fun m => ef_rmChk m it) ?_
  intro p e s m below meth c s₁ Φ hΦ X0 hx hby hml hown hnm hret hlk hZ e0
  have B : own_B p c _ _ := ⟨hx, hby, hml⟩
  show own_G p e below Φ s₁ (mkF m 0 #[vr it] [])
  refine o_aloadN X0 B d56_0 rfl rfl ?_
  refine o_gf X0 B hZ hown (wd_356 hw) Via.refl e0 F_this_0_it d56_1 ?_
  intro T1 X1 e1
  refine o_gf X1 B hZ hown (wd_361 hw) (Via.of (wd_92 hw)) e1 F_modCount_al d56_4 ?_
  intro T2 X2 e2
  refine o_aloadN X2 B d56_7 rfl rfl ?_
  refine o_gf X2 B hZ hown (wd_362 hw) Via.refl e2 F_expectedModCount_it d56_8 ?_
  intro T3 X3 e3
  refine o_icY X3 B 22 d56_11 (XT.ii_eq_t (rfl : mc = mc)) rfl ?_
  exact o_rV X3 B hΦ hlk hret d56_22 e3 (by decide) (by decide) ⟨rfl, (Fr.nil n0), rfl⟩
theorem d55_0 : dK kC54 0 (.aload_n 0) 1 := by decide +kernel
theorem d55_1 : dK kC54 1 (.invokevirtual 31) 3 := by decide +kernel
theorem d55_4 : dK kC54 4 (.aload_n 0) 1 := by decide +kernel
theorem d55_5 : dK kC54 5 (.getfield 25) 3 := by decide +kernel
theorem d55_8 : dK kC54 8 (.istore_n 1) 1 := by decide +kernel
theorem d55_9 : dK kC54 9 (.iload_n 1) 1 := by decide +kernel
theorem d55_10 : dK kC54 10 (.aload_n 0) 1 := by decide +kernel
theorem d55_11 : dK kC54 11 (.getfield 1) 3 := by decide +kernel
theorem d55_14 : dK kC54 14 (.getfield 28) 3 := by decide +kernel
theorem d55_17 : dK kC54 17 (.if_icmp .lt 11) 3 := by decide +kernel
theorem d55_28 : dK kC54 28 (.aload_n 0) 1 := by decide +kernel
theorem d55_29 : dK kC54 29 (.getfield 1) 3 := by decide +kernel
theorem d55_32 : dK kC54 32 (.getfield 37) 3 := by decide +kernel
theorem d55_35 : dK kC54 35 (.astore_n 2) 1 := by decide +kernel
theorem d55_36 : dK kC54 36 (.iload_n 1) 1 := by decide +kernel
theorem d55_37 : dK kC54 37 (.aload_n 2) 1 := by decide +kernel
theorem d55_38 : dK kC54 38 .arraylength 1 := by decide +kernel
theorem d55_39 : dK kC54 39 (.if_icmp .lt 11) 3 := by decide +kernel
theorem d55_50 : dK kC54 50 (.aload_n 0) 1 := by decide +kernel
theorem d55_51 : dK kC54 51 (.iload_n 1) 1 := by decide +kernel
theorem d55_52 : dK kC54 52 (.iconst 1) 1 := by decide +kernel
theorem d55_53 : dK kC54 53 .iadd 1 := by decide +kernel
theorem d55_54 : dK kC54 54 (.putfield 25) 3 := by decide +kernel
theorem d55_57 : dK kC54 57 (.aload_n 2) 1 := by decide +kernel
theorem d55_58 : dK kC54 58 (.aload_n 0) 1 := by decide +kernel
theorem d55_59 : dK kC54 59 (.iload_n 1) 1 := by decide +kernel
theorem d55_60 : dK kC54 60 .dup_x1 1 := by decide +kernel
theorem d55_61 : dK kC54 61 (.putfield 13) 3 := by decide +kernel
def sl_71 {Z : State} {a0 : Array Value} (hw : own_H Z a0) := slot_ne (C := "java/util/ArrayList$Itr") (Or.inl (wd_360 hw)) (Or.inl (wd_374 hw)) (by decide) (t := .int) (t' := .int) (by decide) (by decide)
theorem d55_64 : dK kC54 64 .aaload 1 := by decide +kernel
theorem d55_65 : dK kC54 65 .areturn 1 := by decide +kernel
def sl_72 {Z : State} {a0 : Array Value} (hw : own_H Z a0) := slot_ne (C := "java/util/ArrayList$Itr") (Or.inr (wd_357 hw)) (Or.inl (wd_374 hw)) (by decide) (t := (.object "java/util/ArrayList")) (t' := .int) (by decide) (by decide)
def sl_73 {Z : State} {a0 : Array Value} (hw : own_H Z a0) := slot_ne (C := "java/util/ArrayList$Itr") (Or.inl (wd_363 hw)) (Or.inl (wd_374 hw)) (by decide) (t := .int) (t' := .int) (by decide) (by decide)
theorem ef_rmNxt10 (m : MethodId) (it : Addr) : entryFrame m #[(.ref it)] 3 = mkF m 0 #[vr it, .unset, .unset] [] := by first | (simp [entryFrame, mkF, argsToLocals, Value.category]; done) | rfl
def Q_rmNxt10 (Z : State) (it : Addr) (al : Addr) (ed : Addr) (ke : ClassId) (x1 : Addr) (lr : Value) (h0 : Heap) (n0 : Nat) (v : Option Value) (h : Heap) (L : List Loc) : Prop := v = some (.ref x1) ∧ Fr n0 L ∧ Keep h0 h [it] ∧ fE8 Z h it ∧ fF25 Z h it (.ref al) ∧ fF26 Z h it (.int (1 : Int32)) ∧ fF27 Z h it (.int (1 : Int32)) ∧ fF28 Z h it (.int (0 : Int32))
theorem rmNxt10 (l : Launch) (Z : State) (a0 : Array Value) (hw : own_H Z a0) (ws : List Jvm.Cond) (it : Addr) (al : Addr) (ed : Addr) (ke : ClassId) (x1 : Addr) (lr : Value) (h0 : Heap) (n0 : Nat) (Z0 : n0 ≤ h0.size) (E_it : fE8 Z h0 it) (F_this_0_it : fF25 Z h0 it (.ref al)) (F_cursor_it : fF26 Z h0 it (.int (0 : Int32))) (F_expectedModCount_it : fF27 Z h0 it (.int (1 : Int32))) (F_lastRet_it : fF28 Z h0 it lr) (g_it : n0 ≤ it) (E_al : fE2 Z h0 al) (F_modCount_al : fF5 Z h0 al (.int (1 : Int32))) (F_size_al : fF6 Z h0 al (.int (1 : Int32))) (F_elementData_al : fF7 Z h0 al (.ref ed)) (V_ed : Arv Z h0 ed ke (.object "java/lang/Object") (10 : Int32) [(.ref x1), .null, .null, .null, .null, .null, .null, .null, .null, .null] .null) :
    own_Met l mN59 kC54 3 (some (.object "java/lang/Object")) ws (own_rm 1 0 0 12) Z h0 #[(.ref it)] (Q_rmNxt10 Z it al ed ke x1 lr h0 n0) := by
  refine own_met (plainFor_of_name pn_15) (fun m => ef_rmNxt10 m it) ?_
  intro p e s m below meth c s₁ Φ hΦ X0 hx hby hml hown hnm hret hlk hZ e0
  have B : own_B p c _ _ := ⟨hx, hby, hml⟩
  have K0 : Keep h0 h0 [it] := Keep.refl _ _
  have nz_it_ed : it ≠ ed := Exa.neArv E_it V_ed (wd_350 hw)
  show own_G p e below Φ s₁ (mkF m 0 #[vr it, .unset, .unset] [])
  refine o_aloadN X0 B d55_0 rfl rfl ?_
  refine o_cV (argsL := []) (rest := []) X0 B hZ hown (wd_384 hw) (wd_385 hw) (wd_387 hw) (wd_386 hw) (wd_388 hw) (wd_351 hw) (by decide) E_it 0 (rmChk l Z a0 hw [] it al (1 : Int32) h0 n0 Z0 E_it F_this_0_it F_expectedModCount_it E_al F_modCount_al) (by decide) (by decide) (lenOf pd_7 rfl) rfl rfl rfl d55_1 e0 (by decide) (by decide) rfl ?_
  rintro _ T1 _ X1 ⟨rfl, N1q, hs1⟩
  refine o_aloadN X1 B d55_4 rfl rfl ?_
  refine o_gf X1 B hZ hown (wd_373 hw) Via.refl hs1 F_cursor_it d55_5 ?_
  intro T2 X2 e2
  refine o_istoreN (L' := #[vr it, vi 0, .unset]) X2 B d55_8 rfl ?_
  refine o_iloadN X2 B d55_9 rfl ?_
  refine o_aloadN X2 B d55_10 rfl rfl ?_
  refine o_gf X2 B hZ hown (wd_356 hw) Via.refl e2 F_this_0_it d55_11 ?_
  intro T3 X3 e3
  refine o_gfN X3 B hZ hown (wd_375 hw) Via.refl e3 F_size_al d55_14 ?_
  intro T4 X4 e4
  refine o_icY X4 B 28 d55_17 (XT.ii_lt_t (by decide : ((0 : Int32) < (1 : Int32)))) rfl ?_
  refine o_aloadN X4 B d55_28 rfl rfl ?_
  refine o_gf X4 B hZ hown (wd_356 hw) Via.refl e4 F_this_0_it d55_29 ?_
  intro T5 X5 e5
  refine o_gf X5 B hZ hown (wd_389 hw) Via.refl e5 F_elementData_al d55_32 ?_
  intro T6 X6 e6
  refine o_astoreN (L' := #[vr it, vi 0, vr ed]) X6 B d55_35 rfl rfl ?_
  refine o_iloadN X6 B d55_36 rfl ?_
  refine o_aloadN X6 B d55_37 rfl rfl ?_
  refine o_len X6 B hZ e6 V_ed d55_38 ?_
  refine o_icY X6 B 50 d55_39 (XT.ii_lt_t (by decide : ((0 : Int32) < (10 : Int32)))) rfl ?_
  refine o_aloadN X6 B d55_50 rfl rfl ?_
  refine o_iloadN X6 B d55_51 rfl ?_
  show own_G p e below Φ T6 (mkF m 52 #[vr it, vi 0, vr ed] [(.int (0 : Int32)), (.ref it)])
  refine o_iconst X6 B d55_52 ?_
  refine o_iadd X6 B d55_53 ?_
  refine o_pf (ty := .int) X6 B hZ hown (wd_373 hw) Via.refl e6 F_cursor_it E_it (Or.inl (wd_374 hw)) (wd_350 hw) (by decide) rfl rfl d55_54 ?_
  intro T7 h7 X7 e7 W7
  have K7 := K0.wr W7 (Or.inl (List.mem_of_getElem? (i := 0) rfl))
  have f7w := F_cursor_it.same W7
  refine o_aloadN X7 B d55_57 rfl rfl ?_
  refine o_aloadN X7 B d55_58 rfl rfl ?_
  refine o_iloadN X7 B d55_59 rfl ?_
  refine o_dupx1 X7 B d55_60 rfl rfl ?_
  have f_2 : fF28 Z h7 it lr := F_lastRet_it.other W7 (Or.inr (sl_71 hw))
  refine o_pf (ty := .int) X7 B hZ hown (wd_359 hw) Via.refl e7 f_2 (E_it.keep K7) (Or.inl (wd_360 hw)) (wd_350 hw) (by decide) rfl rfl d55_61 ?_
  intro T8 h8 X8 e8 W8
  have K8 := K7.wr W8 (Or.inl (List.mem_of_getElem? (i := 0) rfl))
  have f8w := f_2.same W8
  refine o_aal (v := (.ref x1)) X8 B hZ e8 (V_ed.keep K8 (ninS (Ne.symm nz_it_ed) nin0)) rfl ⟨by decide, by decide⟩ rfl d55_64 ?_
  have f_5 : fF25 Z h7 it (.ref al) := F_this_0_it.other W7 (Or.inr (sl_72 hw))
  have f_6 : fF25 Z h8 it (.ref al) := f_5.other W8 (Or.inr (sl_63 hw))
  have f_7 : fF26 Z h8 it (.int (1 : Int32)) := f7w.other W8 (Or.inr (sl_68 hw))
  have f_8 : fF27 Z h7 it (.int (1 : Int32)) := F_expectedModCount_it.other W7 (Or.inr (sl_73 hw))
  have f_9 : fF27 Z h8 it (.int (1 : Int32)) := f_8.other W8 (Or.inr (sl_65 hw))
  exact o_rA X8 B hΦ hlk hret rfl rfl d55_65 e8 (by decide) (by decide) ⟨rfl, (Fr.snoc X8 (Fr.snoc X7 (Fr.app (Fr.nil n0) N1q) g_it) g_it), K8, (E_it.keep K8), f_6, f_7, f_9, f8w⟩
theorem ef_rmNxt20 (m : MethodId) (it : Addr) : entryFrame m #[(.ref it)] 3 = mkF m 0 #[vr it, .unset, .unset] [] := by first | (simp [entryFrame, mkF, argsToLocals, Value.category]; done) | rfl
def Q_rmNxt20 (Z : State) (it : Addr) (al : Addr) (ed : Addr) (ke : ClassId) (x1 : Addr) (lr : Value) (x2 : Addr) (h0 : Heap) (n0 : Nat) (v : Option Value) (h : Heap) (L : List Loc) : Prop := v = some (.ref x1) ∧ Fr n0 L ∧ Keep h0 h [it] ∧ fE8 Z h it ∧ fF25 Z h it (.ref al) ∧ fF26 Z h it (.int (1 : Int32)) ∧ fF27 Z h it (.int (2 : Int32)) ∧ fF28 Z h it (.int (0 : Int32))
theorem rmNxt20 (l : Launch) (Z : State) (a0 : Array Value) (hw : own_H Z a0) (ws : List Jvm.Cond) (it : Addr) (al : Addr) (ed : Addr) (ke : ClassId) (x1 : Addr) (lr : Value) (x2 : Addr) (h0 : Heap) (n0 : Nat) (Z0 : n0 ≤ h0.size) (E_it : fE8 Z h0 it) (F_this_0_it : fF25 Z h0 it (.ref al)) (F_cursor_it : fF26 Z h0 it (.int (0 : Int32))) (F_expectedModCount_it : fF27 Z h0 it (.int (2 : Int32))) (F_lastRet_it : fF28 Z h0 it lr) (g_it : n0 ≤ it) (E_al : fE2 Z h0 al) (F_modCount_al : fF5 Z h0 al (.int (2 : Int32))) (F_size_al : fF6 Z h0 al (.int (2 : Int32))) (F_elementData_al : fF7 Z h0 al (.ref ed)) (V_ed : Arv Z h0 ed ke (.object "java/lang/Object") (10 : Int32) [(.ref x1), (.ref x2), .null, .null, .null, .null, .null, .null, .null, .null] .null) :
    own_Met l mN59 kC54 3 (some (.object "java/lang/Object")) ws (own_rm 1 0 0 12) Z h0 #[(.ref it)] (Q_rmNxt20 Z it al ed ke x1 lr x2 h0 n0) := by
  refine own_met (plainFor_of_name pn_15) (fun m => ef_rmNxt20 m it) ?_
  intro p e s m below meth c s₁ Φ hΦ X0 hx hby hml hown hnm hret hlk hZ e0
  have B : own_B p c _ _ := ⟨hx, hby, hml⟩
  have K0 : Keep h0 h0 [it] := Keep.refl _ _
  have nz_it_ed : it ≠ ed := Exa.neArv E_it V_ed (wd_350 hw)
  show own_G p e below Φ s₁ (mkF m 0 #[vr it, .unset, .unset] [])
  refine o_aloadN X0 B d55_0 rfl rfl ?_
  refine o_cV (argsL := []) (rest := []) X0 B hZ hown (wd_384 hw) (wd_385 hw) (wd_387 hw) (wd_386 hw) (wd_388 hw) (wd_351 hw) (by decide) E_it 0 (rmChk l Z a0 hw [] it al (2 : Int32) h0 n0 Z0 E_it F_this_0_it F_expectedModCount_it E_al F_modCount_al) (by decide) (by decide) (lenOf pd_7 rfl) rfl rfl rfl d55_1 e0 (by decide) (by decide) rfl ?_
  rintro _ T1 _ X1 ⟨rfl, N1q, hs1⟩
  refine o_aloadN X1 B d55_4 rfl rfl ?_
  refine o_gf X1 B hZ hown (wd_373 hw) Via.refl hs1 F_cursor_it d55_5 ?_
  intro T2 X2 e2
  refine o_istoreN (L' := #[vr it, vi 0, .unset]) X2 B d55_8 rfl ?_
  refine o_iloadN X2 B d55_9 rfl ?_
  refine o_aloadN X2 B d55_10 rfl rfl ?_
  refine o_gf X2 B hZ hown (wd_356 hw) Via.refl e2 F_this_0_it d55_11 ?_
  intro T3 X3 e3
  refine o_gfN X3 B hZ hown (wd_375 hw) Via.refl e3 F_size_al d55_14 ?_
  intro T4 X4 e4
  refine o_icY X4 B 28 d55_17 (XT.ii_lt_t (by decide : ((0 : Int32) < (2 : Int32)))) rfl ?_
  refine o_aloadN X4 B d55_28 rfl rfl ?_
  refine o_gf X4 B hZ hown (wd_356 hw) Via.refl e4 F_this_0_it d55_29 ?_
  intro T5 X5 e5
  refine o_gf X5 B hZ hown (wd_389 hw) Via.refl e5 F_elementData_al d55_32 ?_
  intro T6 X6 e6
  refine o_astoreN (L' := #[vr it, vi 0, vr ed]) X6 B d55_35 rfl rfl ?_
  refine o_iloadN X6 B d55_36 rfl ?_
  refine o_aloadN X6 B d55_37 rfl rfl ?_
  refine o_len X6 B hZ e6 V_ed d55_38 ?_
  refine o_icY X6 B 50 d55_39 (XT.ii_lt_t (by decide : ((0 : Int32) < (10 : Int32)))) rfl ?_
  refine o_aloadN X6 B d55_50 rfl rfl ?_
  refine o_iloadN X6 B d55_51 rfl ?_
  show own_G p e below Φ T6 (mkF m 52 #[vr it, vi 0, vr ed] [(.int (0 : Int32)), (.ref it)])
  refine o_iconst X6 B d55_52 ?_
  refine o_iadd X6 B d55_53 ?_
  refine o_pf (ty := .int) X6 B hZ hown (wd_373 hw) Via.refl e6 F_cursor_it E_it (Or.inl (wd_374 hw)) (wd_350 hw) (by decide) rfl rfl d55_54 ?_
  intro T7 h7 X7 e7 W7
  have K7 := K0.wr W7 (Or.inl (List.mem_of_getElem? (i := 0) rfl))
  have f7w := F_cursor_it.same W7
  refine o_aloadN X7 B d55_57 rfl rfl ?_
  refine o_aloadN X7 B d55_58 rfl rfl ?_
  refine o_iloadN X7 B d55_59 rfl ?_
  refine o_dupx1 X7 B d55_60 rfl rfl ?_
  have f_2 : fF28 Z h7 it lr := F_lastRet_it.other W7 (Or.inr (sl_71 hw))
  refine o_pf (ty := .int) X7 B hZ hown (wd_359 hw) Via.refl e7 f_2 (E_it.keep K7) (Or.inl (wd_360 hw)) (wd_350 hw) (by decide) rfl rfl d55_61 ?_
  intro T8 h8 X8 e8 W8
  have K8 := K7.wr W8 (Or.inl (List.mem_of_getElem? (i := 0) rfl))
  have f8w := f_2.same W8
  refine o_aal (v := (.ref x1)) X8 B hZ e8 (V_ed.keep K8 (ninS (Ne.symm nz_it_ed) nin0)) rfl ⟨by decide, by decide⟩ rfl d55_64 ?_
  have f_5 : fF25 Z h7 it (.ref al) := F_this_0_it.other W7 (Or.inr (sl_72 hw))
  have f_6 : fF25 Z h8 it (.ref al) := f_5.other W8 (Or.inr (sl_63 hw))
  have f_7 : fF26 Z h8 it (.int (1 : Int32)) := f7w.other W8 (Or.inr (sl_68 hw))
  have f_8 : fF27 Z h7 it (.int (2 : Int32)) := F_expectedModCount_it.other W7 (Or.inr (sl_73 hw))
  have f_9 : fF27 Z h8 it (.int (2 : Int32)) := f_8.other W8 (Or.inr (sl_65 hw))
  exact o_rA X8 B hΦ hlk hret rfl rfl d55_65 e8 (by decide) (by decide) ⟨rfl, (Fr.snoc X8 (Fr.snoc X7 (Fr.app (Fr.nil n0) N1q) g_it) g_it), K8, (E_it.keep K8), f_6, f_7, f_9, f8w⟩
theorem ef_rmNxt21 (m : MethodId) (it : Addr) : entryFrame m #[(.ref it)] 3 = mkF m 0 #[vr it, .unset, .unset] [] := by first | (simp [entryFrame, mkF, argsToLocals, Value.category]; done) | rfl
def Q_rmNxt21 (Z : State) (it : Addr) (al : Addr) (ed : Addr) (ke : ClassId) (x1 : Addr) (lr : Value) (x2 : Addr) (h0 : Heap) (n0 : Nat) (v : Option Value) (h : Heap) (L : List Loc) : Prop := v = some (.ref x2) ∧ Fr n0 L ∧ Keep h0 h [it] ∧ fE8 Z h it ∧ fF25 Z h it (.ref al) ∧ fF26 Z h it (.int (2 : Int32)) ∧ fF27 Z h it (.int (2 : Int32)) ∧ fF28 Z h it (.int (1 : Int32))
theorem rmNxt21 (l : Launch) (Z : State) (a0 : Array Value) (hw : own_H Z a0) (ws : List Jvm.Cond) (it : Addr) (al : Addr) (ed : Addr) (ke : ClassId) (x1 : Addr) (lr : Value) (x2 : Addr) (h0 : Heap) (n0 : Nat) (Z0 : n0 ≤ h0.size) (E_it : fE8 Z h0 it) (F_this_0_it : fF25 Z h0 it (.ref al)) (F_cursor_it : fF26 Z h0 it (.int (1 : Int32))) (F_expectedModCount_it : fF27 Z h0 it (.int (2 : Int32))) (F_lastRet_it : fF28 Z h0 it lr) (g_it : n0 ≤ it) (E_al : fE2 Z h0 al) (F_modCount_al : fF5 Z h0 al (.int (2 : Int32))) (F_size_al : fF6 Z h0 al (.int (2 : Int32))) (F_elementData_al : fF7 Z h0 al (.ref ed)) (V_ed : Arv Z h0 ed ke (.object "java/lang/Object") (10 : Int32) [(.ref x1), (.ref x2), .null, .null, .null, .null, .null, .null, .null, .null] .null) :
    own_Met l mN59 kC54 3 (some (.object "java/lang/Object")) ws (own_rm 1 0 0 12) Z h0 #[(.ref it)] (Q_rmNxt21 Z it al ed ke x1 lr x2 h0 n0) := by
  refine own_met (plainFor_of_name pn_15) (fun m => ef_rmNxt21 m it) ?_
  intro p e s m below meth c s₁ Φ hΦ X0 hx hby hml hown hnm hret hlk hZ e0
  have B : own_B p c _ _ := ⟨hx, hby, hml⟩
  have K0 : Keep h0 h0 [it] := Keep.refl _ _
  have nz_it_ed : it ≠ ed := Exa.neArv E_it V_ed (wd_350 hw)
  show own_G p e below Φ s₁ (mkF m 0 #[vr it, .unset, .unset] [])
  refine o_aloadN X0 B d55_0 rfl rfl ?_
  refine o_cV (argsL := []) (rest := []) X0 B hZ hown (wd_384 hw) (wd_385 hw) (wd_387 hw) (wd_386 hw) (wd_388 hw) (wd_351 hw) (by decide) E_it 0 (rmChk l Z a0 hw [] it al (2 : Int32) h0 n0 Z0 E_it F_this_0_it F_expectedModCount_it E_al F_modCount_al) (by decide) (by decide) (lenOf pd_7 rfl) rfl rfl rfl d55_1 e0 (by decide) (by decide) rfl ?_
  rintro _ T1 _ X1 ⟨rfl, N1q, hs1⟩
  refine o_aloadN X1 B d55_4 rfl rfl ?_
  refine o_gf X1 B hZ hown (wd_373 hw) Via.refl hs1 F_cursor_it d55_5 ?_
  intro T2 X2 e2
  refine o_istoreN (L' := #[vr it, vi 1, .unset]) X2 B d55_8 rfl ?_
  refine o_iloadN X2 B d55_9 rfl ?_
  refine o_aloadN X2 B d55_10 rfl rfl ?_
  refine o_gf X2 B hZ hown (wd_356 hw) Via.refl e2 F_this_0_it d55_11 ?_
  intro T3 X3 e3
  refine o_gfN X3 B hZ hown (wd_375 hw) Via.refl e3 F_size_al d55_14 ?_
  intro T4 X4 e4
  refine o_icY X4 B 28 d55_17 (XT.ii_lt_t (by decide : ((1 : Int32) < (2 : Int32)))) rfl ?_
  refine o_aloadN X4 B d55_28 rfl rfl ?_
  refine o_gf X4 B hZ hown (wd_356 hw) Via.refl e4 F_this_0_it d55_29 ?_
  intro T5 X5 e5
  refine o_gf X5 B hZ hown (wd_389 hw) Via.refl e5 F_elementData_al d55_32 ?_
  intro T6 X6 e6
  refine o_astoreN (L' := #[vr it, vi 1, vr ed]) X6 B d55_35 rfl rfl ?_
  refine o_iloadN X6 B d55_36 rfl ?_
  refine o_aloadN X6 B d55_37 rfl rfl ?_
  refine o_len X6 B hZ e6 V_ed d55_38 ?_
  refine o_icY X6 B 50 d55_39 (XT.ii_lt_t (by decide : ((1 : Int32) < (10 : Int32)))) rfl ?_
  refine o_aloadN X6 B d55_50 rfl rfl ?_
  refine o_iloadN X6 B d55_51 rfl ?_
  show own_G p e below Φ T6 (mkF m 52 #[vr it, vi 1, vr ed] [(.int (1 : Int32)), (.ref it)])
  refine o_iconst X6 B d55_52 ?_
  refine o_iadd X6 B d55_53 ?_
  refine o_pf (ty := .int) X6 B hZ hown (wd_373 hw) Via.refl e6 F_cursor_it E_it (Or.inl (wd_374 hw)) (wd_350 hw) (by decide) rfl rfl d55_54 ?_
  intro T7 h7 X7 e7 W7
  have K7 := K0.wr W7 (Or.inl (List.mem_of_getElem? (i := 0) rfl))
  have f7w := F_cursor_it.same W7
  refine o_aloadN X7 B d55_57 rfl rfl ?_
  refine o_aloadN X7 B d55_58 rfl rfl ?_
  refine o_iloadN X7 B d55_59 rfl ?_
  refine o_dupx1 X7 B d55_60 rfl rfl ?_
  have f_2 : fF28 Z h7 it lr := F_lastRet_it.other W7 (Or.inr (sl_71 hw))
  refine o_pf (ty := .int) X7 B hZ hown (wd_359 hw) Via.refl e7 f_2 (E_it.keep K7) (Or.inl (wd_360 hw)) (wd_350 hw) (by decide) rfl rfl d55_61 ?_
  intro T8 h8 X8 e8 W8
  have K8 := K7.wr W8 (Or.inl (List.mem_of_getElem? (i := 0) rfl))
  have f8w := f_2.same W8
  refine o_aal (v := (.ref x2)) X8 B hZ e8 (V_ed.keep K8 (ninS (Ne.symm nz_it_ed) nin0)) rfl ⟨by decide, by decide⟩ rfl d55_64 ?_
  have f_5 : fF25 Z h7 it (.ref al) := F_this_0_it.other W7 (Or.inr (sl_72 hw))
  have f_6 : fF25 Z h8 it (.ref al) := f_5.other W8 (Or.inr (sl_63 hw))
  have f_7 : fF26 Z h8 it (.int (2 : Int32)) := f7w.other W8 (Or.inr (sl_68 hw))
  have f_8 : fF27 Z h7 it (.int (2 : Int32)) := F_expectedModCount_it.other W7 (Or.inr (sl_73 hw))
  have f_9 : fF27 Z h8 it (.int (2 : Int32)) := f_8.other W8 (Or.inr (sl_65 hw))
  exact o_rA X8 B hΦ hlk hret rfl rfl d55_65 e8 (by decide) (by decide) ⟨rfl, (Fr.snoc X8 (Fr.snoc X7 (Fr.app (Fr.nil n0) N1q) g_it) g_it), K8, (E_it.keep K8), f_6, f_7, f_9, f8w⟩
theorem d49_0 : dK kC55 0 (.aload_n 0) 1 := by decide +kernel
theorem d49_1 : dK kC55 1 (.aload_n 1) 1 := by decide +kernel
theorem d49_2 : dK kC55 2 (.invokevirtual 182) 3 := by decide +kernel
theorem pd_32 : parseMethodDescriptor "(Ljava/lang/String;)Ljava/util/List;" = some ⟨[(.object "java/lang/String")], some (.object "java/util/List")⟩ := by decide +kernel
theorem d49_5 : dK kC55 5 (.invokeinterface 61 1) 5 := by decide +kernel
theorem pd_33 : parseMethodDescriptor "()Ljava/util/Iterator;" = some ⟨[], some (.object "java/util/Iterator")⟩ := by decide +kernel
theorem d49_10 : dK kC55 10 (.astore_n 3) 1 := by decide +kernel
theorem d49_11 : dK kC55 11 (.aload_n 3) 1 := by decide +kernel
theorem d49_12 : dK kC55 12 (.invokeinterface 35 1) 5 := by decide +kernel
theorem d49_17 : dK kC55 17 (.ifCond .eq 32) 3 := by decide +kernel
theorem d49_20 : dK kC55 20 (.aload_n 3) 1 := by decide +kernel
theorem d49_21 : dK kC55 21 (.invokeinterface 41 1) 5 := by decide +kernel
theorem pd_34 : parseMethodDescriptor "()Ljava/lang/Object;" = some ⟨[], some (.object "java/lang/Object")⟩ := by decide +kernel
theorem d49_26 : dK kC55 26 (.checkcast 64) 3 := by decide +kernel
theorem d49_29 : dK kC55 29 (.astore 4) 2 := by decide +kernel
theorem d49_31 : dK kC55 31 (.aload 4) 2 := by decide +kernel
theorem d49_33 : dK kC55 33 (.invokevirtual 66) 3 := by decide +kernel
theorem pd_35 : parseMethodDescriptor "()Ljava/lang/String;" = some ⟨[], some (.object "java/lang/String")⟩ := by decide +kernel
theorem d49_36 : dK kC55 36 (.aload_n 2) 1 := by decide +kernel
theorem d49_37 : dK kC55 37 (.invokevirtual 186) 3 := by decide +kernel
theorem d49_40 : dK kC55 40 (.ifCond .eq 6) 3 := by decide +kernel
theorem d49_46 : dK kC55 46 (.goto (-35)) 3 := by decide +kernel
theorem d49_49 : dK kC55 49 .aconst_null 1 := by decide +kernel
theorem d49_50 : dK kC55 50 .areturn 1 := by decide +kernel
theorem ef_rmLst1 (m : MethodId) (ct : Addr) (a1 : Addr) (nN : Addr) : entryFrame m #[(.ref ct), (.ref a1), (.ref nN)] 5 = mkF m 0 #[vr ct, vr a1, vr nN, .unset, .unset] [] := by first | (simp [entryFrame, mkF, argsToLocals, Value.category]; done) | rfl
def Q_rmLst1 (Z : State) (ct : Addr) (am : Addr) (hm : Addr) (tab : Addr) (kt : ClassId) (nd : Addr) (tv : Value) (ec : Int32) (ks : Addr) (vk : Addr) (kvk : ClassId) (a1 : Addr) (gz : Int32) (va : Addr) (kva : ClassId) (qc : Int32) (hv : Int32) (zv : Int32) (tb : Addr) (dr : Int64) (al : Addr) (kn : Addr) (ed : Addr) (ke : ClassId) (x1 : Addr) (nA : Addr) (uA : Addr) (kA : ClassId) (LA : List Int32) (nN : Addr) (uN : Addr) (kN : ClassId) (nz : Int32) (LN : List Int32) (h0 : Heap) (n0 : Nat) (v : Option Value) (h : Heap) (L : List Loc) : Prop := ∃ hv2 : Int32, ∃ zv2 : Int32, v = some .null ∧ Fr n0 L ∧ Keep h0 h [a1] ∧ fE1 Z h a1 ∧ fF1 Z h a1 (.ref va) ∧ fF2 Z h a1 (.int (0 : Int32)) ∧ fF3 Z h a1 (.int hv2) ∧ fF4 Z h a1 (.int zv2) ∧ own_hc hv2 zv2 qc
theorem rmLst1 (l : Launch) (Z : State) (a0 : Array Value) (hw : own_H Z a0) (ws : List Jvm.Cond) (ct : Addr) (am : Addr) (hm : Addr) (tab : Addr) (kt : ClassId) (nd : Addr) (tv : Value) (ec : Int32) (ks : Addr) (vk : Addr) (kvk : ClassId) (a1 : Addr) (gz : Int32) (va : Addr) (kva : ClassId) (qc : Int32) (hv : Int32) (zv : Int32) (tb : Addr) (dr : Int64) (al : Addr) (kn : Addr) (ed : Addr) (ke : ClassId) (x1 : Addr) (nA : Addr) (uA : Addr) (kA : ClassId) (LA : List Int32) (nN : Addr) (uN : Addr) (kN : ClassId) (nz : Int32) (LN : List Int32) (h0 : Heap) (n0 : Nat) (Z0 : n0 ≤ h0.size) (E_ct : fE7 Z h0 ct) (F_answers_ct : fF24 Z h0 ct (.ref am)) (D_am : own_D Z h0 am hm) (ne_am_a1 : am ≠ a1) (O0 : Old Z n0 h0) (S_COMPACT_STRINGS : Sta Z Z.heap "java/lang/String" "COMPACT_STRINGS" "Z" (.int gz)) (hgz : ¬ gz = (0 : Int32)) (E_a1 : fE1 Z h0 a1) (F_value_a1 : fF1 Z h0 a1 (.ref va)) (F_coder_a1 : fF2 Z h0 a1 (.int (0 : Int32))) (V_va : Arv Z h0 va kva .byte (1 : Int32) [(.int (own_lo qc))] (.int (0 : Int32))) (F_hash_a1 : fF3 Z h0 a1 (.int hv)) (F_hashIsZero_a1 : fF4 Z h0 a1 (.int zv)) (g_a1 : n0 ≤ a1) (hr : ¬ qc < 0 ∧ ¬ (255 : Int32) < qc) (hi : own_hc hv zv qc) (E_hm : fE5 Z h0 hm) (F_table_hm : fF15 Z h0 hm (.ref tab)) (V_tab : Arv Z h0 tab kt (.object "java/util/HashMap$Node") (16 : Int32) (own_tl ec nd) .null) (E_nd : fE6 Z h0 nd) (F_hash_nd : fF20 Z h0 nd (.int ec)) (F_key_nd : fF21 Z h0 nd (.ref ks)) (F_value_nd : fF22 Z h0 nd tv) (F_next_nd : fF23 Z h0 nd .null) (E_ks : fE1 Z h0 ks) (F_value_ks : fF1 Z h0 ks (.ref vk)) (F_coder_ks : fF2 Z h0 ks (.int (0 : Int32))) (V_vk : Arv Z h0 vk kvk .byte (1 : Int32) [(.int (own_lo ec))] (.int (0 : Int32))) (ne_a1_ks : a1 ≠ ks) (htv : tv.isRef = true) (hgv : own_gv ec qc tv = .ref tb) (E_tb : fE4 Z h0 tb) (F_knowledge_tb : fF11 Z h0 tb (.ref kn)) (F_directory_tb : fF12 Z h0 tb (.long dr)) (F_tables_tb : fF13 Z h0 tb (.ref al)) (E_al : fE2 Z h0 al) (F_modCount_al : fF5 Z h0 al (.int (1 : Int32))) (F_size_al : fF6 Z h0 al (.int (1 : Int32))) (F_elementData_al : fF7 Z h0 al (.ref ed)) (V_ed : Arv Z h0 ed ke (.object "java/lang/Object") (10 : Int32) [(.ref x1), .null, .null, .null, .null, .null, .null, .null, .null, .null] .null) (E_nN : fE1 Z h0 nN) (F_coder_nN : fF2 Z h0 nN (.int (0 : Int32))) (F_value_nN : fF1 Z h0 nN (.ref uN)) (V_uN : Arv Z h0 uN kN .byte nz (own_vs LN) (.int (0 : Int32))) (hz3 : ¬ (3 : Int32) = nz) (E_x1 : fE3 Z h0 x1) (F_name_x1 : fF8 Z h0 x1 (.ref nA)) (E_nA : fE1 Z h0 nA) (F_coder_nA : fF2 Z h0 nA (.int (0 : Int32))) (F_value_nA : fF1 Z h0 nA (.ref uA)) (V_uA : Arv Z h0 uA kA .byte (3 : Int32) (own_vs LA) (.int (0 : Int32))) (ne_nA_nN : nA ≠ nN) (ne_a1_nA : a1 ≠ nA) (ne_a1_nN : a1 ≠ nN) :
    own_Met l mN63 kC55 5 (some (.object "com/example/brickwork/brickwork/wire/Protocol$Listed")) ws (own_rm 7 1 4 100) Z h0 #[(.ref ct), (.ref a1), (.ref nN)] (Q_rmLst1 Z ct am hm tab kt nd tv ec ks vk kvk a1 gz va kva qc hv zv tb dr al kn ed ke x1 nA uA kA LA nN uN kN nz LN h0 n0) := by
  refine own_met (plainFor_of_name pn_14) (fun m => ef_rmLst1 m ct a1 nN) ?_
  intro p e s m below meth c s₁ Φ hΦ X0 hx hby hml hown hnm hret hlk hZ e0
  have B : own_B p c _ _ := ⟨hx, hby, hml⟩
  have K0 : Keep h0 h0 [a1] := Keep.refl _ _
  have nz_al_a1 : al ≠ a1 := Exa.ne E_al E_a1 (by decide)
  have nz_a1_ed : a1 ≠ ed := Exa.neArv E_a1 V_ed (wd_2 hw)
  have nz_x1_a1 : x1 ≠ a1 := Exa.ne E_x1 E_a1 (by decide)
  have nz_a1_uA : a1 ≠ uA := Exa.neArv E_a1 V_uA (wd_2 hw)
  have nz_a1_uN : a1 ≠ uN := Exa.neArv E_a1 V_uN (wd_2 hw)
  show own_G p e below Φ s₁ (mkF m 0 #[vr ct, vr a1, vr nN, .unset, .unset] [])
  refine o_aloadN X0 B d49_0 rfl rfl ?_
  refine o_aloadN X0 B d49_1 rfl rfl ?_
  refine o_cV (argsL := [(.ref a1)]) (rest := []) X0 B hZ hown (wd_330 hw) (wd_331 hw) (wd_333 hw) (wd_332 hw) (wd_334 hw) (wd_224 hw) (by decide) E_ct 0 (rmLsd l Z a0 hw [] ct am hm tab kt nd tv ec ks vk kvk a1 gz va kva qc hv zv tb dr al kn h0 n0 Z0 E_ct F_answers_ct D_am ne_am_a1 O0 S_COMPACT_STRINGS hgz E_a1 F_value_a1 F_coder_a1 V_va F_hash_a1 F_hashIsZero_a1 g_a1 hr hi E_hm F_table_hm V_tab E_nd F_hash_nd F_key_nd F_value_nd F_next_nd E_ks F_value_ks F_coder_ks V_vk ne_a1_ks htv hgv E_tb F_knowledge_tb F_directory_tb F_tables_tb) (by decide) (by decide) (lenOf pd_32 rfl) rfl rfl rfl d49_2 e0 (by decide) (by decide) rfl ?_
  rintro _ T1 _ X1 ⟨hv2_1, zv2_1, rfl, N1q, Kq1, p1_0, p1_1, p1_2, p1_3, p1_4, p1_5⟩
  have K1 := K0.trans Kq1 (allS (Or.inl (List.mem_of_getElem? (i := 0) rfl)) all0)
  have Zp1 : n0 ≤ T1.heap.size := Nat.le_trans Z0 Kq1.1
  have f_1 := E_al.keep K1
  refine o_cF (argsL := []) (rest := []) X1 B hZ hown (wd_340 hw) (wd_341 hw) (wd_342 hw) (wd_343 hw) (wd_344 hw) (wd_345 hw) (wd_346 hw) (wd_347 hw) (wd_348 hw) (wd_46 hw) (by decide) f_1 0 (rmItr l Z a0 hw [] al (1 : Int32) T1.heap n0 Zp1 f_1 (F_modCount_al.keep K1 (ninS nz_al_a1 nin0))) (by decide) (by decide) (lenOf pd_33 rfl) rfl rfl rfl d49_5 rfl (by decide) (by decide) rfl ?_
  rintro _ T3 _ X3 ⟨it_3, ns_it_3, rfl, N3q, Kq3, p3_0, p3_1, p3_2, p3_3, p3_4⟩
  have ne_a1_it_3 : a1 ≠ it_3 := Nat.ne_of_lt (Nat.lt_of_lt_of_le p1_0.lt ns_it_3)
  have K3 := K1.trans Kq3 all0
  have g_it_3 : n0 ≤ it_3 := Nat.le_trans Zp1 ns_it_3
  have Zp3 : n0 ≤ T3.heap.size := Nat.le_trans Zp1 Kq3.1
  refine o_astoreN (L' := #[vr ct, vr a1, vr nN, vr it_3, .unset]) X3 B d49_10 rfl rfl ?_
  refine o_aloadN X3 B d49_11 rfl rfl ?_
  have f_3 := E_al.keep K3
  have f_4 := F_size_al.keep K3 (ninS nz_al_a1 nin0)
  refine o_cF (argsL := []) (rest := []) X3 B hZ hown (wd_364 hw) (wd_365 hw) (wd_366 hw) (wd_367 hw) (wd_368 hw) (wd_369 hw) (wd_370 hw) (wd_371 hw) (wd_372 hw) (wd_351 hw) (by decide) p3_0 0 (rmHnx1 l Z a0 hw [] it_3 al (0 : Int32) (1 : Int32) T3.heap n0 Zp3 p3_0 p3_1 p3_2 f_3 f_4 (by decide)) (by decide) (by decide) (lenOf pd_12 rfl) rfl rfl rfl d49_12 rfl (by decide) (by decide) rfl ?_
  rintro _ T5 _ X5 ⟨rfl, N5q, hs5⟩
  refine o_ifN X5 B d49_17 (XT.i0_eq_f (by decide : ¬ ((1 : Int32) = (0 : Int32)))) ?_
  refine o_aloadN X5 B d49_20 rfl rfl ?_
  refine o_cF (argsL := []) (rest := []) X5 B hZ hown (wd_376 hw) (wd_377 hw) (wd_378 hw) (wd_379 hw) (wd_380 hw) (wd_381 hw) (wd_382 hw) (wd_371 hw) (wd_383 hw) (wd_351 hw) (by decide) p3_0 0 (rmNxt10 l Z a0 hw [] it_3 al ed ke x1 (.int (-1 : Int32)) T3.heap n0 Zp3 p3_0 p3_1 p3_2 p3_3 p3_4 g_it_3 f_3 (F_modCount_al.keep K3 (ninS nz_al_a1 nin0)) f_4 (F_elementData_al.keep K3 (ninS nz_al_a1 nin0)) (V_ed.keep K3 (ninS (Ne.symm nz_a1_ed) nin0))) (by decide) (by decide) (lenOf pd_34 rfl) rfl rfl rfl d49_21 hs5 (by decide) (by decide) rfl ?_
  rintro _ T6 _ X6 ⟨rfl, N6q, Kq6, p6_0, p6_1, p6_2, p6_3, p6_4⟩
  have K6 := K3.trans Kq6 (allS (Or.inr (Nat.le_trans K1.1 ns_it_3)) all0)
  have Zp6 : n0 ≤ T6.heap.size := Nat.le_trans Zp3 Kq6.1
  have f_8 := E_x1.keep K6
  refine o_cast X6 B hZ hown (wd_390 hw) rfl (Ins.self f_8) d49_26 ?_
  intro T8 X8 e8
  refine o_astore (L' := #[vr ct, vr a1, vr nN, vr it_3, vr x1]) X8 B d49_29 rfl rfl ?_
  refine o_aload X8 B d49_31 rfl rfl ?_
  refine o_cV (argsL := []) (rest := []) X8 B hZ hown (wd_392 hw) (wd_393 hw) (wd_395 hw) (wd_394 hw) (wd_396 hw) (wd_70 hw) (by decide) f_8 0 (rmNam l Z a0 hw [] x1 nA T6.heap n0 Zp6 f_8 (F_name_x1.keep K6 (ninS nz_x1_a1 nin0))) (by decide) (by decide) (lenOf pd_35 rfl) rfl rfl rfl d49_33 e8 (by decide) (by decide) rfl ?_
  rintro _ T9 _ X9 ⟨rfl, N9q, hs9⟩
  refine o_aloadN X9 B d49_36 rfl rfl ?_
  have f_10 := E_nA.keep K6
  refine o_cV (argsL := [(.ref nN)]) (rest := []) X9 B hZ hown (wd_397 hw) (wd_398 hw) (wd_399 hw) (wd_302 hw) (wd_303 hw) (wd_3 hw) (by decide) f_10 0 (rmSeq_len l Z a0 hw [] nA gz uA kA nN uN kN (3 : Int32) nz LA LN T6.heap n0 Zp6 (((O0.keep Kq1 (allS g_a1 all0)).keep Kq3 all0).keep Kq6 (allS g_it_3 all0)) S_COMPACT_STRINGS hgz f_10 (F_coder_nA.keep K6 (ninS (Ne.symm ne_a1_nA) nin0)) (F_value_nA.keep K6 (ninS (Ne.symm ne_a1_nA) nin0)) (E_nN.keep K6) (F_coder_nN.keep K6 (ninS (Ne.symm ne_a1_nN) nin0)) (F_value_nN.keep K6 (ninS (Ne.symm ne_a1_nN) nin0)) (V_uA.keep K6 (ninS (Ne.symm nz_a1_uA) nin0)) (V_uN.keep K6 (ninS (Ne.symm nz_a1_uN) nin0)) ne_nA_nN hz3) (by decide) (by decide) (lenOf pd_24 rfl) rfl rfl rfl d49_37 hs9 (by decide) (by decide) rfl ?_
  rintro _ T10 _ X10 ⟨rfl, N10q, hs10⟩
  refine o_ifY X10 B 46 d49_40 (XT.i0_eq_t (by decide : ((0 : Int32) = (0 : Int32)))) rfl ?_
  refine o_goto X10 B 11 d49_46 rfl ?_
  refine o_aloadN X10 B d49_11 rfl rfl ?_
  refine o_cF (argsL := []) (rest := []) X10 B hZ hown (wd_364 hw) (wd_365 hw) (wd_366 hw) (wd_367 hw) (wd_368 hw) (wd_369 hw) (wd_370 hw) (wd_371 hw) (wd_372 hw) (wd_351 hw) (by decide) p6_0 0 (rmHnx0 l Z a0 hw [] it_3 al (1 : Int32) (1 : Int32) T6.heap n0 Zp6 p6_0 p6_1 p6_2 (E_al.keep K6) (F_size_al.keep K6 (ninS nz_al_a1 nin0)) rfl) (by decide) (by decide) (lenOf pd_12 rfl) rfl rfl rfl d49_12 hs10 (by decide) (by decide) rfl ?_
  rintro _ T11 _ X11 ⟨rfl, N11q, hs11⟩
  show own_G p e below Φ T11 (mkF m 17 #[vr ct, vr a1, vr nN, vr it_3, vr x1] [(.int (0 : Int32))])
  refine o_ifY X11 B 49 d49_17 (XT.i0_eq_t (by decide : ((0 : Int32) = (0 : Int32)))) rfl ?_
  refine o_anull X11 B d49_49 ?_
  exact o_rA X11 B hΦ hlk hret rfl rfl d49_50 hs11 (by decide) (by decide) ⟨hv2_1, zv2_1, rfl, (Fr.app (Fr.app (Fr.app (Fr.app (Fr.app (Fr.app (Fr.app (Fr.nil n0) N1q) N3q) N5q) N6q) N9q) N10q) N11q), K6, ((p1_0.keep Kq3).keep Kq6), ((p1_1.keep Kq3 nin0).keep Kq6 (ninS ne_a1_it_3 nin0)), ((p1_2.keep Kq3 nin0).keep Kq6 (ninS ne_a1_it_3 nin0)), ((p1_3.keep Kq3 nin0).keep Kq6 (ninS ne_a1_it_3 nin0)), ((p1_4.keep Kq3 nin0).keep Kq6 (ninS ne_a1_it_3 nin0)), p1_5⟩
theorem ef_rmLst2l (m : MethodId) (ct : Addr) (a1 : Addr) (nN : Addr) : entryFrame m #[(.ref ct), (.ref a1), (.ref nN)] 5 = mkF m 0 #[vr ct, vr a1, vr nN, .unset, .unset] [] := by first | (simp [entryFrame, mkF, argsToLocals, Value.category]; done) | rfl
def Q_rmLst2l (Z : State) (ct : Addr) (am : Addr) (hm : Addr) (tab : Addr) (kt : ClassId) (nd : Addr) (tv : Value) (ec : Int32) (ks : Addr) (vk : Addr) (kvk : ClassId) (a1 : Addr) (gz : Int32) (va : Addr) (kva : ClassId) (qc : Int32) (hv : Int32) (zv : Int32) (tb : Addr) (dr : Int64) (al : Addr) (kn : Addr) (ed : Addr) (ke : ClassId) (x1 : Addr) (nA : Addr) (uA : Addr) (kA : ClassId) (LA : List Int32) (nN : Addr) (uN : Addr) (kN : ClassId) (nz : Int32) (LN : List Int32) (x2 : Addr) (nB : Addr) (uB : Addr) (kB : ClassId) (x0 : Int32) (y0 : Int32) (h0 : Heap) (n0 : Nat) (v : Option Value) (h : Heap) (L : List Loc) : Prop := ∃ hv2 : Int32, ∃ zv2 : Int32, v = some .null ∧ Fr n0 L ∧ Keep h0 h [a1] ∧ fE1 Z h a1 ∧ fF1 Z h a1 (.ref va) ∧ fF2 Z h a1 (.int (0 : Int32)) ∧ fF3 Z h a1 (.int hv2) ∧ fF4 Z h a1 (.int zv2) ∧ own_hc hv2 zv2 qc
theorem rmLst2l (l : Launch) (Z : State) (a0 : Array Value) (hw : own_H Z a0) (ws : List Jvm.Cond) (ct : Addr) (am : Addr) (hm : Addr) (tab : Addr) (kt : ClassId) (nd : Addr) (tv : Value) (ec : Int32) (ks : Addr) (vk : Addr) (kvk : ClassId) (a1 : Addr) (gz : Int32) (va : Addr) (kva : ClassId) (qc : Int32) (hv : Int32) (zv : Int32) (tb : Addr) (dr : Int64) (al : Addr) (kn : Addr) (ed : Addr) (ke : ClassId) (x1 : Addr) (nA : Addr) (uA : Addr) (kA : ClassId) (LA : List Int32) (nN : Addr) (uN : Addr) (kN : ClassId) (nz : Int32) (LN : List Int32) (x2 : Addr) (nB : Addr) (uB : Addr) (kB : ClassId) (x0 : Int32) (y0 : Int32) (h0 : Heap) (n0 : Nat) (Z0 : n0 ≤ h0.size) (E_ct : fE7 Z h0 ct) (F_answers_ct : fF24 Z h0 ct (.ref am)) (D_am : own_D Z h0 am hm) (ne_am_a1 : am ≠ a1) (O0 : Old Z n0 h0) (S_COMPACT_STRINGS : Sta Z Z.heap "java/lang/String" "COMPACT_STRINGS" "Z" (.int gz)) (hgz : ¬ gz = (0 : Int32)) (E_a1 : fE1 Z h0 a1) (F_value_a1 : fF1 Z h0 a1 (.ref va)) (F_coder_a1 : fF2 Z h0 a1 (.int (0 : Int32))) (V_va : Arv Z h0 va kva .byte (1 : Int32) [(.int (own_lo qc))] (.int (0 : Int32))) (F_hash_a1 : fF3 Z h0 a1 (.int hv)) (F_hashIsZero_a1 : fF4 Z h0 a1 (.int zv)) (g_a1 : n0 ≤ a1) (hr : ¬ qc < 0 ∧ ¬ (255 : Int32) < qc) (hi : own_hc hv zv qc) (E_hm : fE5 Z h0 hm) (F_table_hm : fF15 Z h0 hm (.ref tab)) (V_tab : Arv Z h0 tab kt (.object "java/util/HashMap$Node") (16 : Int32) (own_tl ec nd) .null) (E_nd : fE6 Z h0 nd) (F_hash_nd : fF20 Z h0 nd (.int ec)) (F_key_nd : fF21 Z h0 nd (.ref ks)) (F_value_nd : fF22 Z h0 nd tv) (F_next_nd : fF23 Z h0 nd .null) (E_ks : fE1 Z h0 ks) (F_value_ks : fF1 Z h0 ks (.ref vk)) (F_coder_ks : fF2 Z h0 ks (.int (0 : Int32))) (V_vk : Arv Z h0 vk kvk .byte (1 : Int32) [(.int (own_lo ec))] (.int (0 : Int32))) (ne_a1_ks : a1 ≠ ks) (htv : tv.isRef = true) (hgv : own_gv ec qc tv = .ref tb) (E_tb : fE4 Z h0 tb) (F_knowledge_tb : fF11 Z h0 tb (.ref kn)) (F_directory_tb : fF12 Z h0 tb (.long dr)) (F_tables_tb : fF13 Z h0 tb (.ref al)) (E_al : fE2 Z h0 al) (F_modCount_al : fF5 Z h0 al (.int (2 : Int32))) (F_size_al : fF6 Z h0 al (.int (2 : Int32))) (F_elementData_al : fF7 Z h0 al (.ref ed)) (V_ed : Arv Z h0 ed ke (.object "java/lang/Object") (10 : Int32) [(.ref x1), (.ref x2), .null, .null, .null, .null, .null, .null, .null, .null] .null) (E_nN : fE1 Z h0 nN) (F_coder_nN : fF2 Z h0 nN (.int (0 : Int32))) (F_value_nN : fF1 Z h0 nN (.ref uN)) (V_uN : Arv Z h0 uN kN .byte nz (own_vs LN) (.int (0 : Int32))) (hz3 : ¬ (3 : Int32) = nz) (hz2 : ¬ (2 : Int32) = nz) (E_x1 : fE3 Z h0 x1) (F_name_x1 : fF8 Z h0 x1 (.ref nA)) (E_nA : fE1 Z h0 nA) (F_coder_nA : fF2 Z h0 nA (.int (0 : Int32))) (F_value_nA : fF1 Z h0 nA (.ref uA)) (V_uA : Arv Z h0 uA kA .byte (3 : Int32) (own_vs LA) (.int (0 : Int32))) (ne_nA_nN : nA ≠ nN) (ne_a1_nA : a1 ≠ nA) (ne_a1_nN : a1 ≠ nN) (E_x2 : fE3 Z h0 x2) (F_name_x2 : fF8 Z h0 x2 (.ref nB)) (E_nB : fE1 Z h0 nB) (F_coder_nB : fF2 Z h0 nB (.int (0 : Int32))) (F_value_nB : fF1 Z h0 nB (.ref uB)) (V_uB : Arv Z h0 uB kB .byte (2 : Int32) [(.int (own_lo x0)), (.int (own_lo y0))] (.int (0 : Int32))) (ne_nB_nN : nB ≠ nN) (ne_a1_nB : a1 ≠ nB) :
    own_Met l mN63 kC55 5 (some (.object "com/example/brickwork/brickwork/wire/Protocol$Listed")) ws (own_rm 7 1 4 100) Z h0 #[(.ref ct), (.ref a1), (.ref nN)] (Q_rmLst2l Z ct am hm tab kt nd tv ec ks vk kvk a1 gz va kva qc hv zv tb dr al kn ed ke x1 nA uA kA LA nN uN kN nz LN x2 nB uB kB x0 y0 h0 n0) := by
  refine own_met (plainFor_of_name pn_14) (fun m => ef_rmLst2l m ct a1 nN) ?_
  intro p e s m below meth c s₁ Φ hΦ X0 hx hby hml hown hnm hret hlk hZ e0
  have B : own_B p c _ _ := ⟨hx, hby, hml⟩
  have K0 : Keep h0 h0 [a1] := Keep.refl _ _
  have nz_al_a1 : al ≠ a1 := Exa.ne E_al E_a1 (by decide)
  have nz_a1_ed : a1 ≠ ed := Exa.neArv E_a1 V_ed (wd_2 hw)
  have nz_x1_a1 : x1 ≠ a1 := Exa.ne E_x1 E_a1 (by decide)
  have nz_a1_uA : a1 ≠ uA := Exa.neArv E_a1 V_uA (wd_2 hw)
  have nz_a1_uN : a1 ≠ uN := Exa.neArv E_a1 V_uN (wd_2 hw)
  have nz_x2_a1 : x2 ≠ a1 := Exa.ne E_x2 E_a1 (by decide)
  have nz_a1_uB : a1 ≠ uB := Exa.neArv E_a1 V_uB (wd_2 hw)
  show own_G p e below Φ s₁ (mkF m 0 #[vr ct, vr a1, vr nN, .unset, .unset] [])
  refine o_aloadN X0 B d49_0 rfl rfl ?_
  refine o_aloadN X0 B d49_1 rfl rfl ?_
  refine o_cV (argsL := [(.ref a1)]) (rest := []) X0 B hZ hown (wd_330 hw) (wd_331 hw) (wd_333 hw) (wd_332 hw) (wd_334 hw) (wd_224 hw) (by decide) E_ct 0 (rmLsd l Z a0 hw [] ct am hm tab kt nd tv ec ks vk kvk a1 gz va kva qc hv zv tb dr al kn h0 n0 Z0 E_ct F_answers_ct D_am ne_am_a1 O0 S_COMPACT_STRINGS hgz E_a1 F_value_a1 F_coder_a1 V_va F_hash_a1 F_hashIsZero_a1 g_a1 hr hi E_hm F_table_hm V_tab E_nd F_hash_nd F_key_nd F_value_nd F_next_nd E_ks F_value_ks F_coder_ks V_vk ne_a1_ks htv hgv E_tb F_knowledge_tb F_directory_tb F_tables_tb) (by decide) (by decide) (lenOf pd_32 rfl) rfl rfl rfl d49_2 e0 (by decide) (by decide) rfl ?_
  rintro _ T1 _ X1 ⟨hv2_1, zv2_1, rfl, N1q, Kq1, p1_0, p1_1, p1_2, p1_3, p1_4, p1_5⟩
  have K1 := K0.trans Kq1 (allS (Or.inl (List.mem_of_getElem? (i := 0) rfl)) all0)
  have Zp1 : n0 ≤ T1.heap.size := Nat.le_trans Z0 Kq1.1
  have f_1 := E_al.keep K1
  refine o_cF (argsL := []) (rest := []) X1 B hZ hown (wd_340 hw) (wd_341 hw) (wd_342 hw) (wd_343 hw) (wd_344 hw) (wd_345 hw) (wd_346 hw) (wd_347 hw) (wd_348 hw) (wd_46 hw) (by decide) f_1 0 (rmItr l Z a0 hw [] al (2 : Int32) T1.heap n0 Zp1 f_1 (F_modCount_al.keep K1 (ninS nz_al_a1 nin0))) (by decide) (by decide) (lenOf pd_33 rfl) rfl rfl rfl d49_5 rfl (by decide) (by decide) rfl ?_
  rintro _ T3 _ X3 ⟨it_3, ns_it_3, rfl, N3q, Kq3, p3_0, p3_1, p3_2, p3_3, p3_4⟩
  have ne_a1_it_3 : a1 ≠ it_3 := Nat.ne_of_lt (Nat.lt_of_lt_of_le p1_0.lt ns_it_3)
  have sz_it_3 : h0.size ≤ it_3 := Nat.le_trans K1.1 ns_it_3
  have K3 := K1.trans Kq3 all0
  have g_it_3 : n0 ≤ it_3 := Nat.le_trans Zp1 ns_it_3
  have Zp3 : n0 ≤ T3.heap.size := Nat.le_trans Zp1 Kq3.1
  refine o_astoreN (L' := #[vr ct, vr a1, vr nN, vr it_3, .unset]) X3 B d49_10 rfl rfl ?_
  refine o_aloadN X3 B d49_11 rfl rfl ?_
  have f_3 := E_al.keep K3
  have f_4 := F_size_al.keep K3 (ninS nz_al_a1 nin0)
  refine o_cF (argsL := []) (rest := []) X3 B hZ hown (wd_364 hw) (wd_365 hw) (wd_366 hw) (wd_367 hw) (wd_368 hw) (wd_369 hw) (wd_370 hw) (wd_371 hw) (wd_372 hw) (wd_351 hw) (by decide) p3_0 0 (rmHnx1 l Z a0 hw [] it_3 al (0 : Int32) (2 : Int32) T3.heap n0 Zp3 p3_0 p3_1 p3_2 f_3 f_4 (by decide)) (by decide) (by decide) (lenOf pd_12 rfl) rfl rfl rfl d49_12 rfl (by decide) (by decide) rfl ?_
  rintro _ T5 _ X5 ⟨rfl, N5q, hs5⟩
  refine o_ifN X5 B d49_17 (XT.i0_eq_f (by decide : ¬ ((1 : Int32) = (0 : Int32)))) ?_
  refine o_aloadN X5 B d49_20 rfl rfl ?_
  refine o_cF (argsL := []) (rest := []) X5 B hZ hown (wd_376 hw) (wd_377 hw) (wd_378 hw) (wd_379 hw) (wd_380 hw) (wd_381 hw) (wd_382 hw) (wd_371 hw) (wd_383 hw) (wd_351 hw) (by decide) p3_0 0 (rmNxt20 l Z a0 hw [] it_3 al ed ke x1 (.int (-1 : Int32)) x2 T3.heap n0 Zp3 p3_0 p3_1 p3_2 p3_3 p3_4 g_it_3 f_3 (F_modCount_al.keep K3 (ninS nz_al_a1 nin0)) f_4 (F_elementData_al.keep K3 (ninS nz_al_a1 nin0)) (V_ed.keep K3 (ninS (Ne.symm nz_a1_ed) nin0))) (by decide) (by decide) (lenOf pd_34 rfl) rfl rfl rfl d49_21 hs5 (by decide) (by decide) rfl ?_
  rintro _ T6 _ X6 ⟨rfl, N6q, Kq6, p6_0, p6_1, p6_2, p6_3, p6_4⟩
  have K6 := K3.trans Kq6 (allS (Or.inr sz_it_3) all0)
  have Zp6 : n0 ≤ T6.heap.size := Nat.le_trans Zp3 Kq6.1
  have O7 := ((O0.keep Kq1 (allS g_a1 all0)).keep Kq3 all0).keep Kq6 (allS g_it_3 all0)
  have f_8 := E_x1.keep K6
  refine o_cast X6 B hZ hown (wd_390 hw) rfl (Ins.self f_8) d49_26 ?_
  intro T8 X8 e8
  refine o_astore (L' := #[vr ct, vr a1, vr nN, vr it_3, vr x1]) X8 B d49_29 rfl rfl ?_
  refine o_aload X8 B d49_31 rfl rfl ?_
  refine o_cV (argsL := []) (rest := []) X8 B hZ hown (wd_392 hw) (wd_393 hw) (wd_395 hw) (wd_394 hw) (wd_396 hw) (wd_70 hw) (by decide) f_8 0 (rmNam l Z a0 hw [] x1 nA T6.heap n0 Zp6 f_8 (F_name_x1.keep K6 (ninS nz_x1_a1 nin0))) (by decide) (by decide) (lenOf pd_35 rfl) rfl rfl rfl d49_33 e8 (by decide) (by decide) rfl ?_
  rintro _ T9 _ X9 ⟨rfl, N9q, hs9⟩
  refine o_aloadN X9 B d49_36 rfl rfl ?_
  have f_10 := E_nA.keep K6
  refine o_cV (argsL := [(.ref nN)]) (rest := []) X9 B hZ hown (wd_397 hw) (wd_398 hw) (wd_399 hw) (wd_302 hw) (wd_303 hw) (wd_3 hw) (by decide) f_10 0 (rmSeq_len l Z a0 hw [] nA gz uA kA nN uN kN (3 : Int32) nz LA LN T6.heap n0 Zp6 O7 S_COMPACT_STRINGS hgz f_10 (F_coder_nA.keep K6 (ninS (Ne.symm ne_a1_nA) nin0)) (F_value_nA.keep K6 (ninS (Ne.symm ne_a1_nA) nin0)) (E_nN.keep K6) (F_coder_nN.keep K6 (ninS (Ne.symm ne_a1_nN) nin0)) (F_value_nN.keep K6 (ninS (Ne.symm ne_a1_nN) nin0)) (V_uA.keep K6 (ninS (Ne.symm nz_a1_uA) nin0)) (V_uN.keep K6 (ninS (Ne.symm nz_a1_uN) nin0)) ne_nA_nN hz3) (by decide) (by decide) (lenOf pd_24 rfl) rfl rfl rfl d49_37 hs9 (by decide) (by decide) rfl ?_
  rintro _ T10 _ X10 ⟨rfl, N10q, hs10⟩
  refine o_ifY X10 B 46 d49_40 (XT.i0_eq_t (by decide : ((0 : Int32) = (0 : Int32)))) rfl ?_
  refine o_goto X10 B 11 d49_46 rfl ?_
  refine o_aloadN X10 B d49_11 rfl rfl ?_
  have f_18 := E_al.keep K6
  have f_19 := F_size_al.keep K6 (ninS nz_al_a1 nin0)
  refine o_cF (argsL := []) (rest := []) X10 B hZ hown (wd_364 hw) (wd_365 hw) (wd_366 hw) (wd_367 hw) (wd_368 hw) (wd_369 hw) (wd_370 hw) (wd_371 hw) (wd_372 hw) (wd_351 hw) (by decide) p6_0 0 (rmHnx1 l Z a0 hw [] it_3 al (1 : Int32) (2 : Int32) T6.heap n0 Zp6 p6_0 p6_1 p6_2 f_18 f_19 (by decide)) (by decide) (by decide) (lenOf pd_12 rfl) rfl rfl rfl d49_12 hs10 (by decide) (by decide) rfl ?_
  rintro _ T11 _ X11 ⟨rfl, N11q, hs11⟩
  show own_G p e below Φ T11 (mkF m 17 #[vr ct, vr a1, vr nN, vr it_3, vr x1] [(.int (1 : Int32))])
  refine o_ifN X11 B d49_17 (XT.i0_eq_f (by decide : ¬ ((1 : Int32) = (0 : Int32)))) ?_
  refine o_aloadN X11 B d49_20 rfl rfl ?_
  refine o_cF (argsL := []) (rest := []) X11 B hZ hown (wd_376 hw) (wd_377 hw) (wd_378 hw) (wd_379 hw) (wd_380 hw) (wd_381 hw) (wd_382 hw) (wd_371 hw) (wd_383 hw) (wd_351 hw) (by decide) p6_0 0 (rmNxt21 l Z a0 hw [] it_3 al ed ke x1 (.int (0 : Int32)) x2 T6.heap n0 Zp6 p6_0 p6_1 p6_2 p6_3 p6_4 g_it_3 f_18 (F_modCount_al.keep K6 (ninS nz_al_a1 nin0)) f_19 (F_elementData_al.keep K6 (ninS nz_al_a1 nin0)) (V_ed.keep K6 (ninS (Ne.symm nz_a1_ed) nin0))) (by decide) (by decide) (lenOf pd_34 rfl) rfl rfl rfl d49_21 hs11 (by decide) (by decide) rfl ?_
  rintro _ T12 _ X12 ⟨rfl, N12q, Kq12, p12_0, p12_1, p12_2, p12_3, p12_4⟩
  have K12 := K6.trans Kq12 (allS (Or.inr sz_it_3) all0)
  have Zp12 : n0 ≤ T12.heap.size := Nat.le_trans Zp6 Kq12.1
  have f_23 := E_x2.keep K12
  refine o_cast X12 B hZ hown (wd_390 hw) rfl (Ins.self f_23) d49_26 ?_
  intro T14 X14 e14
  refine o_astore (L' := #[vr ct, vr a1, vr nN, vr it_3, vr x2]) X14 B d49_29 rfl rfl ?_
  refine o_aload X14 B d49_31 rfl rfl ?_
  refine o_cV (argsL := []) (rest := []) X14 B hZ hown (wd_392 hw) (wd_393 hw) (wd_395 hw) (wd_394 hw) (wd_396 hw) (wd_70 hw) (by decide) f_23 0 (rmNam l Z a0 hw [] x2 nB T12.heap n0 Zp12 f_23 (F_name_x2.keep K12 (ninS nz_x2_a1 nin0))) (by decide) (by decide) (lenOf pd_35 rfl) rfl rfl rfl d49_33 e14 (by decide) (by decide) rfl ?_
  rintro _ T15 _ X15 ⟨rfl, N15q, hs15⟩
  refine o_aloadN X15 B d49_36 rfl rfl ?_
  have f_25 := E_nB.keep K12
  refine o_cV (argsL := [(.ref nN)]) (rest := []) X15 B hZ hown (wd_397 hw) (wd_398 hw) (wd_399 hw) (wd_302 hw) (wd_303 hw) (wd_3 hw) (by decide) f_25 0 (rmSeq_len l Z a0 hw [] nB gz uB kB nN uN kN (2 : Int32) nz ([(own_lo x0), (own_lo y0)]) LN T12.heap n0 Zp12 (O7.keep Kq12 (allS g_it_3 all0)) S_COMPACT_STRINGS hgz f_25 (F_coder_nB.keep K12 (ninS (Ne.symm ne_a1_nB) nin0)) (F_value_nB.keep K12 (ninS (Ne.symm ne_a1_nB) nin0)) (E_nN.keep K12) (F_coder_nN.keep K12 (ninS (Ne.symm ne_a1_nN) nin0)) (F_value_nN.keep K12 (ninS (Ne.symm ne_a1_nN) nin0)) (V_uB.keep K12 (ninS (Ne.symm nz_a1_uB) nin0)) (V_uN.keep K12 (ninS (Ne.symm nz_a1_uN) nin0)) ne_nB_nN hz2) (by decide) (by decide) (lenOf pd_24 rfl) rfl rfl rfl d49_37 hs15 (by decide) (by decide) rfl ?_
  rintro _ T16 _ X16 ⟨rfl, N16q, hs16⟩
  refine o_ifY X16 B 46 d49_40 (XT.i0_eq_t (by decide : ((0 : Int32) = (0 : Int32)))) rfl ?_
  refine o_goto X16 B 11 d49_46 rfl ?_
  refine o_aloadN X16 B d49_11 rfl rfl ?_
  refine o_cF (argsL := []) (rest := []) X16 B hZ hown (wd_364 hw) (wd_365 hw) (wd_366 hw) (wd_367 hw) (wd_368 hw) (wd_369 hw) (wd_370 hw) (wd_371 hw) (wd_372 hw) (wd_351 hw) (by decide) p12_0 0 (rmHnx0 l Z a0 hw [] it_3 al (2 : Int32) (2 : Int32) T12.heap n0 Zp12 p12_0 p12_1 p12_2 (E_al.keep K12) (F_size_al.keep K12 (ninS nz_al_a1 nin0)) rfl) (by decide) (by decide) (lenOf pd_12 rfl) rfl rfl rfl d49_12 hs16 (by decide) (by decide) rfl ?_
  rintro _ T17 _ X17 ⟨rfl, N17q, hs17⟩
  refine o_ifY X17 B 49 d49_17 (XT.i0_eq_t (by decide : ((0 : Int32) = (0 : Int32)))) rfl ?_
  refine o_anull X17 B d49_49 ?_
  exact o_rA X17 B hΦ hlk hret rfl rfl d49_50 hs17 (by decide) (by decide) ⟨hv2_1, zv2_1, rfl, (Fr.app (Fr.app (Fr.app (Fr.app (Fr.app (Fr.app (Fr.app (Fr.app (Fr.app (Fr.app (Fr.app (Fr.nil n0) N1q) N3q) N5q) N6q) N9q) N10q) N11q) N12q) N15q) N16q) N17q), K12, (((p1_0.keep Kq3).keep Kq6).keep Kq12), (((p1_1.keep Kq3 nin0).keep Kq6 (ninS ne_a1_it_3 nin0)).keep Kq12 (ninS ne_a1_it_3 nin0)), (((p1_2.keep Kq3 nin0).keep Kq6 (ninS ne_a1_it_3 nin0)).keep Kq12 (ninS ne_a1_it_3 nin0)), (((p1_3.keep Kq3 nin0).keep Kq6 (ninS ne_a1_it_3 nin0)).keep Kq12 (ninS ne_a1_it_3 nin0)), (((p1_4.keep Kq3 nin0).keep Kq6 (ninS ne_a1_it_3 nin0)).keep Kq12 (ninS ne_a1_it_3 nin0)), p1_5⟩
theorem ef_rmLst2n (m : MethodId) (ct : Addr) (a1 : Addr) (nN : Addr) : entryFrame m #[(.ref ct), (.ref a1), (.ref nN)] 5 = mkF m 0 #[vr ct, vr a1, vr nN, .unset, .unset] [] := by first | (simp [entryFrame, mkF, argsToLocals, Value.category]; done) | rfl
def Q_rmLst2n (Z : State) (ct : Addr) (am : Addr) (hm : Addr) (tab : Addr) (kt : ClassId) (nd : Addr) (tv : Value) (ec : Int32) (ks : Addr) (vk : Addr) (kvk : ClassId) (a1 : Addr) (gz : Int32) (va : Addr) (kva : ClassId) (qc : Int32) (hv : Int32) (zv : Int32) (tb : Addr) (dr : Int64) (al : Addr) (kn : Addr) (ed : Addr) (ke : ClassId) (x1 : Addr) (nA : Addr) (uA : Addr) (kA : ClassId) (LA : List Int32) (nN : Addr) (uN : Addr) (kN : ClassId) (x2 : Addr) (nB : Addr) (uB : Addr) (kB : ClassId) (x0 : Int32) (y0 : Int32) (x3 : Int32) (y3 : Int32) (h0 : Heap) (n0 : Nat) (v : Option Value) (h : Heap) (L : List Loc) : Prop := ∃ hv2 : Int32, ∃ zv2 : Int32, v = some .null ∧ Fr n0 L ∧ Keep h0 h [a1] ∧ fE1 Z h a1 ∧ fF1 Z h a1 (.ref va) ∧ fF2 Z h a1 (.int (0 : Int32)) ∧ fF3 Z h a1 (.int hv2) ∧ fF4 Z h a1 (.int zv2) ∧ own_hc hv2 zv2 qc
theorem rmLst2n (l : Launch) (Z : State) (a0 : Array Value) (hw : own_H Z a0) (ws : List Jvm.Cond) (ct : Addr) (am : Addr) (hm : Addr) (tab : Addr) (kt : ClassId) (nd : Addr) (tv : Value) (ec : Int32) (ks : Addr) (vk : Addr) (kvk : ClassId) (a1 : Addr) (gz : Int32) (va : Addr) (kva : ClassId) (qc : Int32) (hv : Int32) (zv : Int32) (tb : Addr) (dr : Int64) (al : Addr) (kn : Addr) (ed : Addr) (ke : ClassId) (x1 : Addr) (nA : Addr) (uA : Addr) (kA : ClassId) (LA : List Int32) (nN : Addr) (uN : Addr) (kN : ClassId) (x2 : Addr) (nB : Addr) (uB : Addr) (kB : ClassId) (x0 : Int32) (y0 : Int32) (x3 : Int32) (y3 : Int32) (h0 : Heap) (n0 : Nat) (Z0 : n0 ≤ h0.size) (E_ct : fE7 Z h0 ct) (F_answers_ct : fF24 Z h0 ct (.ref am)) (D_am : own_D Z h0 am hm) (ne_am_a1 : am ≠ a1) (O0 : Old Z n0 h0) (S_COMPACT_STRINGS : Sta Z Z.heap "java/lang/String" "COMPACT_STRINGS" "Z" (.int gz)) (hgz : ¬ gz = (0 : Int32)) (E_a1 : fE1 Z h0 a1) (F_value_a1 : fF1 Z h0 a1 (.ref va)) (F_coder_a1 : fF2 Z h0 a1 (.int (0 : Int32))) (V_va : Arv Z h0 va kva .byte (1 : Int32) [(.int (own_lo qc))] (.int (0 : Int32))) (F_hash_a1 : fF3 Z h0 a1 (.int hv)) (F_hashIsZero_a1 : fF4 Z h0 a1 (.int zv)) (g_a1 : n0 ≤ a1) (hr : ¬ qc < 0 ∧ ¬ (255 : Int32) < qc) (hi : own_hc hv zv qc) (E_hm : fE5 Z h0 hm) (F_table_hm : fF15 Z h0 hm (.ref tab)) (V_tab : Arv Z h0 tab kt (.object "java/util/HashMap$Node") (16 : Int32) (own_tl ec nd) .null) (E_nd : fE6 Z h0 nd) (F_hash_nd : fF20 Z h0 nd (.int ec)) (F_key_nd : fF21 Z h0 nd (.ref ks)) (F_value_nd : fF22 Z h0 nd tv) (F_next_nd : fF23 Z h0 nd .null) (E_ks : fE1 Z h0 ks) (F_value_ks : fF1 Z h0 ks (.ref vk)) (F_coder_ks : fF2 Z h0 ks (.int (0 : Int32))) (V_vk : Arv Z h0 vk kvk .byte (1 : Int32) [(.int (own_lo ec))] (.int (0 : Int32))) (ne_a1_ks : a1 ≠ ks) (htv : tv.isRef = true) (hgv : own_gv ec qc tv = .ref tb) (E_tb : fE4 Z h0 tb) (F_knowledge_tb : fF11 Z h0 tb (.ref kn)) (F_directory_tb : fF12 Z h0 tb (.long dr)) (F_tables_tb : fF13 Z h0 tb (.ref al)) (E_al : fE2 Z h0 al) (F_modCount_al : fF5 Z h0 al (.int (2 : Int32))) (F_size_al : fF6 Z h0 al (.int (2 : Int32))) (F_elementData_al : fF7 Z h0 al (.ref ed)) (V_ed : Arv Z h0 ed ke (.object "java/lang/Object") (10 : Int32) [(.ref x1), (.ref x2), .null, .null, .null, .null, .null, .null, .null, .null] .null) (E_nN : fE1 Z h0 nN) (F_coder_nN : fF2 Z h0 nN (.int (0 : Int32))) (F_value_nN : fF1 Z h0 nN (.ref uN)) (V_uN : Arv Z h0 uN kN .byte (2 : Int32) [(.int (own_lo x3)), (.int (own_lo y3))] (.int (0 : Int32))) (E_x1 : fE3 Z h0 x1) (F_name_x1 : fF8 Z h0 x1 (.ref nA)) (E_nA : fE1 Z h0 nA) (F_coder_nA : fF2 Z h0 nA (.int (0 : Int32))) (F_value_nA : fF1 Z h0 nA (.ref uA)) (V_uA : Arv Z h0 uA kA .byte (3 : Int32) (own_vs LA) (.int (0 : Int32))) (ne_nA_nN : nA ≠ nN) (ne_a1_nA : a1 ≠ nA) (ne_a1_nN : a1 ≠ nN) (E_x2 : fE3 Z h0 x2) (F_name_x2 : fF8 Z h0 x2 (.ref nB)) (E_nB : fE1 Z h0 nB) (F_coder_nB : fF2 Z h0 nB (.int (0 : Int32))) (F_value_nB : fF1 Z h0 nB (.ref uB)) (V_uB : Arv Z h0 uB kB .byte (2 : Int32) [(.int (own_lo x0)), (.int (own_lo y0))] (.int (0 : Int32))) (ne_nB_nN : nB ≠ nN) (ne_a1_nB : a1 ≠ nB) (hne : ¬ (own_lo x0 = own_lo x3 ∧ own_lo y0 = own_lo y3)) :
    own_Met l mN63 kC55 5 (some (.object "com/example/brickwork/brickwork/wire/Protocol$Listed")) ws (own_rm 7 1 4 100) Z h0 #[(.ref ct), (.ref a1), (.ref nN)] (Q_rmLst2n Z ct am hm tab kt nd tv ec ks vk kvk a1 gz va kva qc hv zv tb dr al kn ed ke x1 nA uA kA LA nN uN kN x2 nB uB kB x0 y0 x3 y3 h0 n0) := by
  refine own_met (plainFor_of_name pn_14) (fun m => ef_rmLst2n m ct a1 nN) ?_
  intro p e s m below meth c s₁ Φ hΦ X0 hx hby hml hown hnm hret hlk hZ e0
  have B : own_B p c _ _ := ⟨hx, hby, hml⟩
  have K0 : Keep h0 h0 [a1] := Keep.refl _ _
  have nz_al_a1 : al ≠ a1 := Exa.ne E_al E_a1 (by decide)
  have nz_a1_ed : a1 ≠ ed := Exa.neArv E_a1 V_ed (wd_2 hw)
  have nz_x1_a1 : x1 ≠ a1 := Exa.ne E_x1 E_a1 (by decide)
  have nz_a1_uA : a1 ≠ uA := Exa.neArv E_a1 V_uA (wd_2 hw)
  have nz_a1_uN : a1 ≠ uN := Exa.neArv E_a1 V_uN (wd_2 hw)
  have nz_x2_a1 : x2 ≠ a1 := Exa.ne E_x2 E_a1 (by decide)
  have nz_a1_uB : a1 ≠ uB := Exa.neArv E_a1 V_uB (wd_2 hw)
  show own_G p e below Φ s₁ (mkF m 0 #[vr ct, vr a1, vr nN, .unset, .unset] [])
  refine o_aloadN X0 B d49_0 rfl rfl ?_
  refine o_aloadN X0 B d49_1 rfl rfl ?_
  refine o_cV (argsL := [(.ref a1)]) (rest := []) X0 B hZ hown (wd_330 hw) (wd_331 hw) (wd_333 hw) (wd_332 hw) (wd_334 hw) (wd_224 hw) (by decide) E_ct 0 (rmLsd l Z a0 hw [] ct am hm tab kt nd tv ec ks vk kvk a1 gz va kva qc hv zv tb dr al kn h0 n0 Z0 E_ct F_answers_ct D_am ne_am_a1 O0 S_COMPACT_STRINGS hgz E_a1 F_value_a1 F_coder_a1 V_va F_hash_a1 F_hashIsZero_a1 g_a1 hr hi E_hm F_table_hm V_tab E_nd F_hash_nd F_key_nd F_value_nd F_next_nd E_ks F_value_ks F_coder_ks V_vk ne_a1_ks htv hgv E_tb F_knowledge_tb F_directory_tb F_tables_tb) (by decide) (by decide) (lenOf pd_32 rfl) rfl rfl rfl d49_2 e0 (by decide) (by decide) rfl ?_
  rintro _ T1 _ X1 ⟨hv2_1, zv2_1, rfl, N1q, Kq1, p1_0, p1_1, p1_2, p1_3, p1_4, p1_5⟩
  have K1 := K0.trans Kq1 (allS (Or.inl (List.mem_of_getElem? (i := 0) rfl)) all0)
  have Zp1 : n0 ≤ T1.heap.size := Nat.le_trans Z0 Kq1.1
  have f_1 := E_al.keep K1
  refine o_cF (argsL := []) (rest := []) X1 B hZ hown (wd_340 hw) (wd_341 hw) (wd_342 hw) (wd_343 hw) (wd_344 hw) (wd_345 hw) (wd_346 hw) (wd_347 hw) (wd_348 hw) (wd_46 hw) (by decide) f_1 0 (rmItr l Z a0 hw [] al (2 : Int32) T1.heap n0 Zp1 f_1 (F_modCount_al.keep K1 (ninS nz_al_a1 nin0))) (by decide) (by decide) (lenOf pd_33 rfl) rfl rfl rfl d49_5 rfl (by decide) (by decide) rfl ?_
  rintro _ T3 _ X3 ⟨it_3, ns_it_3, rfl, N3q, Kq3, p3_0, p3_1, p3_2, p3_3, p3_4⟩
  have ne_a1_it_3 : a1 ≠ it_3 := Nat.ne_of_lt (Nat.lt_of_lt_of_le p1_0.lt ns_it_3)
  have sz_it_3 : h0.size ≤ it_3 := Nat.le_trans K1.1 ns_it_3
  have K3 := K1.trans Kq3 all0
  have g_it_3 : n0 ≤ it_3 := Nat.le_trans Zp1 ns_it_3
  have Zp3 : n0 ≤ T3.heap.size := Nat.le_trans Zp1 Kq3.1
  refine o_astoreN (L' := #[vr ct, vr a1, vr nN, vr it_3, .unset]) X3 B d49_10 rfl rfl ?_
  refine o_aloadN X3 B d49_11 rfl rfl ?_
  have f_3 := E_al.keep K3
  have f_4 := F_size_al.keep K3 (ninS nz_al_a1 nin0)
  refine o_cF (argsL := []) (rest := []) X3 B hZ hown (wd_364 hw) (wd_365 hw) (wd_366 hw) (wd_367 hw) (wd_368 hw) (wd_369 hw) (wd_370 hw) (wd_371 hw) (wd_372 hw) (wd_351 hw) (by decide) p3_0 0 (rmHnx1 l Z a0 hw [] it_3 al (0 : Int32) (2 : Int32) T3.heap n0 Zp3 p3_0 p3_1 p3_2 f_3 f_4 (by decide)) (by decide) (by decide) (lenOf pd_12 rfl) rfl rfl rfl d49_12 rfl (by decide) (by decide) rfl ?_
  rintro _ T5 _ X5 ⟨rfl, N5q, hs5⟩
  refine o_ifN X5 B d49_17 (XT.i0_eq_f (by decide : ¬ ((1 : Int32) = (0 : Int32)))) ?_
  refine o_aloadN X5 B d49_20 rfl rfl ?_
  refine o_cF (argsL := []) (rest := []) X5 B hZ hown (wd_376 hw) (wd_377 hw) (wd_378 hw) (wd_379 hw) (wd_380 hw) (wd_381 hw) (wd_382 hw) (wd_371 hw) (wd_383 hw) (wd_351 hw) (by decide) p3_0 0 (rmNxt20 l Z a0 hw [] it_3 al ed ke x1 (.int (-1 : Int32)) x2 T3.heap n0 Zp3 p3_0 p3_1 p3_2 p3_3 p3_4 g_it_3 f_3 (F_modCount_al.keep K3 (ninS nz_al_a1 nin0)) f_4 (F_elementData_al.keep K3 (ninS nz_al_a1 nin0)) (V_ed.keep K3 (ninS (Ne.symm nz_a1_ed) nin0))) (by decide) (by decide) (lenOf pd_34 rfl) rfl rfl rfl d49_21 hs5 (by decide) (by decide) rfl ?_
  rintro _ T6 _ X6 ⟨rfl, N6q, Kq6, p6_0, p6_1, p6_2, p6_3, p6_4⟩
  have K6 := K3.trans Kq6 (allS (Or.inr sz_it_3) all0)
  have Zp6 : n0 ≤ T6.heap.size := Nat.le_trans Zp3 Kq6.1
  have O7 := ((O0.keep Kq1 (allS g_a1 all0)).keep Kq3 all0).keep Kq6 (allS g_it_3 all0)
  have f_8 := E_x1.keep K6
  refine o_cast X6 B hZ hown (wd_390 hw) rfl (Ins.self f_8) d49_26 ?_
  intro T8 X8 e8
  refine o_astore (L' := #[vr ct, vr a1, vr nN, vr it_3, vr x1]) X8 B d49_29 rfl rfl ?_
  refine o_aload X8 B d49_31 rfl rfl ?_
  refine o_cV (argsL := []) (rest := []) X8 B hZ hown (wd_392 hw) (wd_393 hw) (wd_395 hw) (wd_394 hw) (wd_396 hw) (wd_70 hw) (by decide) f_8 0 (rmNam l Z a0 hw [] x1 nA T6.heap n0 Zp6 f_8 (F_name_x1.keep K6 (ninS nz_x1_a1 nin0))) (by decide) (by decide) (lenOf pd_35 rfl) rfl rfl rfl d49_33 e8 (by decide) (by decide) rfl ?_
  rintro _ T9 _ X9 ⟨rfl, N9q, hs9⟩
  refine o_aloadN X9 B d49_36 rfl rfl ?_
  have f_10 := E_nA.keep K6
  refine o_cV (argsL := [(.ref nN)]) (rest := []) X9 B hZ hown (wd_397 hw) (wd_398 hw) (wd_399 hw) (wd_302 hw) (wd_303 hw) (wd_3 hw) (by decide) f_10 0 (rmSeq_len l Z a0 hw [] nA gz uA kA nN uN kN (3 : Int32) (2 : Int32) LA ([(own_lo x3), (own_lo y3)]) T6.heap n0 Zp6 O7 S_COMPACT_STRINGS hgz f_10 (F_coder_nA.keep K6 (ninS (Ne.symm ne_a1_nA) nin0)) (F_value_nA.keep K6 (ninS (Ne.symm ne_a1_nA) nin0)) (E_nN.keep K6) (F_coder_nN.keep K6 (ninS (Ne.symm ne_a1_nN) nin0)) (F_value_nN.keep K6 (ninS (Ne.symm ne_a1_nN) nin0)) (V_uA.keep K6 (ninS (Ne.symm nz_a1_uA) nin0)) (V_uN.keep K6 (ninS (Ne.symm nz_a1_uN) nin0)) ne_nA_nN (by decide)) (by decide) (by decide) (lenOf pd_24 rfl) rfl rfl rfl d49_37 hs9 (by decide) (by decide) rfl ?_
  rintro _ T10 _ X10 ⟨rfl, N10q, hs10⟩
  refine o_ifY X10 B 46 d49_40 (XT.i0_eq_t (by decide : ((0 : Int32) = (0 : Int32)))) rfl ?_
  refine o_goto X10 B 11 d49_46 rfl ?_
  refine o_aloadN X10 B d49_11 rfl rfl ?_
  have f_18 := E_al.keep K6
  have f_19 := F_size_al.keep K6 (ninS nz_al_a1 nin0)
  refine o_cF (argsL := []) (rest := []) X10 B hZ hown (wd_364 hw) (wd_365 hw) (wd_366 hw) (wd_367 hw) (wd_368 hw) (wd_369 hw) (wd_370 hw) (wd_371 hw) (wd_372 hw) (wd_351 hw) (by decide) p6_0 0 (rmHnx1 l Z a0 hw [] it_3 al (1 : Int32) (2 : Int32) T6.heap n0 Zp6 p6_0 p6_1 p6_2 f_18 f_19 (by decide)) (by decide) (by decide) (lenOf pd_12 rfl) rfl rfl rfl d49_12 hs10 (by decide) (by decide) rfl ?_
  rintro _ T11 _ X11 ⟨rfl, N11q, hs11⟩
  show own_G p e below Φ T11 (mkF m 17 #[vr ct, vr a1, vr nN, vr it_3, vr x1] [(.int (1 : Int32))])
  refine o_ifN X11 B d49_17 (XT.i0_eq_f (by decide : ¬ ((1 : Int32) = (0 : Int32)))) ?_
  refine o_aloadN X11 B d49_20 rfl rfl ?_
  refine o_cF (argsL := []) (rest := []) X11 B hZ hown (wd_376 hw) (wd_377 hw) (wd_378 hw) (wd_379 hw) (wd_380 hw) (wd_381 hw) (wd_382 hw) (wd_371 hw) (wd_383 hw) (wd_351 hw) (by decide) p6_0 0 (rmNxt21 l Z a0 hw [] it_3 al ed ke x1 (.int (0 : Int32)) x2 T6.heap n0 Zp6 p6_0 p6_1 p6_2 p6_3 p6_4 g_it_3 f_18 (F_modCount_al.keep K6 (ninS nz_al_a1 nin0)) f_19 (F_elementData_al.keep K6 (ninS nz_al_a1 nin0)) (V_ed.keep K6 (ninS (Ne.symm nz_a1_ed) nin0))) (by decide) (by decide) (lenOf pd_34 rfl) rfl rfl rfl d49_21 hs11 (by decide) (by decide) rfl ?_
  rintro _ T12 _ X12 ⟨rfl, N12q, Kq12, p12_0, p12_1, p12_2, p12_3, p12_4⟩
  have K12 := K6.trans Kq12 (allS (Or.inr sz_it_3) all0)
  have Zp12 : n0 ≤ T12.heap.size := Nat.le_trans Zp6 Kq12.1
  have f_23 := E_x2.keep K12
  refine o_cast X12 B hZ hown (wd_390 hw) rfl (Ins.self f_23) d49_26 ?_
  intro T14 X14 e14
  refine o_astore (L' := #[vr ct, vr a1, vr nN, vr it_3, vr x2]) X14 B d49_29 rfl rfl ?_
  refine o_aload X14 B d49_31 rfl rfl ?_
  refine o_cV (argsL := []) (rest := []) X14 B hZ hown (wd_392 hw) (wd_393 hw) (wd_395 hw) (wd_394 hw) (wd_396 hw) (wd_70 hw) (by decide) f_23 0 (rmNam l Z a0 hw [] x2 nB T12.heap n0 Zp12 f_23 (F_name_x2.keep K12 (ninS nz_x2_a1 nin0))) (by decide) (by decide) (lenOf pd_35 rfl) rfl rfl rfl d49_33 e14 (by decide) (by decide) rfl ?_
  rintro _ T15 _ X15 ⟨rfl, N15q, hs15⟩
  refine o_aloadN X15 B d49_36 rfl rfl ?_
  have f_25 := E_nB.keep K12
  refine o_cV (argsL := [(.ref nN)]) (rest := []) X15 B hZ hown (wd_397 hw) (wd_398 hw) (wd_399 hw) (wd_302 hw) (wd_303 hw) (wd_3 hw) (by decide) f_25 0 (rmSeq_ne l Z a0 hw [] nB gz uB kB nN uN kN x0 y0 x3 y3 T12.heap n0 Zp12 (O7.keep Kq12 (allS g_it_3 all0)) S_COMPACT_STRINGS hgz f_25 (F_coder_nB.keep K12 (ninS (Ne.symm ne_a1_nB) nin0)) (F_value_nB.keep K12 (ninS (Ne.symm ne_a1_nB) nin0)) (E_nN.keep K12) (F_coder_nN.keep K12 (ninS (Ne.symm ne_a1_nN) nin0)) (F_value_nN.keep K12 (ninS (Ne.symm ne_a1_nN) nin0)) (V_uB.keep K12 (ninS (Ne.symm nz_a1_uB) nin0)) (V_uN.keep K12 (ninS (Ne.symm nz_a1_uN) nin0)) ne_nB_nN hne) (by decide) (by decide) (lenOf pd_24 rfl) rfl rfl rfl d49_37 hs15 (by decide) (by decide) rfl ?_
  rintro _ T16 _ X16 ⟨rfl, N16q, hs16⟩
  refine o_ifY X16 B 46 d49_40 (XT.i0_eq_t (by decide : ((0 : Int32) = (0 : Int32)))) rfl ?_
  refine o_goto X16 B 11 d49_46 rfl ?_
  refine o_aloadN X16 B d49_11 rfl rfl ?_
  refine o_cF (argsL := []) (rest := []) X16 B hZ hown (wd_364 hw) (wd_365 hw) (wd_366 hw) (wd_367 hw) (wd_368 hw) (wd_369 hw) (wd_370 hw) (wd_371 hw) (wd_372 hw) (wd_351 hw) (by decide) p12_0 0 (rmHnx0 l Z a0 hw [] it_3 al (2 : Int32) (2 : Int32) T12.heap n0 Zp12 p12_0 p12_1 p12_2 (E_al.keep K12) (F_size_al.keep K12 (ninS nz_al_a1 nin0)) rfl) (by decide) (by decide) (lenOf pd_12 rfl) rfl rfl rfl d49_12 hs16 (by decide) (by decide) rfl ?_
  rintro _ T17 _ X17 ⟨rfl, N17q, hs17⟩
  refine o_ifY X17 B 49 d49_17 (XT.i0_eq_t (by decide : ((0 : Int32) = (0 : Int32)))) rfl ?_
  refine o_anull X17 B d49_49 ?_
  exact o_rA X17 B hΦ hlk hret rfl rfl d49_50 hs17 (by decide) (by decide) ⟨hv2_1, zv2_1, rfl, (Fr.app (Fr.app (Fr.app (Fr.app (Fr.app (Fr.app (Fr.app (Fr.app (Fr.app (Fr.app (Fr.app (Fr.nil n0) N1q) N3q) N5q) N6q) N9q) N10q) N11q) N12q) N15q) N16q) N17q), K12, (((p1_0.keep Kq3).keep Kq6).keep Kq12), (((p1_1.keep Kq3 nin0).keep Kq6 (ninS ne_a1_it_3 nin0)).keep Kq12 (ninS ne_a1_it_3 nin0)), (((p1_2.keep Kq3 nin0).keep Kq6 (ninS ne_a1_it_3 nin0)).keep Kq12 (ninS ne_a1_it_3 nin0)), (((p1_3.keep Kq3 nin0).keep Kq6 (ninS ne_a1_it_3 nin0)).keep Kq12 (ninS ne_a1_it_3 nin0)), (((p1_4.keep Kq3 nin0).keep Kq6 (ninS ne_a1_it_3 nin0)).keep Kq12 (ninS ne_a1_it_3 nin0)), p1_5⟩
theorem d49_43 : dK kC55 43 (.aload 4) 2 := by decide +kernel
theorem d49_45 : dK kC55 45 .areturn 1 := by decide +kernel
theorem ef_rmLst2e (m : MethodId) (ct : Addr) (a1 : Addr) (nN : Addr) : entryFrame m #[(.ref ct), (.ref a1), (.ref nN)] 5 = mkF m 0 #[vr ct, vr a1, vr nN, .unset, .unset] [] := by first | (simp [entryFrame, mkF, argsToLocals, Value.category]; done) | rfl
def Q_rmLst2e (Z : State) (ct : Addr) (am : Addr) (hm : Addr) (tab : Addr) (kt : ClassId) (nd : Addr) (tv : Value) (ec : Int32) (ks : Addr) (vk : Addr) (kvk : ClassId) (a1 : Addr) (gz : Int32) (va : Addr) (kva : ClassId) (qc : Int32) (hv : Int32) (zv : Int32) (tb : Addr) (dr : Int64) (al : Addr) (kn : Addr) (ed : Addr) (ke : ClassId) (x1 : Addr) (nA : Addr) (uA : Addr) (kA : ClassId) (LA : List Int32) (nN : Addr) (uN : Addr) (kN : ClassId) (x2 : Addr) (nB : Addr) (uB : Addr) (kB : ClassId) (x0 : Int32) (y0 : Int32) (x3 : Int32) (y3 : Int32) (h0 : Heap) (n0 : Nat) (v : Option Value) (h : Heap) (L : List Loc) : Prop := ∃ hv2 : Int32, ∃ zv2 : Int32, v = some (.ref x2) ∧ Fr n0 L ∧ Keep h0 h [a1] ∧ fE1 Z h a1 ∧ fF1 Z h a1 (.ref va) ∧ fF2 Z h a1 (.int (0 : Int32)) ∧ fF3 Z h a1 (.int hv2) ∧ fF4 Z h a1 (.int zv2) ∧ own_hc hv2 zv2 qc
theorem rmLst2e (l : Launch) (Z : State) (a0 : Array Value) (hw : own_H Z a0) (ws : List Jvm.Cond) (ct : Addr) (am : Addr) (hm : Addr) (tab : Addr) (kt : ClassId) (nd : Addr) (tv : Value) (ec : Int32) (ks : Addr) (vk : Addr) (kvk : ClassId) (a1 : Addr) (gz : Int32) (va : Addr) (kva : ClassId) (qc : Int32) (hv : Int32) (zv : Int32) (tb : Addr) (dr : Int64) (al : Addr) (kn : Addr) (ed : Addr) (ke : ClassId) (x1 : Addr) (nA : Addr) (uA : Addr) (kA : ClassId) (LA : List Int32) (nN : Addr) (uN : Addr) (kN : ClassId) (x2 : Addr) (nB : Addr) (uB : Addr) (kB : ClassId) (x0 : Int32) (y0 : Int32) (x3 : Int32) (y3 : Int32) (h0 : Heap) (n0 : Nat) (Z0 : n0 ≤ h0.size) (E_ct : fE7 Z h0 ct) (F_answers_ct : fF24 Z h0 ct (.ref am)) (D_am : own_D Z h0 am hm) (ne_am_a1 : am ≠ a1) (O0 : Old Z n0 h0) (S_COMPACT_STRINGS : Sta Z Z.heap "java/lang/String" "COMPACT_STRINGS" "Z" (.int gz)) (hgz : ¬ gz = (0 : Int32)) (E_a1 : fE1 Z h0 a1) (F_value_a1 : fF1 Z h0 a1 (.ref va)) (F_coder_a1 : fF2 Z h0 a1 (.int (0 : Int32))) (V_va : Arv Z h0 va kva .byte (1 : Int32) [(.int (own_lo qc))] (.int (0 : Int32))) (F_hash_a1 : fF3 Z h0 a1 (.int hv)) (F_hashIsZero_a1 : fF4 Z h0 a1 (.int zv)) (g_a1 : n0 ≤ a1) (hr : ¬ qc < 0 ∧ ¬ (255 : Int32) < qc) (hi : own_hc hv zv qc) (E_hm : fE5 Z h0 hm) (F_table_hm : fF15 Z h0 hm (.ref tab)) (V_tab : Arv Z h0 tab kt (.object "java/util/HashMap$Node") (16 : Int32) (own_tl ec nd) .null) (E_nd : fE6 Z h0 nd) (F_hash_nd : fF20 Z h0 nd (.int ec)) (F_key_nd : fF21 Z h0 nd (.ref ks)) (F_value_nd : fF22 Z h0 nd tv) (F_next_nd : fF23 Z h0 nd .null) (E_ks : fE1 Z h0 ks) (F_value_ks : fF1 Z h0 ks (.ref vk)) (F_coder_ks : fF2 Z h0 ks (.int (0 : Int32))) (V_vk : Arv Z h0 vk kvk .byte (1 : Int32) [(.int (own_lo ec))] (.int (0 : Int32))) (ne_a1_ks : a1 ≠ ks) (htv : tv.isRef = true) (hgv : own_gv ec qc tv = .ref tb) (E_tb : fE4 Z h0 tb) (F_knowledge_tb : fF11 Z h0 tb (.ref kn)) (F_directory_tb : fF12 Z h0 tb (.long dr)) (F_tables_tb : fF13 Z h0 tb (.ref al)) (E_al : fE2 Z h0 al) (F_modCount_al : fF5 Z h0 al (.int (2 : Int32))) (F_size_al : fF6 Z h0 al (.int (2 : Int32))) (F_elementData_al : fF7 Z h0 al (.ref ed)) (V_ed : Arv Z h0 ed ke (.object "java/lang/Object") (10 : Int32) [(.ref x1), (.ref x2), .null, .null, .null, .null, .null, .null, .null, .null] .null) (E_nN : fE1 Z h0 nN) (F_coder_nN : fF2 Z h0 nN (.int (0 : Int32))) (F_value_nN : fF1 Z h0 nN (.ref uN)) (V_uN : Arv Z h0 uN kN .byte (2 : Int32) [(.int (own_lo x3)), (.int (own_lo y3))] (.int (0 : Int32))) (E_x1 : fE3 Z h0 x1) (F_name_x1 : fF8 Z h0 x1 (.ref nA)) (E_nA : fE1 Z h0 nA) (F_coder_nA : fF2 Z h0 nA (.int (0 : Int32))) (F_value_nA : fF1 Z h0 nA (.ref uA)) (V_uA : Arv Z h0 uA kA .byte (3 : Int32) (own_vs LA) (.int (0 : Int32))) (ne_nA_nN : nA ≠ nN) (ne_a1_nA : a1 ≠ nA) (ne_a1_nN : a1 ≠ nN) (E_x2 : fE3 Z h0 x2) (F_name_x2 : fF8 Z h0 x2 (.ref nB)) (E_nB : fE1 Z h0 nB) (F_coder_nB : fF2 Z h0 nB (.int (0 : Int32))) (F_value_nB : fF1 Z h0 nB (.ref uB)) (V_uB : Arv Z h0 uB kB .byte (2 : Int32) [(.int (own_lo x0)), (.int (own_lo y0))] (.int (0 : Int32))) (ne_nB_nN : nB ≠ nN) (ne_a1_nB : a1 ≠ nB) (hx0 : own_lo x0 = own_lo x3) (hx1 : own_lo y0 = own_lo y3) :
    own_Met l mN63 kC55 5 (some (.object "com/example/brickwork/brickwork/wire/Protocol$Listed")) ws (own_rm 7 1 4 100) Z h0 #[(.ref ct), (.ref a1), (.ref nN)] (Q_rmLst2e Z ct am hm tab kt nd tv ec ks vk kvk a1 gz va kva qc hv zv tb dr al kn ed ke x1 nA uA kA LA nN uN kN x2 nB uB kB x0 y0 x3 y3 h0 n0) := by
  refine own_met (plainFor_of_name pn_14) (fun m => ef_rmLst2e m ct a1 nN) ?_
  intro p e s m below meth c s₁ Φ hΦ X0 hx hby hml hown hnm hret hlk hZ e0
  have B : own_B p c _ _ := ⟨hx, hby, hml⟩
  have K0 : Keep h0 h0 [a1] := Keep.refl _ _
  have nz_al_a1 : al ≠ a1 := Exa.ne E_al E_a1 (by decide)
  have nz_a1_ed : a1 ≠ ed := Exa.neArv E_a1 V_ed (wd_2 hw)
  have nz_x1_a1 : x1 ≠ a1 := Exa.ne E_x1 E_a1 (by decide)
  have nz_a1_uA : a1 ≠ uA := Exa.neArv E_a1 V_uA (wd_2 hw)
  have nz_a1_uN : a1 ≠ uN := Exa.neArv E_a1 V_uN (wd_2 hw)
  have nz_x2_a1 : x2 ≠ a1 := Exa.ne E_x2 E_a1 (by decide)
  have nz_a1_uB : a1 ≠ uB := Exa.neArv E_a1 V_uB (wd_2 hw)
  show own_G p e below Φ s₁ (mkF m 0 #[vr ct, vr a1, vr nN, .unset, .unset] [])
  refine o_aloadN X0 B d49_0 rfl rfl ?_
  refine o_aloadN X0 B d49_1 rfl rfl ?_
  refine o_cV (argsL := [(.ref a1)]) (rest := []) X0 B hZ hown (wd_330 hw) (wd_331 hw) (wd_333 hw) (wd_332 hw) (wd_334 hw) (wd_224 hw) (by decide) E_ct 0 (rmLsd l Z a0 hw [] ct am hm tab kt nd tv ec ks vk kvk a1 gz va kva qc hv zv tb dr al kn h0 n0 Z0 E_ct F_answers_ct D_am ne_am_a1 O0 S_COMPACT_STRINGS hgz E_a1 F_value_a1 F_coder_a1 V_va F_hash_a1 F_hashIsZero_a1 g_a1 hr hi E_hm F_table_hm V_tab E_nd F_hash_nd F_key_nd F_value_nd F_next_nd E_ks F_value_ks F_coder_ks V_vk ne_a1_ks htv hgv E_tb F_knowledge_tb F_directory_tb F_tables_tb) (by decide) (by decide) (lenOf pd_32 rfl) rfl rfl rfl d49_2 e0 (by decide) (by decide) rfl ?_
  rintro _ T1 _ X1 ⟨hv2_1, zv2_1, rfl, N1q, Kq1, p1_0, p1_1, p1_2, p1_3, p1_4, p1_5⟩
  have K1 := K0.trans Kq1 (allS (Or.inl (List.mem_of_getElem? (i := 0) rfl)) all0)
  have Zp1 : n0 ≤ T1.heap.size := Nat.le_trans Z0 Kq1.1
  have f_1 := E_al.keep K1
  refine o_cF (argsL := []) (rest := []) X1 B hZ hown (wd_340 hw) (wd_341 hw) (wd_342 hw) (wd_343 hw) (wd_344 hw) (wd_345 hw) (wd_346 hw) (wd_347 hw) (wd_348 hw) (wd_46 hw) (by decide) f_1 0 (rmItr l Z a0 hw [] al (2 : Int32) T1.heap n0 Zp1 f_1 (F_modCount_al.keep K1 (ninS nz_al_a1 nin0))) (by decide) (by decide) (lenOf pd_33 rfl) rfl rfl rfl d49_5 rfl (by decide) (by decide) rfl ?_
  rintro _ T3 _ X3 ⟨it_3, ns_it_3, rfl, N3q, Kq3, p3_0, p3_1, p3_2, p3_3, p3_4⟩
  have ne_a1_it_3 : a1 ≠ it_3 := Nat.ne_of_lt (Nat.lt_of_lt_of_le p1_0.lt ns_it_3)
  have sz_it_3 : h0.size ≤ it_3 := Nat.le_trans K1.1 ns_it_3
  have K3 := K1.trans Kq3 all0
  have g_it_3 : n0 ≤ it_3 := Nat.le_trans Zp1 ns_it_3
  have Zp3 : n0 ≤ T3.heap.size := Nat.le_trans Zp1 Kq3.1
  refine o_astoreN (L' := #[vr ct, vr a1, vr nN, vr it_3, .unset]) X3 B d49_10 rfl rfl ?_
  refine o_aloadN X3 B d49_11 rfl rfl ?_
  have f_3 := E_al.keep K3
  have f_4 := F_size_al.keep K3 (ninS nz_al_a1 nin0)
  refine o_cF (argsL := []) (rest := []) X3 B hZ hown (wd_364 hw) (wd_365 hw) (wd_366 hw) (wd_367 hw) (wd_368 hw) (wd_369 hw) (wd_370 hw) (wd_371 hw) (wd_372 hw) (wd_351 hw) (by decide) p3_0 0 (rmHnx1 l Z a0 hw [] it_3 al (0 : Int32) (2 : Int32) T3.heap n0 Zp3 p3_0 p3_1 p3_2 f_3 f_4 (by decide)) (by decide) (by decide) (lenOf pd_12 rfl) rfl rfl rfl d49_12 rfl (by decide) (by decide) rfl ?_
  rintro _ T5 _ X5 ⟨rfl, N5q, hs5⟩
  refine o_ifN X5 B d49_17 (XT.i0_eq_f (by decide : ¬ ((1 : Int32) = (0 : Int32)))) ?_
  refine o_aloadN X5 B d49_20 rfl rfl ?_
  refine o_cF (argsL := []) (rest := []) X5 B hZ hown (wd_376 hw) (wd_377 hw) (wd_378 hw) (wd_379 hw) (wd_380 hw) (wd_381 hw) (wd_382 hw) (wd_371 hw) (wd_383 hw) (wd_351 hw) (by decide) p3_0 0 (rmNxt20 l Z a0 hw [] it_3 al ed ke x1 (.int (-1 : Int32)) x2 T3.heap n0 Zp3 p3_0 p3_1 p3_2 p3_3 p3_4 g_it_3 f_3 (F_modCount_al.keep K3 (ninS nz_al_a1 nin0)) f_4 (F_elementData_al.keep K3 (ninS nz_al_a1 nin0)) (V_ed.keep K3 (ninS (Ne.symm nz_a1_ed) nin0))) (by decide) (by decide) (lenOf pd_34 rfl) rfl rfl rfl d49_21 hs5 (by decide) (by decide) rfl ?_
  rintro _ T6 _ X6 ⟨rfl, N6q, Kq6, p6_0, p6_1, p6_2, p6_3, p6_4⟩
  have K6 := K3.trans Kq6 (allS (Or.inr sz_it_3) all0)
  have Zp6 : n0 ≤ T6.heap.size := Nat.le_trans Zp3 Kq6.1
  have O7 := ((O0.keep Kq1 (allS g_a1 all0)).keep Kq3 all0).keep Kq6 (allS g_it_3 all0)
  have f_8 := E_x1.keep K6
  refine o_cast X6 B hZ hown (wd_390 hw) rfl (Ins.self f_8) d49_26 ?_
  intro T8 X8 e8
  refine o_astore (L' := #[vr ct, vr a1, vr nN, vr it_3, vr x1]) X8 B d49_29 rfl rfl ?_
  refine o_aload X8 B d49_31 rfl rfl ?_
  refine o_cV (argsL := []) (rest := []) X8 B hZ hown (wd_392 hw) (wd_393 hw) (wd_395 hw) (wd_394 hw) (wd_396 hw) (wd_70 hw) (by decide) f_8 0 (rmNam l Z a0 hw [] x1 nA T6.heap n0 Zp6 f_8 (F_name_x1.keep K6 (ninS nz_x1_a1 nin0))) (by decide) (by decide) (lenOf pd_35 rfl) rfl rfl rfl d49_33 e8 (by decide) (by decide) rfl ?_
  rintro _ T9 _ X9 ⟨rfl, N9q, hs9⟩
  refine o_aloadN X9 B d49_36 rfl rfl ?_
  have f_10 := E_nA.keep K6
  refine o_cV (argsL := [(.ref nN)]) (rest := []) X9 B hZ hown (wd_397 hw) (wd_398 hw) (wd_399 hw) (wd_302 hw) (wd_303 hw) (wd_3 hw) (by decide) f_10 0 (rmSeq_len l Z a0 hw [] nA gz uA kA nN uN kN (3 : Int32) (2 : Int32) LA ([(own_lo x3), (own_lo y3)]) T6.heap n0 Zp6 O7 S_COMPACT_STRINGS hgz f_10 (F_coder_nA.keep K6 (ninS (Ne.symm ne_a1_nA) nin0)) (F_value_nA.keep K6 (ninS (Ne.symm ne_a1_nA) nin0)) (E_nN.keep K6) (F_coder_nN.keep K6 (ninS (Ne.symm ne_a1_nN) nin0)) (F_value_nN.keep K6 (ninS (Ne.symm ne_a1_nN) nin0)) (V_uA.keep K6 (ninS (Ne.symm nz_a1_uA) nin0)) (V_uN.keep K6 (ninS (Ne.symm nz_a1_uN) nin0)) ne_nA_nN (by decide)) (by decide) (by decide) (lenOf pd_24 rfl) rfl rfl rfl d49_37 hs9 (by decide) (by decide) rfl ?_
  rintro _ T10 _ X10 ⟨rfl, N10q, hs10⟩
  refine o_ifY X10 B 46 d49_40 (XT.i0_eq_t (by decide : ((0 : Int32) = (0 : Int32)))) rfl ?_
  refine o_goto X10 B 11 d49_46 rfl ?_
  refine o_aloadN X10 B d49_11 rfl rfl ?_
  have f_18 := E_al.keep K6
  have f_19 := F_size_al.keep K6 (ninS nz_al_a1 nin0)
  refine o_cF (argsL := []) (rest := []) X10 B hZ hown (wd_364 hw) (wd_365 hw) (wd_366 hw) (wd_367 hw) (wd_368 hw) (wd_369 hw) (wd_370 hw) (wd_371 hw) (wd_372 hw) (wd_351 hw) (by decide) p6_0 0 (rmHnx1 l Z a0 hw [] it_3 al (1 : Int32) (2 : Int32) T6.heap n0 Zp6 p6_0 p6_1 p6_2 f_18 f_19 (by decide)) (by decide) (by decide) (lenOf pd_12 rfl) rfl rfl rfl d49_12 hs10 (by decide) (by decide) rfl ?_
  rintro _ T11 _ X11 ⟨rfl, N11q, hs11⟩
  show own_G p e below Φ T11 (mkF m 17 #[vr ct, vr a1, vr nN, vr it_3, vr x1] [(.int (1 : Int32))])
  refine o_ifN X11 B d49_17 (XT.i0_eq_f (by decide : ¬ ((1 : Int32) = (0 : Int32)))) ?_
  refine o_aloadN X11 B d49_20 rfl rfl ?_
  refine o_cF (argsL := []) (rest := []) X11 B hZ hown (wd_376 hw) (wd_377 hw) (wd_378 hw) (wd_379 hw) (wd_380 hw) (wd_381 hw) (wd_382 hw) (wd_371 hw) (wd_383 hw) (wd_351 hw) (by decide) p6_0 0 (rmNxt21 l Z a0 hw [] it_3 al ed ke x1 (.int (0 : Int32)) x2 T6.heap n0 Zp6 p6_0 p6_1 p6_2 p6_3 p6_4 g_it_3 f_18 (F_modCount_al.keep K6 (ninS nz_al_a1 nin0)) f_19 (F_elementData_al.keep K6 (ninS nz_al_a1 nin0)) (V_ed.keep K6 (ninS (Ne.symm nz_a1_ed) nin0))) (by decide) (by decide) (lenOf pd_34 rfl) rfl rfl rfl d49_21 hs11 (by decide) (by decide) rfl ?_
  rintro _ T12 _ X12 ⟨rfl, N12q, Kq12, p12_0, p12_1, p12_2, p12_3, p12_4⟩
  have K12 := K6.trans Kq12 (allS (Or.inr sz_it_3) all0)
  have Zp12 : n0 ≤ T12.heap.size := Nat.le_trans Zp6 Kq12.1
  have f_23 := E_x2.keep K12
  refine o_cast X12 B hZ hown (wd_390 hw) rfl (Ins.self f_23) d49_26 ?_
  intro T14 X14 e14
  refine o_astore (L' := #[vr ct, vr a1, vr nN, vr it_3, vr x2]) X14 B d49_29 rfl rfl ?_
  refine o_aload X14 B d49_31 rfl rfl ?_
  refine o_cV (argsL := []) (rest := []) X14 B hZ hown (wd_392 hw) (wd_393 hw) (wd_395 hw) (wd_394 hw) (wd_396 hw) (wd_70 hw) (by decide) f_23 0 (rmNam l Z a0 hw [] x2 nB T12.heap n0 Zp12 f_23 (F_name_x2.keep K12 (ninS nz_x2_a1 nin0))) (by decide) (by decide) (lenOf pd_35 rfl) rfl rfl rfl d49_33 e14 (by decide) (by decide) rfl ?_
  rintro _ T15 _ X15 ⟨rfl, N15q, hs15⟩
  refine o_aloadN X15 B d49_36 rfl rfl ?_
  have f_25 := E_nB.keep K12
  refine o_cV (argsL := [(.ref nN)]) (rest := []) X15 B hZ hown (wd_397 hw) (wd_398 hw) (wd_399 hw) (wd_302 hw) (wd_303 hw) (wd_3 hw) (by decide) f_25 0 (rmSeq_two l Z a0 hw [] nB gz uB kB nN uN kN x0 y0 x3 y3 T12.heap n0 Zp12 (O7.keep Kq12 (allS g_it_3 all0)) S_COMPACT_STRINGS hgz f_25 (F_coder_nB.keep K12 (ninS (Ne.symm ne_a1_nB) nin0)) (F_value_nB.keep K12 (ninS (Ne.symm ne_a1_nB) nin0)) (E_nN.keep K12) (F_coder_nN.keep K12 (ninS (Ne.symm ne_a1_nN) nin0)) (F_value_nN.keep K12 (ninS (Ne.symm ne_a1_nN) nin0)) (V_uB.keep K12 (ninS (Ne.symm nz_a1_uB) nin0)) (V_uN.keep K12 (ninS (Ne.symm nz_a1_uN) nin0)) ne_nB_nN hx0 hx1) (by decide) (by decide) (lenOf pd_24 rfl) rfl rfl rfl d49_37 hs15 (by decide) (by decide) rfl ?_
  rintro _ T16 _ X16 ⟨rfl, N16q, hs16⟩
  refine o_ifN X16 B d49_40 (XT.i0_eq_f (by decide : ¬ ((1 : Int32) = (0 : Int32)))) ?_
  refine o_aload X16 B d49_43 rfl rfl ?_
  exact o_rA X16 B hΦ hlk hret rfl rfl d49_45 hs16 (by decide) (by decide) ⟨hv2_1, zv2_1, rfl, (Fr.app (Fr.app (Fr.app (Fr.app (Fr.app (Fr.app (Fr.app (Fr.app (Fr.app (Fr.app (Fr.nil n0) N1q) N3q) N5q) N6q) N9q) N10q) N11q) N12q) N15q) N16q), K12, (((p1_0.keep Kq3).keep Kq6).keep Kq12), (((p1_1.keep Kq3 nin0).keep Kq6 (ninS ne_a1_it_3 nin0)).keep Kq12 (ninS ne_a1_it_3 nin0)), (((p1_2.keep Kq3 nin0).keep Kq6 (ninS ne_a1_it_3 nin0)).keep Kq12 (ninS ne_a1_it_3 nin0)), (((p1_3.keep Kq3 nin0).keep Kq6 (ninS ne_a1_it_3 nin0)).keep Kq12 (ninS ne_a1_it_3 nin0)), (((p1_4.keep Kq3 nin0).keep Kq6 (ninS ne_a1_it_3 nin0)).keep Kq12 (ninS ne_a1_it_3 nin0)), p1_5⟩
theorem d37_0 : dK kC56 0 (.aload_n 0) 1 := by decide +kernel
theorem d37_1 : dK kC56 1 (.aload_n 1) 1 := by decide +kernel
theorem d37_2 : dK kC56 2 (.invokevirtual 165) 3 := by decide +kernel
theorem pd_36 : parseMethodDescriptor "(Ljava/lang/String;)Z" = some ⟨[(.object "java/lang/String")], some .boolean⟩ := by decide +kernel
theorem d37_5 : dK kC56 5 (.ifCond .eq 16) 3 := by decide +kernel
theorem d37_21 : dK kC56 21 (.iconst 0) 1 := by decide +kernel
theorem d37_22 : dK kC56 22 (.istore 5) 2 := by decide +kernel
theorem d37_24 : dK kC56 24 (.lload_n 3) 1 := by decide +kernel
theorem d37_25 : dK kC56 25 (.aload_n 0) 1 := by decide +kernel
theorem d37_26 : dK kC56 26 (.aload_n 1) 1 := by decide +kernel
theorem d37_27 : dK kC56 27 (.invokevirtual 172) 3 := by decide +kernel
theorem pd_37 : parseMethodDescriptor "(Ljava/lang/String;)J" = some ⟨[(.object "java/lang/String")], some .long⟩ := by decide +kernel
theorem d37_30 : dK kC56 30 (.iload 5) 2 := by decide +kernel
theorem d37_32 : dK kC56 32 (.invokestatic 175) 3 := by decide +kernel
theorem pd_38 : parseMethodDescriptor "(JJZ)Z" = some ⟨[.long, .long, .boolean], some .boolean⟩ := by decide +kernel
theorem d37_35 : dK kC56 35 .ireturn 1 := by decide +kernel
theorem ef_rmSpkN (m : MethodId) (ct : Addr) (a1 : Addr) (nN : Addr) (fl : Int64) : entryFrame m #[(.ref ct), (.ref a1), (.ref nN), (.long fl)] 6 = mkF m 0 #[vr ct, vr a1, vr nN, vj fl, .second, .unset] [] := by first | (simp [entryFrame, mkF, argsToLocals, Value.category]; done) | rfl
def Q_rmSpkN (Z : State) (ct : Addr) (am : Addr) (hm : Addr) (tab : Addr) (kt : ClassId) (nd : Addr) (tv : Value) (ec : Int32) (ks : Addr) (vk : Addr) (kvk : ClassId) (a1 : Addr) (gz : Int32) (va : Addr) (kva : ClassId) (qc : Int32) (hv : Int32) (zv : Int32) (nN : Addr) (fl : Int64) (h0 : Heap) (n0 : Nat) (v : Option Value) (h : Heap) (L : List Loc) : Prop := ∃ hv2 : Int32, ∃ zv2 : Int32, v = some (.int (own_sp fl (0 : Int64) (0 : Int32))) ∧ Fr n0 L ∧ Keep h0 h [a1] ∧ fE1 Z h a1 ∧ fF1 Z h a1 (.ref va) ∧ fF2 Z h a1 (.int (0 : Int32)) ∧ fF3 Z h a1 (.int hv2) ∧ fF4 Z h a1 (.int zv2) ∧ own_hc hv2 zv2 qc
theorem rmSpkN (l : Launch) (Z : State) (a0 : Array Value) (hw : own_H Z a0) (ws : List Jvm.Cond) (ct : Addr) (am : Addr) (hm : Addr) (tab : Addr) (kt : ClassId) (nd : Addr) (tv : Value) (ec : Int32) (ks : Addr) (vk : Addr) (kvk : ClassId) (a1 : Addr) (gz : Int32) (va : Addr) (kva : ClassId) (qc : Int32) (hv : Int32) (zv : Int32) (nN : Addr) (fl : Int64) (h0 : Heap) (n0 : Nat) (Z0 : n0 ≤ h0.size) (E_ct : fE7 Z h0 ct) (F_answers_ct : fF24 Z h0 ct (.ref am)) (D_am : own_D Z h0 am hm) (ne_am_a1 : am ≠ a1) (O0 : Old Z n0 h0) (S_COMPACT_STRINGS : Sta Z Z.heap "java/lang/String" "COMPACT_STRINGS" "Z" (.int gz)) (hgz : ¬ gz = (0 : Int32)) (E_a1 : fE1 Z h0 a1) (F_value_a1 : fF1 Z h0 a1 (.ref va)) (F_coder_a1 : fF2 Z h0 a1 (.int (0 : Int32))) (V_va : Arv Z h0 va kva .byte (1 : Int32) [(.int (own_lo qc))] (.int (0 : Int32))) (F_hash_a1 : fF3 Z h0 a1 (.int hv)) (F_hashIsZero_a1 : fF4 Z h0 a1 (.int zv)) (g_a1 : n0 ≤ a1) (hr : ¬ qc < 0 ∧ ¬ (255 : Int32) < qc) (hi : own_hc hv zv qc) (E_hm : fE5 Z h0 hm) (F_table_hm : fF15 Z h0 hm (.ref tab)) (V_tab : Arv Z h0 tab kt (.object "java/util/HashMap$Node") (16 : Int32) (own_tl ec nd) .null) (E_nd : fE6 Z h0 nd) (F_hash_nd : fF20 Z h0 nd (.int ec)) (F_key_nd : fF21 Z h0 nd (.ref ks)) (F_value_nd : fF22 Z h0 nd tv) (F_next_nd : fF23 Z h0 nd .null) (E_ks : fE1 Z h0 ks) (F_value_ks : fF1 Z h0 ks (.ref vk)) (F_coder_ks : fF2 Z h0 ks (.int (0 : Int32))) (V_vk : Arv Z h0 vk kvk .byte (1 : Int32) [(.int (own_lo ec))] (.int (0 : Int32))) (ne_a1_ks : a1 ≠ ks) (htv : tv.isRef = true) (hgv : own_gv ec qc tv = .null) :
    own_Met l mN64 kC56 6 (some .boolean) ws (own_rm 7 0 0 102) Z h0 #[(.ref ct), (.ref a1), (.ref nN), (.long fl)] (Q_rmSpkN Z ct am hm tab kt nd tv ec ks vk kvk a1 gz va kva qc hv zv nN fl h0 n0) := by
  refine own_met (plainFor_of_name pn_14) (fun m => ef_rmSpkN m ct a1 nN fl) ?_
  intro p e s m below meth c s₁ Φ hΦ X0 hx hby hml hown hnm hret hlk hZ e0
  have B : own_B p c _ _ := ⟨hx, hby, hml⟩
  have K0 : Keep h0 h0 [a1] := Keep.refl _ _
  have nz_ct_a1 : ct ≠ a1 := Exa.ne E_ct E_a1 (by decide)
  have nz_a1_va : a1 ≠ va := Exa.neArv E_a1 V_va (wd_2 hw)
  have nz_hm_a1 : hm ≠ a1 := Exa.ne E_hm E_a1 (by decide)
  have nz_a1_tab : a1 ≠ tab := Exa.neArv E_a1 V_tab (wd_2 hw)
  have nz_nd_a1 : nd ≠ a1 := Exa.ne E_nd E_a1 (by decide)
  have nz_a1_vk : a1 ≠ vk := Exa.neArv E_a1 V_vk (wd_2 hw)
  show own_G p e below Φ s₁ (mkF m 0 #[vr ct, vr a1, vr nN, vj fl, .second, .unset] [])
  refine o_aloadN X0 B d37_0 rfl rfl ?_
  refine o_aloadN X0 B d37_1 rfl rfl ?_
  refine o_cV (argsL := [(.ref a1)]) (rest := []) X0 B hZ hown (wd_260 hw) (wd_261 hw) (wd_263 hw) (wd_262 hw) (wd_264 hw) (wd_224 hw) (by decide) E_ct 0 (rmUtsN l Z a0 hw [] ct am hm tab kt nd tv ec ks vk kvk a1 gz va kva qc hv zv h0 n0 Z0 E_ct F_answers_ct D_am ne_am_a1 O0 S_COMPACT_STRINGS hgz E_a1 F_value_a1 F_coder_a1 V_va F_hash_a1 F_hashIsZero_a1 g_a1 hr hi E_hm F_table_hm V_tab E_nd F_hash_nd F_key_nd F_value_nd F_next_nd E_ks F_value_ks F_coder_ks V_vk ne_a1_ks htv hgv) (by decide) (by decide) (lenOf pd_36 rfl) rfl rfl rfl d37_2 e0 (by decide) (by decide) rfl ?_
  rintro _ T1 _ X1 ⟨hv2_1, zv2_1, rfl, N1q, Kq1, p1_0, p1_1, p1_2, p1_3, p1_4, p1_5⟩
  have K1 := K0.trans Kq1 (allS (Or.inl (List.mem_of_getElem? (i := 0) rfl)) all0)
  have Zp1 : n0 ≤ T1.heap.size := Nat.le_trans Z0 Kq1.1
  refine o_ifY X1 B 21 d37_5 (XT.i0_eq_t (by decide : ((0 : Int32) = (0 : Int32)))) rfl ?_
  refine o_iconst X1 B d37_21 ?_
  refine o_istore (L' := #[vr ct, vr a1, vr nN, vj fl, .second, vi 0]) X1 B d37_22 rfl ?_
  refine o_lloadN X1 B d37_24 rfl ?_
  refine o_aloadN X1 B d37_25 rfl rfl ?_
  refine o_aloadN X1 B d37_26 rfl rfl ?_
  have f_1 := E_ct.keep K1
  refine o_cV (argsL := [(.ref a1)]) (rest := [(.long fl)]) X1 B hZ hown (wd_288 hw) (wd_289 hw) (wd_291 hw) (wd_290 hw) (wd_292 hw) (wd_224 hw) (by decide) f_1 2 (rmDrsN l Z a0 hw [] ct am hm tab kt nd tv ec ks vk kvk a1 gz va kva qc hv2_1 zv2_1 T1.heap n0 Zp1 f_1 (F_answers_ct.keep K1 (ninS nz_ct_a1 nin0)) (D_am.keep K1 (ninS ne_am_a1 nin0)) ne_am_a1 (O0.keep Kq1 (allS g_a1 all0)) S_COMPACT_STRINGS hgz p1_0 p1_1 p1_2 (V_va.keep K1 (ninS (Ne.symm nz_a1_va) nin0)) p1_3 p1_4 g_a1 hr p1_5 (E_hm.keep K1) (F_table_hm.keep K1 (ninS nz_hm_a1 nin0)) (V_tab.keep K1 (ninS (Ne.symm nz_a1_tab) nin0)) (E_nd.keep K1) (F_hash_nd.keep K1 (ninS nz_nd_a1 nin0)) (F_key_nd.keep K1 (ninS nz_nd_a1 nin0)) (F_value_nd.keep K1 (ninS nz_nd_a1 nin0)) (F_next_nd.keep K1 (ninS nz_nd_a1 nin0)) (E_ks.keep K1) (F_value_ks.keep K1 (ninS (Ne.symm ne_a1_ks) nin0)) (F_coder_ks.keep K1 (ninS (Ne.symm ne_a1_ks) nin0)) (V_vk.keep K1 (ninS (Ne.symm nz_a1_vk) nin0)) ne_a1_ks htv hgv) (by decide) (by decide) (lenOf pd_37 rfl) rfl rfl rfl d37_27 rfl (by decide) (by decide) rfl ?_
  rintro _ T3 _ X3 ⟨hv2_3, zv2_3, rfl, N3q, Kq3, p3_0, p3_1, p3_2, p3_3, p3_4, p3_5⟩
  have K3 := K1.trans Kq3 (allS (Or.inl (List.mem_of_getElem? (i := 0) rfl)) all0)
  refine o_iload X3 B d37_30 rfl ?_
  refine o_cS (argsL := [(.long fl), (.long (0 : Int64)), (.int (0 : Int32))]) (rest := []) X3 B hZ hown (wd_293 hw) (wd_294 hw) (wd_295 hw) (wd_224 hw) (by decide) 0 (rmSpj0 l Z a0 hw [] fl (0 : Int64) T3.heap n0 (Nat.le_trans Zp1 Kq3.1) ) (by decide) (by decide) (lenOf pd_38 rfl) rfl rfl rfl d37_32 rfl (by decide) (by decide) rfl ?_
  rintro _ T5 _ X5 ⟨rfl, N5q, hs5⟩
  exact o_rZ X5 B hΦ hlk hret (by simp) d37_35 (nar .boolean (own_sp fl (0 : Int64) (0 : Int32))) rfl hs5 (by decide) (by decide) ⟨hv2_3, zv2_3, (congrArg (fun z => some (Value.int z)) (own_sp_nar _ _ _)), (Fr.app (Fr.app (Fr.app (Fr.nil n0) N1q) N3q) N5q), K3, p3_0, p3_1, p3_2, p3_3, p3_4, p3_5⟩
theorem ef_rmSpkF (m : MethodId) (ct : Addr) (a1 : Addr) (nN : Addr) (fl : Int64) : entryFrame m #[(.ref ct), (.ref a1), (.ref nN), (.long fl)] 6 = mkF m 0 #[vr ct, vr a1, vr nN, vj fl, .second, .unset] [] := by first | (simp [entryFrame, mkF, argsToLocals, Value.category]; done) | rfl
def Q_rmSpkF (Z : State) (ct : Addr) (am : Addr) (hm : Addr) (tab : Addr) (kt : ClassId) (nd : Addr) (tv : Value) (ec : Int32) (ks : Addr) (vk : Addr) (kvk : ClassId) (a1 : Addr) (gz : Int32) (va : Addr) (kva : ClassId) (qc : Int32) (hv : Int32) (zv : Int32) (tb : Addr) (dr : Int64) (al : Addr) (kn : Addr) (ku : Addr) (nN : Addr) (fl : Int64) (h0 : Heap) (n0 : Nat) (v : Option Value) (h : Heap) (L : List Loc) : Prop := ∃ hv2 : Int32, ∃ zv2 : Int32, v = some (.int (own_sp fl dr (0 : Int32))) ∧ Fr n0 L ∧ Keep h0 h [a1] ∧ fE1 Z h a1 ∧ fF1 Z h a1 (.ref va) ∧ fF2 Z h a1 (.int (0 : Int32)) ∧ fF3 Z h a1 (.int hv2) ∧ fF4 Z h a1 (.int zv2) ∧ own_hc hv2 zv2 qc
theorem rmSpkF (l : Launch) (Z : State) (a0 : Array Value) (hw : own_H Z a0) (ws : List Jvm.Cond) (ct : Addr) (am : Addr) (hm : Addr) (tab : Addr) (kt : ClassId) (nd : Addr) (tv : Value) (ec : Int32) (ks : Addr) (vk : Addr) (kvk : ClassId) (a1 : Addr) (gz : Int32) (va : Addr) (kva : ClassId) (qc : Int32) (hv : Int32) (zv : Int32) (tb : Addr) (dr : Int64) (al : Addr) (kn : Addr) (ku : Addr) (nN : Addr) (fl : Int64) (h0 : Heap) (n0 : Nat) (Z0 : n0 ≤ h0.size) (E_ct : fE7 Z h0 ct) (F_answers_ct : fF24 Z h0 ct (.ref am)) (D_am : own_D Z h0 am hm) (ne_am_a1 : am ≠ a1) (O0 : Old Z n0 h0) (S_COMPACT_STRINGS : Sta Z Z.heap "java/lang/String" "COMPACT_STRINGS" "Z" (.int gz)) (hgz : ¬ gz = (0 : Int32)) (E_a1 : fE1 Z h0 a1) (F_value_a1 : fF1 Z h0 a1 (.ref va)) (F_coder_a1 : fF2 Z h0 a1 (.int (0 : Int32))) (V_va : Arv Z h0 va kva .byte (1 : Int32) [(.int (own_lo qc))] (.int (0 : Int32))) (F_hash_a1 : fF3 Z h0 a1 (.int hv)) (F_hashIsZero_a1 : fF4 Z h0 a1 (.int zv)) (g_a1 : n0 ≤ a1) (hr : ¬ qc < 0 ∧ ¬ (255 : Int32) < qc) (hi : own_hc hv zv qc) (E_hm : fE5 Z h0 hm) (F_table_hm : fF15 Z h0 hm (.ref tab)) (V_tab : Arv Z h0 tab kt (.object "java/util/HashMap$Node") (16 : Int32) (own_tl ec nd) .null) (E_nd : fE6 Z h0 nd) (F_hash_nd : fF20 Z h0 nd (.int ec)) (F_key_nd : fF21 Z h0 nd (.ref ks)) (F_value_nd : fF22 Z h0 nd tv) (F_next_nd : fF23 Z h0 nd .null) (E_ks : fE1 Z h0 ks) (F_value_ks : fF1 Z h0 ks (.ref vk)) (F_coder_ks : fF2 Z h0 ks (.int (0 : Int32))) (V_vk : Arv Z h0 vk kvk .byte (1 : Int32) [(.int (own_lo ec))] (.int (0 : Int32))) (ne_a1_ks : a1 ≠ ks) (htv : tv.isRef = true) (hgv : own_gv ec qc tv = .ref tb) (S_UNTOLD : Sta Z Z.heap "com/example/brickwork/brickwork/wire/Protocol$Knowledge" "UNTOLD" "Lcom/example/brickwork/brickwork/wire/Protocol$Knowledge;" (.ref ku)) (ne_kn_ku : kn ≠ ku) (E_tb : fE4 Z h0 tb) (F_knowledge_tb : fF11 Z h0 tb (.ref kn)) (F_directory_tb : fF12 Z h0 tb (.long dr)) (F_tables_tb : fF13 Z h0 tb (.ref al)) :
    own_Met l mN64 kC56 6 (some .boolean) ws (own_rm 7 0 0 102) Z h0 #[(.ref ct), (.ref a1), (.ref nN), (.long fl)] (Q_rmSpkF Z ct am hm tab kt nd tv ec ks vk kvk a1 gz va kva qc hv zv tb dr al kn ku nN fl h0 n0) := by
  refine own_met (plainFor_of_name pn_14) (fun m => ef_rmSpkF m ct a1 nN fl) ?_
  intro p e s m below meth c s₁ Φ hΦ X0 hx hby hml hown hnm hret hlk hZ e0
  have B : own_B p c _ _ := ⟨hx, hby, hml⟩
  have K0 : Keep h0 h0 [a1] := Keep.refl _ _
  have nz_ct_a1 : ct ≠ a1 := Exa.ne E_ct E_a1 (by decide)
  have nz_a1_va : a1 ≠ va := Exa.neArv E_a1 V_va (wd_2 hw)
  have nz_hm_a1 : hm ≠ a1 := Exa.ne E_hm E_a1 (by decide)
  have nz_a1_tab : a1 ≠ tab := Exa.neArv E_a1 V_tab (wd_2 hw)
  have nz_nd_a1 : nd ≠ a1 := Exa.ne E_nd E_a1 (by decide)
  have nz_a1_vk : a1 ≠ vk := Exa.neArv E_a1 V_vk (wd_2 hw)
  have nz_tb_a1 : tb ≠ a1 := Exa.ne E_tb E_a1 (by decide)
  show own_G p e below Φ s₁ (mkF m 0 #[vr ct, vr a1, vr nN, vj fl, .second, .unset] [])
  refine o_aloadN X0 B d37_0 rfl rfl ?_
  refine o_aloadN X0 B d37_1 rfl rfl ?_
  refine o_cV (argsL := [(.ref a1)]) (rest := []) X0 B hZ hown (wd_260 hw) (wd_261 hw) (wd_263 hw) (wd_262 hw) (wd_264 hw) (wd_224 hw) (by decide) E_ct 0 (rmUtsF l Z a0 hw [] ct am hm tab kt nd tv ec ks vk kvk a1 gz va kva qc hv zv tb dr al kn ku h0 n0 Z0 E_ct F_answers_ct D_am ne_am_a1 O0 S_COMPACT_STRINGS hgz E_a1 F_value_a1 F_coder_a1 V_va F_hash_a1 F_hashIsZero_a1 g_a1 hr hi E_hm F_table_hm V_tab E_nd F_hash_nd F_key_nd F_value_nd F_next_nd E_ks F_value_ks F_coder_ks V_vk ne_a1_ks htv hgv S_UNTOLD ne_kn_ku E_tb F_knowledge_tb F_directory_tb F_tables_tb) (by decide) (by decide) (lenOf pd_36 rfl) rfl rfl rfl d37_2 e0 (by decide) (by decide) rfl ?_
  rintro _ T1 _ X1 ⟨hv2_1, zv2_1, rfl, N1q, Kq1, p1_0, p1_1, p1_2, p1_3, p1_4, p1_5⟩
  have K1 := K0.trans Kq1 (allS (Or.inl (List.mem_of_getElem? (i := 0) rfl)) all0)
  have Zp1 : n0 ≤ T1.heap.size := Nat.le_trans Z0 Kq1.1
  refine o_ifY X1 B 21 d37_5 (XT.i0_eq_t (by decide : ((0 : Int32) = (0 : Int32)))) rfl ?_
  refine o_iconst X1 B d37_21 ?_
  refine o_istore (L' := #[vr ct, vr a1, vr nN, vj fl, .second, vi 0]) X1 B d37_22 rfl ?_
  refine o_lloadN X1 B d37_24 rfl ?_
  refine o_aloadN X1 B d37_25 rfl rfl ?_
  refine o_aloadN X1 B d37_26 rfl rfl ?_
  have f_1 := E_ct.keep K1
  refine o_cV (argsL := [(.ref a1)]) (rest := [(.long fl)]) X1 B hZ hown (wd_288 hw) (wd_289 hw) (wd_291 hw) (wd_290 hw) (wd_292 hw) (wd_224 hw) (by decide) f_1 2 (rmDrsF l Z a0 hw [] ct am hm tab kt nd tv ec ks vk kvk a1 gz va kva qc hv2_1 zv2_1 tb dr al kn T1.heap n0 Zp1 f_1 (F_answers_ct.keep K1 (ninS nz_ct_a1 nin0)) (D_am.keep K1 (ninS ne_am_a1 nin0)) ne_am_a1 (O0.keep Kq1 (allS g_a1 all0)) S_COMPACT_STRINGS hgz p1_0 p1_1 p1_2 (V_va.keep K1 (ninS (Ne.symm nz_a1_va) nin0)) p1_3 p1_4 g_a1 hr p1_5 (E_hm.keep K1) (F_table_hm.keep K1 (ninS nz_hm_a1 nin0)) (V_tab.keep K1 (ninS (Ne.symm nz_a1_tab) nin0)) (E_nd.keep K1) (F_hash_nd.keep K1 (ninS nz_nd_a1 nin0)) (F_key_nd.keep K1 (ninS nz_nd_a1 nin0)) (F_value_nd.keep K1 (ninS nz_nd_a1 nin0)) (F_next_nd.keep K1 (ninS nz_nd_a1 nin0)) (E_ks.keep K1) (F_value_ks.keep K1 (ninS (Ne.symm ne_a1_ks) nin0)) (F_coder_ks.keep K1 (ninS (Ne.symm ne_a1_ks) nin0)) (V_vk.keep K1 (ninS (Ne.symm nz_a1_vk) nin0)) ne_a1_ks htv hgv (E_tb.keep K1) (F_knowledge_tb.keep K1 (ninS nz_tb_a1 nin0)) (F_directory_tb.keep K1 (ninS nz_tb_a1 nin0)) (F_tables_tb.keep K1 (ninS nz_tb_a1 nin0))) (by decide) (by decide) (lenOf pd_37 rfl) rfl rfl rfl d37_27 rfl (by decide) (by decide) rfl ?_
  rintro _ T3 _ X3 ⟨hv2_3, zv2_3, rfl, N3q, Kq3, p3_0, p3_1, p3_2, p3_3, p3_4, p3_5⟩
  have K3 := K1.trans Kq3 (allS (Or.inl (List.mem_of_getElem? (i := 0) rfl)) all0)
  refine o_iload X3 B d37_30 rfl ?_
  refine o_cS (argsL := [(.long fl), (.long dr), (.int (0 : Int32))]) (rest := []) X3 B hZ hown (wd_293 hw) (wd_294 hw) (wd_295 hw) (wd_224 hw) (by decide) 0 (rmSpj0 l Z a0 hw [] fl dr T3.heap n0 (Nat.le_trans Zp1 Kq3.1) ) (by decide) (by decide) (lenOf pd_38 rfl) rfl rfl rfl d37_32 rfl (by decide) (by decide) rfl ?_
  rintro _ T5 _ X5 ⟨rfl, N5q, hs5⟩
  exact o_rZ X5 B hΦ hlk hret (by simp) d37_35 (nar .boolean (own_sp fl dr (0 : Int32))) rfl hs5 (by decide) (by decide) ⟨hv2_3, zv2_3, (congrArg (fun z => some (Value.int z)) (own_sp_nar _ _ _)), (Fr.app (Fr.app (Fr.app (Fr.nil n0) N1q) N3q) N5q), K3, p3_0, p3_1, p3_2, p3_3, p3_4, p3_5⟩
theorem d37_8 : dK kC56 8 (.aload_n 0) 1 := by decide +kernel
theorem d37_9 : dK kC56 9 (.aload_n 1) 1 := by decide +kernel
theorem d37_10 : dK kC56 10 (.aload_n 2) 1 := by decide +kernel
theorem d37_11 : dK kC56 11 (.invokevirtual 168) 3 := by decide +kernel
theorem pd_39 : parseMethodDescriptor "(Ljava/lang/String;Ljava/lang/String;)Lcom/example/brickwork/brickwork/wire/Protocol$Listed;" = some ⟨[(.object "java/lang/String"), (.object "java/lang/String")], some (.object "com/example/brickwork/brickwork/wire/Protocol$Listed")⟩ := by decide +kernel
theorem d37_14 : dK kC56 14 (.ifnonnull 7) 3 := by decide +kernel
theorem d37_17 : dK kC56 17 (.iconst 1) 1 := by decide +kernel
theorem d37_18 : dK kC56 18 (.goto 4) 3 := by decide +kernel
theorem ef_rmSpk1 (m : MethodId) (ct : Addr) (a1 : Addr) (nN : Addr) (fl : Int64) : entryFrame m #[(.ref ct), (.ref a1), (.ref nN), (.long fl)] 6 = mkF m 0 #[vr ct, vr a1, vr nN, vj fl, .second, .unset] [] := by first | (simp [entryFrame, mkF, argsToLocals, Value.category]; done) | rfl
def Q_rmSpk1 (Z : State) (ct : Addr) (am : Addr) (hm : Addr) (tab : Addr) (kt : ClassId) (nd : Addr) (tv : Value) (ec : Int32) (ks : Addr) (vk : Addr) (kvk : ClassId) (a1 : Addr) (gz : Int32) (va : Addr) (kva : ClassId) (qc : Int32) (hv : Int32) (zv : Int32) (tb : Addr) (dr : Int64) (al : Addr) (ku : Addr) (ed : Addr) (ke : ClassId) (x1 : Addr) (nA : Addr) (uA : Addr) (kA : ClassId) (LA : List Int32) (nN : Addr) (uN : Addr) (kN : ClassId) (nz : Int32) (LN : List Int32) (fl : Int64) (h0 : Heap) (n0 : Nat) (v : Option Value) (h : Heap) (L : List Loc) : Prop := ∃ hv2 : Int32, ∃ zv2 : Int32, v = some (.int (own_sp fl dr (1 : Int32))) ∧ Fr n0 L ∧ Keep h0 h [a1] ∧ fE1 Z h a1 ∧ fF1 Z h a1 (.ref va) ∧ fF2 Z h a1 (.int (0 : Int32)) ∧ fF3 Z h a1 (.int hv2) ∧ fF4 Z h a1 (.int zv2) ∧ own_hc hv2 zv2 qc
theorem rmSpk1 (l : Launch) (Z : State) (a0 : Array Value) (hw : own_H Z a0) (ws : List Jvm.Cond) (ct : Addr) (am : Addr) (hm : Addr) (tab : Addr) (kt : ClassId) (nd : Addr) (tv : Value) (ec : Int32) (ks : Addr) (vk : Addr) (kvk : ClassId) (a1 : Addr) (gz : Int32) (va : Addr) (kva : ClassId) (qc : Int32) (hv : Int32) (zv : Int32) (tb : Addr) (dr : Int64) (al : Addr) (ku : Addr) (ed : Addr) (ke : ClassId) (x1 : Addr) (nA : Addr) (uA : Addr) (kA : ClassId) (LA : List Int32) (nN : Addr) (uN : Addr) (kN : ClassId) (nz : Int32) (LN : List Int32) (fl : Int64) (h0 : Heap) (n0 : Nat) (Z0 : n0 ≤ h0.size) (E_ct : fE7 Z h0 ct) (F_answers_ct : fF24 Z h0 ct (.ref am)) (D_am : own_D Z h0 am hm) (ne_am_a1 : am ≠ a1) (O0 : Old Z n0 h0) (S_COMPACT_STRINGS : Sta Z Z.heap "java/lang/String" "COMPACT_STRINGS" "Z" (.int gz)) (hgz : ¬ gz = (0 : Int32)) (E_a1 : fE1 Z h0 a1) (F_value_a1 : fF1 Z h0 a1 (.ref va)) (F_coder_a1 : fF2 Z h0 a1 (.int (0 : Int32))) (V_va : Arv Z h0 va kva .byte (1 : Int32) [(.int (own_lo qc))] (.int (0 : Int32))) (F_hash_a1 : fF3 Z h0 a1 (.int hv)) (F_hashIsZero_a1 : fF4 Z h0 a1 (.int zv)) (g_a1 : n0 ≤ a1) (hr : ¬ qc < 0 ∧ ¬ (255 : Int32) < qc) (hi : own_hc hv zv qc) (E_hm : fE5 Z h0 hm) (F_table_hm : fF15 Z h0 hm (.ref tab)) (V_tab : Arv Z h0 tab kt (.object "java/util/HashMap$Node") (16 : Int32) (own_tl ec nd) .null) (E_nd : fE6 Z h0 nd) (F_hash_nd : fF20 Z h0 nd (.int ec)) (F_key_nd : fF21 Z h0 nd (.ref ks)) (F_value_nd : fF22 Z h0 nd tv) (F_next_nd : fF23 Z h0 nd .null) (E_ks : fE1 Z h0 ks) (F_value_ks : fF1 Z h0 ks (.ref vk)) (F_coder_ks : fF2 Z h0 ks (.int (0 : Int32))) (V_vk : Arv Z h0 vk kvk .byte (1 : Int32) [(.int (own_lo ec))] (.int (0 : Int32))) (ne_a1_ks : a1 ≠ ks) (htv : tv.isRef = true) (hgv : own_gv ec qc tv = .ref tb) (S_UNTOLD : Sta Z Z.heap "com/example/brickwork/brickwork/wire/Protocol$Knowledge" "UNTOLD" "Lcom/example/brickwork/brickwork/wire/Protocol$Knowledge;" (.ref ku)) (E_tb : fE4 Z h0 tb) (F_knowledge_tb : fF11 Z h0 tb (.ref ku)) (F_directory_tb : fF12 Z h0 tb (.long dr)) (F_tables_tb : fF13 Z h0 tb (.ref al)) (E_al : fE2 Z h0 al) (F_modCount_al : fF5 Z h0 al (.int (1 : Int32))) (F_size_al : fF6 Z h0 al (.int (1 : Int32))) (F_elementData_al : fF7 Z h0 al (.ref ed)) (V_ed : Arv Z h0 ed ke (.object "java/lang/Object") (10 : Int32) [(.ref x1), .null, .null, .null, .null, .null, .null, .null, .null, .null] .null) (E_nN : fE1 Z h0 nN) (F_coder_nN : fF2 Z h0 nN (.int (0 : Int32))) (F_value_nN : fF1 Z h0 nN (.ref uN)) (V_uN : Arv Z h0 uN kN .byte nz (own_vs LN) (.int (0 : Int32))) (hz3 : ¬ (3 : Int32) = nz) (E_x1 : fE3 Z h0 x1) (F_name_x1 : fF8 Z h0 x1 (.ref nA)) (E_nA : fE1 Z h0 nA) (F_coder_nA : fF2 Z h0 nA (.int (0 : Int32))) (F_value_nA : fF1 Z h0 nA (.ref uA)) (V_uA : Arv Z h0 uA kA .byte (3 : Int32) (own_vs LA) (.int (0 : Int32))) (ne_nA_nN : nA ≠ nN) (ne_a1_nA : a1 ≠ nA) (ne_a1_nN : a1 ≠ nN) :
    own_Met l mN64 kC56 6 (some .boolean) ws (own_rm 8 1 4 116) Z h0 #[(.ref ct), (.ref a1), (.ref nN), (.long fl)] (Q_rmSpk1 Z ct am hm tab kt nd tv ec ks vk kvk a1 gz va kva qc hv zv tb dr al ku ed ke x1 nA uA kA LA nN uN kN nz LN fl h0 n0) := by
  refine own_met (plainFor_of_name pn_14) (fun m => ef_rmSpk1 m ct a1 nN fl) ?_
  intro p e s m below meth c s₁ Φ hΦ X0 hx hby hml hown hnm hret hlk hZ e0
  have B : own_B p c _ _ := ⟨hx, hby, hml⟩
  have K0 : Keep h0 h0 [a1] := Keep.refl _ _
  have nz_ct_a1 : ct ≠ a1 := Exa.ne E_ct E_a1 (by decide)
  have nz_a1_va : a1 ≠ va := Exa.neArv E_a1 V_va (wd_2 hw)
  have nz_hm_a1 : hm ≠ a1 := Exa.ne E_hm E_a1 (by decide)
  have nz_a1_tab : a1 ≠ tab := Exa.neArv E_a1 V_tab (wd_2 hw)
  have nz_nd_a1 : nd ≠ a1 := Exa.ne E_nd E_a1 (by decide)
  have nz_a1_vk : a1 ≠ vk := Exa.neArv E_a1 V_vk (wd_2 hw)
  have nz_tb_a1 : tb ≠ a1 := Exa.ne E_tb E_a1 (by decide)
  have nz_al_a1 : al ≠ a1 := Exa.ne E_al E_a1 (by decide)
  have nz_a1_ed : a1 ≠ ed := Exa.neArv E_a1 V_ed (wd_2 hw)
  have nz_a1_uN : a1 ≠ uN := Exa.neArv E_a1 V_uN (wd_2 hw)
  have nz_x1_a1 : x1 ≠ a1 := Exa.ne E_x1 E_a1 (by decide)
  have nz_a1_uA : a1 ≠ uA := Exa.neArv E_a1 V_uA (wd_2 hw)
  show own_G p e below Φ s₁ (mkF m 0 #[vr ct, vr a1, vr nN, vj fl, .second, .unset] [])
  refine o_aloadN X0 B d37_0 rfl rfl ?_
  refine o_aloadN X0 B d37_1 rfl rfl ?_
  refine o_cV (argsL := [(.ref a1)]) (rest := []) X0 B hZ hown (wd_260 hw) (wd_261 hw) (wd_263 hw) (wd_262 hw) (wd_264 hw) (wd_224 hw) (by decide) E_ct 0 (rmUtsL l Z a0 hw [] ct am hm tab kt nd tv ec ks vk kvk a1 gz va kva qc hv zv tb dr al ku h0 n0 Z0 E_ct F_answers_ct D_am ne_am_a1 O0 S_COMPACT_STRINGS hgz E_a1 F_value_a1 F_coder_a1 V_va F_hash_a1 F_hashIsZero_a1 g_a1 hr hi E_hm F_table_hm V_tab E_nd F_hash_nd F_key_nd F_value_nd F_next_nd E_ks F_value_ks F_coder_ks V_vk ne_a1_ks htv hgv S_UNTOLD E_tb F_knowledge_tb F_directory_tb F_tables_tb) (by decide) (by decide) (lenOf pd_36 rfl) rfl rfl rfl d37_2 e0 (by decide) (by decide) rfl ?_
  rintro _ T1 _ X1 ⟨hv2_1, zv2_1, rfl, N1q, Kq1, p1_0, p1_1, p1_2, p1_3, p1_4, p1_5⟩
  have K1 := K0.trans Kq1 (allS (Or.inl (List.mem_of_getElem? (i := 0) rfl)) all0)
  have Zp1 : n0 ≤ T1.heap.size := Nat.le_trans Z0 Kq1.1
  have O2 := O0.keep Kq1 (allS g_a1 all0)
  refine o_ifN X1 B d37_5 (XT.i0_eq_f (by decide : ¬ ((1 : Int32) = (0 : Int32)))) ?_
  refine o_aloadN X1 B d37_8 rfl rfl ?_
  refine o_aloadN X1 B d37_9 rfl rfl ?_
  refine o_aloadN X1 B d37_10 rfl rfl ?_
  have f_1 := E_ct.keep K1
  refine o_cV (argsL := [(.ref a1), (.ref nN)]) (rest := []) X1 B hZ hown (wd_325 hw) (wd_326 hw) (wd_328 hw) (wd_327 hw) (wd_329 hw) (wd_224 hw) (by decide) f_1 0 (rmLst1 l Z a0 hw [] ct am hm tab kt nd tv ec ks vk kvk a1 gz va kva qc hv2_1 zv2_1 tb dr al ku ed ke x1 nA uA kA LA nN uN kN nz LN T1.heap n0 Zp1 f_1 (F_answers_ct.keep K1 (ninS nz_ct_a1 nin0)) (D_am.keep K1 (ninS ne_am_a1 nin0)) ne_am_a1 O2 S_COMPACT_STRINGS hgz p1_0 p1_1 p1_2 (V_va.keep K1 (ninS (Ne.symm nz_a1_va) nin0)) p1_3 p1_4 g_a1 hr p1_5 (E_hm.keep K1) (F_table_hm.keep K1 (ninS nz_hm_a1 nin0)) (V_tab.keep K1 (ninS (Ne.symm nz_a1_tab) nin0)) (E_nd.keep K1) (F_hash_nd.keep K1 (ninS nz_nd_a1 nin0)) (F_key_nd.keep K1 (ninS nz_nd_a1 nin0)) (F_value_nd.keep K1 (ninS nz_nd_a1 nin0)) (F_next_nd.keep K1 (ninS nz_nd_a1 nin0)) (E_ks.keep K1) (F_value_ks.keep K1 (ninS (Ne.symm ne_a1_ks) nin0)) (F_coder_ks.keep K1 (ninS (Ne.symm ne_a1_ks) nin0)) (V_vk.keep K1 (ninS (Ne.symm nz_a1_vk) nin0)) ne_a1_ks htv hgv (E_tb.keep K1) (F_knowledge_tb.keep K1 (ninS nz_tb_a1 nin0)) (F_directory_tb.keep K1 (ninS nz_tb_a1 nin0)) (F_tables_tb.keep K1 (ninS nz_tb_a1 nin0)) (E_al.keep K1) (F_modCount_al.keep K1 (ninS nz_al_a1 nin0)) (F_size_al.keep K1 (ninS nz_al_a1 nin0)) (F_elementData_al.keep K1 (ninS nz_al_a1 nin0)) (V_ed.keep K1 (ninS (Ne.symm nz_a1_ed) nin0)) (E_nN.keep K1) (F_coder_nN.keep K1 (ninS (Ne.symm ne_a1_nN) nin0)) (F_value_nN.keep K1 (ninS (Ne.symm ne_a1_nN) nin0)) (V_uN.keep K1 (ninS (Ne.symm nz_a1_uN) nin0)) hz3 (E_x1.keep K1) (F_name_x1.keep K1 (ninS nz_x1_a1 nin0)) (E_nA.keep K1) (F_coder_nA.keep K1 (ninS (Ne.symm ne_a1_nA) nin0)) (F_value_nA.keep K1 (ninS (Ne.symm ne_a1_nA) nin0)) (V_uA.keep K1 (ninS (Ne.symm nz_a1_uA) nin0)) ne_nA_nN ne_a1_nA ne_a1_nN) (by decide) (by decide) (lenOf pd_39 rfl) rfl rfl rfl d37_11 rfl (by decide) (by decide) rfl ?_
  rintro _ T3 _ X3 ⟨hv2_3, zv2_3, rfl, N3q, Kq3, p3_0, p3_1, p3_2, p3_3, p3_4, p3_5⟩
  have K3 := K1.trans Kq3 (allS (Or.inl (List.mem_of_getElem? (i := 0) rfl)) all0)
  have Zp3 : n0 ≤ T3.heap.size := Nat.le_trans Zp1 Kq3.1
  refine o_ifnonnullN X3 B d37_14 ?_
  refine o_iconst X3 B d37_17 ?_
  refine o_goto X3 B 22 d37_18 rfl ?_
  refine o_istore (L' := #[vr ct, vr a1, vr nN, vj fl, .second, vi 1]) X3 B d37_22 rfl ?_
  refine o_lloadN X3 B d37_24 rfl ?_
  refine o_aloadN X3 B d37_25 rfl rfl ?_
  refine o_aloadN X3 B d37_26 rfl rfl ?_
  have f_36 := E_ct.keep K3
  refine o_cV (argsL := [(.ref a1)]) (rest := [(.long fl)]) X3 B hZ hown (wd_288 hw) (wd_289 hw) (wd_291 hw) (wd_290 hw) (wd_292 hw) (wd_224 hw) (by decide) f_36 2 (rmDrsF l Z a0 hw [] ct am hm tab kt nd tv ec ks vk kvk a1 gz va kva qc hv2_3 zv2_3 tb dr al ku T3.heap n0 Zp3 f_36 (F_answers_ct.keep K3 (ninS nz_ct_a1 nin0)) (D_am.keep K3 (ninS ne_am_a1 nin0)) ne_am_a1 (O2.keep Kq3 (allS g_a1 all0)) S_COMPACT_STRINGS hgz p3_0 p3_1 p3_2 (V_va.keep K3 (ninS (Ne.symm nz_a1_va) nin0)) p3_3 p3_4 g_a1 hr p3_5 (E_hm.keep K3) (F_table_hm.keep K3 (ninS nz_hm_a1 nin0)) (V_tab.keep K3 (ninS (Ne.symm nz_a1_tab) nin0)) (E_nd.keep K3) (F_hash_nd.keep K3 (ninS nz_nd_a1 nin0)) (F_key_nd.keep K3 (ninS nz_nd_a1 nin0)) (F_value_nd.keep K3 (ninS nz_nd_a1 nin0)) (F_next_nd.keep K3 (ninS nz_nd_a1 nin0)) (E_ks.keep K3) (F_value_ks.keep K3 (ninS (Ne.symm ne_a1_ks) nin0)) (F_coder_ks.keep K3 (ninS (Ne.symm ne_a1_ks) nin0)) (V_vk.keep K3 (ninS (Ne.symm nz_a1_vk) nin0)) ne_a1_ks htv hgv (E_tb.keep K3) (F_knowledge_tb.keep K3 (ninS nz_tb_a1 nin0)) (F_directory_tb.keep K3 (ninS nz_tb_a1 nin0)) (F_tables_tb.keep K3 (ninS nz_tb_a1 nin0))) (by decide) (by decide) (lenOf pd_37 rfl) rfl rfl rfl d37_27 rfl (by decide) (by decide) rfl ?_
  rintro _ T5 _ X5 ⟨hv2_5, zv2_5, rfl, N5q, Kq5, p5_0, p5_1, p5_2, p5_3, p5_4, p5_5⟩
  have K5 := K3.trans Kq5 (allS (Or.inl (List.mem_of_getElem? (i := 0) rfl)) all0)
  refine o_iload X5 B d37_30 rfl ?_
  refine o_cS (argsL := [(.long fl), (.long dr), (.int (1 : Int32))]) (rest := []) X5 B hZ hown (wd_293 hw) (wd_294 hw) (wd_295 hw) (wd_224 hw) (by decide) 0 (rmSpj1 l Z a0 hw [] fl dr T5.heap n0 (Nat.le_trans Zp3 Kq5.1) ) (by decide) (by decide) (lenOf pd_38 rfl) rfl rfl rfl d37_32 rfl (by decide) (by decide) rfl ?_
  rintro _ T7 _ X7 ⟨rfl, N7q, hs7⟩
  exact o_rZ X7 B hΦ hlk hret (by simp) d37_35 (nar .boolean (own_sp fl dr (1 : Int32))) rfl hs7 (by decide) (by decide) ⟨hv2_5, zv2_5, (congrArg (fun z => some (Value.int z)) (own_sp_nar _ _ _)), (Fr.app (Fr.app (Fr.app (Fr.app (Fr.nil n0) N1q) N3q) N5q) N7q), K5, p5_0, p5_1, p5_2, p5_3, p5_4, p5_5⟩
theorem ef_rmSpk2l (m : MethodId) (ct : Addr) (a1 : Addr) (nN : Addr) (fl : Int64) : entryFrame m #[(.ref ct), (.ref a1), (.ref nN), (.long fl)] 6 = mkF m 0 #[vr ct, vr a1, vr nN, vj fl, .second, .unset] [] := by first | (simp [entryFrame, mkF, argsToLocals, Value.category]; done) | rfl
def Q_rmSpk2l (Z : State) (ct : Addr) (am : Addr) (hm : Addr) (tab : Addr) (kt : ClassId) (nd : Addr) (tv : Value) (ec : Int32) (ks : Addr) (vk : Addr) (kvk : ClassId) (a1 : Addr) (gz : Int32) (va : Addr) (kva : ClassId) (qc : Int32) (hv : Int32) (zv : Int32) (tb : Addr) (dr : Int64) (al : Addr) (ku : Addr) (ed : Addr) (ke : ClassId) (x1 : Addr) (nA : Addr) (uA : Addr) (kA : ClassId) (LA : List Int32) (nN : Addr) (uN : Addr) (kN : ClassId) (nz : Int32) (LN : List Int32) (x2 : Addr) (nB : Addr) (uB : Addr) (kB : ClassId) (x0 : Int32) (y0 : Int32) (fl : Int64) (h0 : Heap) (n0 : Nat) (v : Option Value) (h : Heap) (L : List Loc) : Prop := ∃ hv2 : Int32, ∃ zv2 : Int32, v = some (.int (own_sp fl dr (1 : Int32))) ∧ Fr n0 L ∧ Keep h0 h [a1] ∧ fE1 Z h a1 ∧ fF1 Z h a1 (.ref va) ∧ fF2 Z h a1 (.int (0 : Int32)) ∧ fF3 Z h a1 (.int hv2) ∧ fF4 Z h a1 (.int zv2) ∧ own_hc hv2 zv2 qc
theorem rmSpk2l (l : Launch) (Z : State) (a0 : Array Value) (hw : own_H Z a0) (ws : List Jvm.Cond) (ct : Addr) (am : Addr) (hm : Addr) (tab : Addr) (kt : ClassId) (nd : Addr) (tv : Value) (ec : Int32) (ks : Addr) (vk : Addr) (kvk : ClassId) (a1 : Addr) (gz : Int32) (va : Addr) (kva : ClassId) (qc : Int32) (hv : Int32) (zv : Int32) (tb : Addr) (dr : Int64) (al : Addr) (ku : Addr) (ed : Addr) (ke : ClassId) (x1 : Addr) (nA : Addr) (uA : Addr) (kA : ClassId) (LA : List Int32) (nN : Addr) (uN : Addr) (kN : ClassId) (nz : Int32) (LN : List Int32) (x2 : Addr) (nB : Addr) (uB : Addr) (kB : ClassId) (x0 : Int32) (y0 : Int32) (fl : Int64) (h0 : Heap) (n0 : Nat) (Z0 : n0 ≤ h0.size) (E_ct : fE7 Z h0 ct) (F_answers_ct : fF24 Z h0 ct (.ref am)) (D_am : own_D Z h0 am hm) (ne_am_a1 : am ≠ a1) (O0 : Old Z n0 h0) (S_COMPACT_STRINGS : Sta Z Z.heap "java/lang/String" "COMPACT_STRINGS" "Z" (.int gz)) (hgz : ¬ gz = (0 : Int32)) (E_a1 : fE1 Z h0 a1) (F_value_a1 : fF1 Z h0 a1 (.ref va)) (F_coder_a1 : fF2 Z h0 a1 (.int (0 : Int32))) (V_va : Arv Z h0 va kva .byte (1 : Int32) [(.int (own_lo qc))] (.int (0 : Int32))) (F_hash_a1 : fF3 Z h0 a1 (.int hv)) (F_hashIsZero_a1 : fF4 Z h0 a1 (.int zv)) (g_a1 : n0 ≤ a1) (hr : ¬ qc < 0 ∧ ¬ (255 : Int32) < qc) (hi : own_hc hv zv qc) (E_hm : fE5 Z h0 hm) (F_table_hm : fF15 Z h0 hm (.ref tab)) (V_tab : Arv Z h0 tab kt (.object "java/util/HashMap$Node") (16 : Int32) (own_tl ec nd) .null) (E_nd : fE6 Z h0 nd) (F_hash_nd : fF20 Z h0 nd (.int ec)) (F_key_nd : fF21 Z h0 nd (.ref ks)) (F_value_nd : fF22 Z h0 nd tv) (F_next_nd : fF23 Z h0 nd .null) (E_ks : fE1 Z h0 ks) (F_value_ks : fF1 Z h0 ks (.ref vk)) (F_coder_ks : fF2 Z h0 ks (.int (0 : Int32))) (V_vk : Arv Z h0 vk kvk .byte (1 : Int32) [(.int (own_lo ec))] (.int (0 : Int32))) (ne_a1_ks : a1 ≠ ks) (htv : tv.isRef = true) (hgv : own_gv ec qc tv = .ref tb) (S_UNTOLD : Sta Z Z.heap "com/example/brickwork/brickwork/wire/Protocol$Knowledge" "UNTOLD" "Lcom/example/brickwork/brickwork/wire/Protocol$Knowledge;" (.ref ku)) (E_tb : fE4 Z h0 tb) (F_knowledge_tb : fF11 Z h0 tb (.ref ku)) (F_directory_tb : fF12 Z h0 tb (.long dr)) (F_tables_tb : fF13 Z h0 tb (.ref al)) (E_al : fE2 Z h0 al) (F_modCount_al : fF5 Z h0 al (.int (2 : Int32))) (F_size_al : fF6 Z h0 al (.int (2 : Int32))) (F_elementData_al : fF7 Z h0 al (.ref ed)) (V_ed : Arv Z h0 ed ke (.object "java/lang/Object") (10 : Int32) [(.ref x1), (.ref x2), .null, .null, .null, .null, .null, .null, .null, .null] .null) (E_nN : fE1 Z h0 nN) (F_coder_nN : fF2 Z h0 nN (.int (0 : Int32))) (F_value_nN : fF1 Z h0 nN (.ref uN)) (V_uN : Arv Z h0 uN kN .byte nz (own_vs LN) (.int (0 : Int32))) (hz3 : ¬ (3 : Int32) = nz) (hz2 : ¬ (2 : Int32) = nz) (E_x1 : fE3 Z h0 x1) (F_name_x1 : fF8 Z h0 x1 (.ref nA)) (E_nA : fE1 Z h0 nA) (F_coder_nA : fF2 Z h0 nA (.int (0 : Int32))) (F_value_nA : fF1 Z h0 nA (.ref uA)) (V_uA : Arv Z h0 uA kA .byte (3 : Int32) (own_vs LA) (.int (0 : Int32))) (ne_nA_nN : nA ≠ nN) (ne_a1_nA : a1 ≠ nA) (ne_a1_nN : a1 ≠ nN) (E_x2 : fE3 Z h0 x2) (F_name_x2 : fF8 Z h0 x2 (.ref nB)) (E_nB : fE1 Z h0 nB) (F_coder_nB : fF2 Z h0 nB (.int (0 : Int32))) (F_value_nB : fF1 Z h0 nB (.ref uB)) (V_uB : Arv Z h0 uB kB .byte (2 : Int32) [(.int (own_lo x0)), (.int (own_lo y0))] (.int (0 : Int32))) (ne_nB_nN : nB ≠ nN) (ne_a1_nB : a1 ≠ nB) :
    own_Met l mN64 kC56 6 (some .boolean) ws (own_rm 8 1 4 116) Z h0 #[(.ref ct), (.ref a1), (.ref nN), (.long fl)] (Q_rmSpk2l Z ct am hm tab kt nd tv ec ks vk kvk a1 gz va kva qc hv zv tb dr al ku ed ke x1 nA uA kA LA nN uN kN nz LN x2 nB uB kB x0 y0 fl h0 n0) := by
  refine own_met (plainFor_of_name pn_14) (fun m => ef_rmSpk2l m ct a1 nN fl) ?_
  intro p e s m below meth c s₁ Φ hΦ X0 hx hby hml hown hnm hret hlk hZ e0
  have B : own_B p c _ _ := ⟨hx, hby, hml⟩
  have K0 : Keep h0 h0 [a1] := Keep.refl _ _
  have nz_ct_a1 : ct ≠ a1 := Exa.ne E_ct E_a1 (by decide)
  have nz_a1_va : a1 ≠ va := Exa.neArv E_a1 V_va (wd_2 hw)
  have nz_hm_a1 : hm ≠ a1 := Exa.ne E_hm E_a1 (by decide)
  have nz_a1_tab : a1 ≠ tab := Exa.neArv E_a1 V_tab (wd_2 hw)
  have nz_nd_a1 : nd ≠ a1 := Exa.ne E_nd E_a1 (by decide)
  have nz_a1_vk : a1 ≠ vk := Exa.neArv E_a1 V_vk (wd_2 hw)
  have nz_tb_a1 : tb ≠ a1 := Exa.ne E_tb E_a1 (by decide)
  have nz_al_a1 : al ≠ a1 := Exa.ne E_al E_a1 (by decide)
  have nz_a1_ed : a1 ≠ ed := Exa.neArv E_a1 V_ed (wd_2 hw)
  have nz_a1_uN : a1 ≠ uN := Exa.neArv E_a1 V_uN (wd_2 hw)
  have nz_x1_a1 : x1 ≠ a1 := Exa.ne E_x1 E_a1 (by decide)
  have nz_a1_uA : a1 ≠ uA := Exa.neArv E_a1 V_uA (wd_2 hw)
  have nz_x2_a1 : x2 ≠ a1 := Exa.ne E_x2 E_a1 (by decide)
  have nz_a1_uB : a1 ≠ uB := Exa.neArv E_a1 V_uB (wd_2 hw)
  show own_G p e below Φ s₁ (mkF m 0 #[vr ct, vr a1, vr nN, vj fl, .second, .unset] [])
  refine o_aloadN X0 B d37_0 rfl rfl ?_
  refine o_aloadN X0 B d37_1 rfl rfl ?_
  refine o_cV (argsL := [(.ref a1)]) (rest := []) X0 B hZ hown (wd_260 hw) (wd_261 hw) (wd_263 hw) (wd_262 hw) (wd_264 hw) (wd_224 hw) (by decide) E_ct 0 (rmUtsL l Z a0 hw [] ct am hm tab kt nd tv ec ks vk kvk a1 gz va kva qc hv zv tb dr al ku h0 n0 Z0 E_ct F_answers_ct D_am ne_am_a1 O0 S_COMPACT_STRINGS hgz E_a1 F_value_a1 F_coder_a1 V_va F_hash_a1 F_hashIsZero_a1 g_a1 hr hi E_hm F_table_hm V_tab E_nd F_hash_nd F_key_nd F_value_nd F_next_nd E_ks F_value_ks F_coder_ks V_vk ne_a1_ks htv hgv S_UNTOLD E_tb F_knowledge_tb F_directory_tb F_tables_tb) (by decide) (by decide) (lenOf pd_36 rfl) rfl rfl rfl d37_2 e0 (by decide) (by decide) rfl ?_
  rintro _ T1 _ X1 ⟨hv2_1, zv2_1, rfl, N1q, Kq1, p1_0, p1_1, p1_2, p1_3, p1_4, p1_5⟩
  have K1 := K0.trans Kq1 (allS (Or.inl (List.mem_of_getElem? (i := 0) rfl)) all0)
  have Zp1 : n0 ≤ T1.heap.size := Nat.le_trans Z0 Kq1.1
  have O2 := O0.keep Kq1 (allS g_a1 all0)
  refine o_ifN X1 B d37_5 (XT.i0_eq_f (by decide : ¬ ((1 : Int32) = (0 : Int32)))) ?_
  refine o_aloadN X1 B d37_8 rfl rfl ?_
  refine o_aloadN X1 B d37_9 rfl rfl ?_
  refine o_aloadN X1 B d37_10 rfl rfl ?_
  have f_1 := E_ct.keep K1
  refine o_cV (argsL := [(.ref a1), (.ref nN)]) (rest := []) X1 B hZ hown (wd_325 hw) (wd_326 hw) (wd_328 hw) (wd_327 hw) (wd_329 hw) (wd_224 hw) (by decide) f_1 0 (rmLst2l l Z a0 hw [] ct am hm tab kt nd tv ec ks vk kvk a1 gz va kva qc hv2_1 zv2_1 tb dr al ku ed ke x1 nA uA kA LA nN uN kN nz LN x2 nB uB kB x0 y0 T1.heap n0 Zp1 f_1 (F_answers_ct.keep K1 (ninS nz_ct_a1 nin0)) (D_am.keep K1 (ninS ne_am_a1 nin0)) ne_am_a1 O2 S_COMPACT_STRINGS hgz p1_0 p1_1 p1_2 (V_va.keep K1 (ninS (Ne.symm nz_a1_va) nin0)) p1_3 p1_4 g_a1 hr p1_5 (E_hm.keep K1) (F_table_hm.keep K1 (ninS nz_hm_a1 nin0)) (V_tab.keep K1 (ninS (Ne.symm nz_a1_tab) nin0)) (E_nd.keep K1) (F_hash_nd.keep K1 (ninS nz_nd_a1 nin0)) (F_key_nd.keep K1 (ninS nz_nd_a1 nin0)) (F_value_nd.keep K1 (ninS nz_nd_a1 nin0)) (F_next_nd.keep K1 (ninS nz_nd_a1 nin0)) (E_ks.keep K1) (F_value_ks.keep K1 (ninS (Ne.symm ne_a1_ks) nin0)) (F_coder_ks.keep K1 (ninS (Ne.symm ne_a1_ks) nin0)) (V_vk.keep K1 (ninS (Ne.symm nz_a1_vk) nin0)) ne_a1_ks htv hgv (E_tb.keep K1) (F_knowledge_tb.keep K1 (ninS nz_tb_a1 nin0)) (F_directory_tb.keep K1 (ninS nz_tb_a1 nin0)) (F_tables_tb.keep K1 (ninS nz_tb_a1 nin0)) (E_al.keep K1) (F_modCount_al.keep K1 (ninS nz_al_a1 nin0)) (F_size_al.keep K1 (ninS nz_al_a1 nin0)) (F_elementData_al.keep K1 (ninS nz_al_a1 nin0)) (V_ed.keep K1 (ninS (Ne.symm nz_a1_ed) nin0)) (E_nN.keep K1) (F_coder_nN.keep K1 (ninS (Ne.symm ne_a1_nN) nin0)) (F_value_nN.keep K1 (ninS (Ne.symm ne_a1_nN) nin0)) (V_uN.keep K1 (ninS (Ne.symm nz_a1_uN) nin0)) hz3 hz2 (E_x1.keep K1) (F_name_x1.keep K1 (ninS nz_x1_a1 nin0)) (E_nA.keep K1) (F_coder_nA.keep K1 (ninS (Ne.symm ne_a1_nA) nin0)) (F_value_nA.keep K1 (ninS (Ne.symm ne_a1_nA) nin0)) (V_uA.keep K1 (ninS (Ne.symm nz_a1_uA) nin0)) ne_nA_nN ne_a1_nA ne_a1_nN (E_x2.keep K1) (F_name_x2.keep K1 (ninS nz_x2_a1 nin0)) (E_nB.keep K1) (F_coder_nB.keep K1 (ninS (Ne.symm ne_a1_nB) nin0)) (F_value_nB.keep K1 (ninS (Ne.symm ne_a1_nB) nin0)) (V_uB.keep K1 (ninS (Ne.symm nz_a1_uB) nin0)) ne_nB_nN ne_a1_nB) (by decide) (by decide) (lenOf pd_39 rfl) rfl rfl rfl d37_11 rfl (by decide) (by decide) rfl ?_
  rintro _ T3 _ X3 ⟨hv2_3, zv2_3, rfl, N3q, Kq3, p3_0, p3_1, p3_2, p3_3, p3_4, p3_5⟩
  have K3 := K1.trans Kq3 (allS (Or.inl (List.mem_of_getElem? (i := 0) rfl)) all0)
  have Zp3 : n0 ≤ T3.heap.size := Nat.le_trans Zp1 Kq3.1
  refine o_ifnonnullN X3 B d37_14 ?_
  refine o_iconst X3 B d37_17 ?_
  refine o_goto X3 B 22 d37_18 rfl ?_
  refine o_istore (L' := #[vr ct, vr a1, vr nN, vj fl, .second, vi 1]) X3 B d37_22 rfl ?_
  refine o_lloadN X3 B d37_24 rfl ?_
  refine o_aloadN X3 B d37_25 rfl rfl ?_
  refine o_aloadN X3 B d37_26 rfl rfl ?_
  have f_42 := E_ct.keep K3
  refine o_cV (argsL := [(.ref a1)]) (rest := [(.long fl)]) X3 B hZ hown (wd_288 hw) (wd_289 hw) (wd_291 hw) (wd_290 hw) (wd_292 hw) (wd_224 hw) (by decide) f_42 2 (rmDrsF l Z a0 hw [] ct am hm tab kt nd tv ec ks vk kvk a1 gz va kva qc hv2_3 zv2_3 tb dr al ku T3.heap n0 Zp3 f_42 (F_answers_ct.keep K3 (ninS nz_ct_a1 nin0)) (D_am.keep K3 (ninS ne_am_a1 nin0)) ne_am_a1 (O2.keep Kq3 (allS g_a1 all0)) S_COMPACT_STRINGS hgz p3_0 p3_1 p3_2 (V_va.keep K3 (ninS (Ne.symm nz_a1_va) nin0)) p3_3 p3_4 g_a1 hr p3_5 (E_hm.keep K3) (F_table_hm.keep K3 (ninS nz_hm_a1 nin0)) (V_tab.keep K3 (ninS (Ne.symm nz_a1_tab) nin0)) (E_nd.keep K3) (F_hash_nd.keep K3 (ninS nz_nd_a1 nin0)) (F_key_nd.keep K3 (ninS nz_nd_a1 nin0)) (F_value_nd.keep K3 (ninS nz_nd_a1 nin0)) (F_next_nd.keep K3 (ninS nz_nd_a1 nin0)) (E_ks.keep K3) (F_value_ks.keep K3 (ninS (Ne.symm ne_a1_ks) nin0)) (F_coder_ks.keep K3 (ninS (Ne.symm ne_a1_ks) nin0)) (V_vk.keep K3 (ninS (Ne.symm nz_a1_vk) nin0)) ne_a1_ks htv hgv (E_tb.keep K3) (F_knowledge_tb.keep K3 (ninS nz_tb_a1 nin0)) (F_directory_tb.keep K3 (ninS nz_tb_a1 nin0)) (F_tables_tb.keep K3 (ninS nz_tb_a1 nin0))) (by decide) (by decide) (lenOf pd_37 rfl) rfl rfl rfl d37_27 rfl (by decide) (by decide) rfl ?_
  rintro _ T5 _ X5 ⟨hv2_5, zv2_5, rfl, N5q, Kq5, p5_0, p5_1, p5_2, p5_3, p5_4, p5_5⟩
  have K5 := K3.trans Kq5 (allS (Or.inl (List.mem_of_getElem? (i := 0) rfl)) all0)
  refine o_iload X5 B d37_30 rfl ?_
  refine o_cS (argsL := [(.long fl), (.long dr), (.int (1 : Int32))]) (rest := []) X5 B hZ hown (wd_293 hw) (wd_294 hw) (wd_295 hw) (wd_224 hw) (by decide) 0 (rmSpj1 l Z a0 hw [] fl dr T5.heap n0 (Nat.le_trans Zp3 Kq5.1) ) (by decide) (by decide) (lenOf pd_38 rfl) rfl rfl rfl d37_32 rfl (by decide) (by decide) rfl ?_
  rintro _ T7 _ X7 ⟨rfl, N7q, hs7⟩
  exact o_rZ X7 B hΦ hlk hret (by simp) d37_35 (nar .boolean (own_sp fl dr (1 : Int32))) rfl hs7 (by decide) (by decide) ⟨hv2_5, zv2_5, (congrArg (fun z => some (Value.int z)) (own_sp_nar _ _ _)), (Fr.app (Fr.app (Fr.app (Fr.app (Fr.nil n0) N1q) N3q) N5q) N7q), K5, p5_0, p5_1, p5_2, p5_3, p5_4, p5_5⟩
theorem ef_rmSpk2n (m : MethodId) (ct : Addr) (a1 : Addr) (nN : Addr) (fl : Int64) : entryFrame m #[(.ref ct), (.ref a1), (.ref nN), (.long fl)] 6 = mkF m 0 #[vr ct, vr a1, vr nN, vj fl, .second, .unset] [] := by first | (simp [entryFrame, mkF, argsToLocals, Value.category]; done) | rfl
def Q_rmSpk2n (Z : State) (ct : Addr) (am : Addr) (hm : Addr) (tab : Addr) (kt : ClassId) (nd : Addr) (tv : Value) (ec : Int32) (ks : Addr) (vk : Addr) (kvk : ClassId) (a1 : Addr) (gz : Int32) (va : Addr) (kva : ClassId) (qc : Int32) (hv : Int32) (zv : Int32) (tb : Addr) (dr : Int64) (al : Addr) (ku : Addr) (ed : Addr) (ke : ClassId) (x1 : Addr) (nA : Addr) (uA : Addr) (kA : ClassId) (LA : List Int32) (nN : Addr) (uN : Addr) (kN : ClassId) (x2 : Addr) (nB : Addr) (uB : Addr) (kB : ClassId) (x0 : Int32) (y0 : Int32) (x3 : Int32) (y3 : Int32) (fl : Int64) (h0 : Heap) (n0 : Nat) (v : Option Value) (h : Heap) (L : List Loc) : Prop := ∃ hv2 : Int32, ∃ zv2 : Int32, v = some (.int (own_sp fl dr (1 : Int32))) ∧ Fr n0 L ∧ Keep h0 h [a1] ∧ fE1 Z h a1 ∧ fF1 Z h a1 (.ref va) ∧ fF2 Z h a1 (.int (0 : Int32)) ∧ fF3 Z h a1 (.int hv2) ∧ fF4 Z h a1 (.int zv2) ∧ own_hc hv2 zv2 qc
theorem rmSpk2n (l : Launch) (Z : State) (a0 : Array Value) (hw : own_H Z a0) (ws : List Jvm.Cond) (ct : Addr) (am : Addr) (hm : Addr) (tab : Addr) (kt : ClassId) (nd : Addr) (tv : Value) (ec : Int32) (ks : Addr) (vk : Addr) (kvk : ClassId) (a1 : Addr) (gz : Int32) (va : Addr) (kva : ClassId) (qc : Int32) (hv : Int32) (zv : Int32) (tb : Addr) (dr : Int64) (al : Addr) (ku : Addr) (ed : Addr) (ke : ClassId) (x1 : Addr) (nA : Addr) (uA : Addr) (kA : ClassId) (LA : List Int32) (nN : Addr) (uN : Addr) (kN : ClassId) (x2 : Addr) (nB : Addr) (uB : Addr) (kB : ClassId) (x0 : Int32) (y0 : Int32) (x3 : Int32) (y3 : Int32) (fl : Int64) (h0 : Heap) (n0 : Nat) (Z0 : n0 ≤ h0.size) (E_ct : fE7 Z h0 ct) (F_answers_ct : fF24 Z h0 ct (.ref am)) (D_am : own_D Z h0 am hm) (ne_am_a1 : am ≠ a1) (O0 : Old Z n0 h0) (S_COMPACT_STRINGS : Sta Z Z.heap "java/lang/String" "COMPACT_STRINGS" "Z" (.int gz)) (hgz : ¬ gz = (0 : Int32)) (E_a1 : fE1 Z h0 a1) (F_value_a1 : fF1 Z h0 a1 (.ref va)) (F_coder_a1 : fF2 Z h0 a1 (.int (0 : Int32))) (V_va : Arv Z h0 va kva .byte (1 : Int32) [(.int (own_lo qc))] (.int (0 : Int32))) (F_hash_a1 : fF3 Z h0 a1 (.int hv)) (F_hashIsZero_a1 : fF4 Z h0 a1 (.int zv)) (g_a1 : n0 ≤ a1) (hr : ¬ qc < 0 ∧ ¬ (255 : Int32) < qc) (hi : own_hc hv zv qc) (E_hm : fE5 Z h0 hm) (F_table_hm : fF15 Z h0 hm (.ref tab)) (V_tab : Arv Z h0 tab kt (.object "java/util/HashMap$Node") (16 : Int32) (own_tl ec nd) .null) (E_nd : fE6 Z h0 nd) (F_hash_nd : fF20 Z h0 nd (.int ec)) (F_key_nd : fF21 Z h0 nd (.ref ks)) (F_value_nd : fF22 Z h0 nd tv) (F_next_nd : fF23 Z h0 nd .null) (E_ks : fE1 Z h0 ks) (F_value_ks : fF1 Z h0 ks (.ref vk)) (F_coder_ks : fF2 Z h0 ks (.int (0 : Int32))) (V_vk : Arv Z h0 vk kvk .byte (1 : Int32) [(.int (own_lo ec))] (.int (0 : Int32))) (ne_a1_ks : a1 ≠ ks) (htv : tv.isRef = true) (hgv : own_gv ec qc tv = .ref tb) (S_UNTOLD : Sta Z Z.heap "com/example/brickwork/brickwork/wire/Protocol$Knowledge" "UNTOLD" "Lcom/example/brickwork/brickwork/wire/Protocol$Knowledge;" (.ref ku)) (E_tb : fE4 Z h0 tb) (F_knowledge_tb : fF11 Z h0 tb (.ref ku)) (F_directory_tb : fF12 Z h0 tb (.long dr)) (F_tables_tb : fF13 Z h0 tb (.ref al)) (E_al : fE2 Z h0 al) (F_modCount_al : fF5 Z h0 al (.int (2 : Int32))) (F_size_al : fF6 Z h0 al (.int (2 : Int32))) (F_elementData_al : fF7 Z h0 al (.ref ed)) (V_ed : Arv Z h0 ed ke (.object "java/lang/Object") (10 : Int32) [(.ref x1), (.ref x2), .null, .null, .null, .null, .null, .null, .null, .null] .null) (E_nN : fE1 Z h0 nN) (F_coder_nN : fF2 Z h0 nN (.int (0 : Int32))) (F_value_nN : fF1 Z h0 nN (.ref uN)) (V_uN : Arv Z h0 uN kN .byte (2 : Int32) [(.int (own_lo x3)), (.int (own_lo y3))] (.int (0 : Int32))) (E_x1 : fE3 Z h0 x1) (F_name_x1 : fF8 Z h0 x1 (.ref nA)) (E_nA : fE1 Z h0 nA) (F_coder_nA : fF2 Z h0 nA (.int (0 : Int32))) (F_value_nA : fF1 Z h0 nA (.ref uA)) (V_uA : Arv Z h0 uA kA .byte (3 : Int32) (own_vs LA) (.int (0 : Int32))) (ne_nA_nN : nA ≠ nN) (ne_a1_nA : a1 ≠ nA) (ne_a1_nN : a1 ≠ nN) (E_x2 : fE3 Z h0 x2) (F_name_x2 : fF8 Z h0 x2 (.ref nB)) (E_nB : fE1 Z h0 nB) (F_coder_nB : fF2 Z h0 nB (.int (0 : Int32))) (F_value_nB : fF1 Z h0 nB (.ref uB)) (V_uB : Arv Z h0 uB kB .byte (2 : Int32) [(.int (own_lo x0)), (.int (own_lo y0))] (.int (0 : Int32))) (ne_nB_nN : nB ≠ nN) (ne_a1_nB : a1 ≠ nB) (hne : ¬ (own_lo x0 = own_lo x3 ∧ own_lo y0 = own_lo y3)) :
    own_Met l mN64 kC56 6 (some .boolean) ws (own_rm 8 1 4 116) Z h0 #[(.ref ct), (.ref a1), (.ref nN), (.long fl)] (Q_rmSpk2n Z ct am hm tab kt nd tv ec ks vk kvk a1 gz va kva qc hv zv tb dr al ku ed ke x1 nA uA kA LA nN uN kN x2 nB uB kB x0 y0 x3 y3 fl h0 n0) := by
  refine own_met (plainFor_of_name pn_14) (fun m => ef_rmSpk2n m ct a1 nN fl) ?_
  intro p e s m below meth c s₁ Φ hΦ X0 hx hby hml hown hnm hret hlk hZ e0
  have B : own_B p c _ _ := ⟨hx, hby, hml⟩
  have K0 : Keep h0 h0 [a1] := Keep.refl _ _
  have nz_ct_a1 : ct ≠ a1 := Exa.ne E_ct E_a1 (by decide)
  have nz_a1_va : a1 ≠ va := Exa.neArv E_a1 V_va (wd_2 hw)
  have nz_hm_a1 : hm ≠ a1 := Exa.ne E_hm E_a1 (by decide)
  have nz_a1_tab : a1 ≠ tab := Exa.neArv E_a1 V_tab (wd_2 hw)
  have nz_nd_a1 : nd ≠ a1 := Exa.ne E_nd E_a1 (by decide)
  have nz_a1_vk : a1 ≠ vk := Exa.neArv E_a1 V_vk (wd_2 hw)
  have nz_tb_a1 : tb ≠ a1 := Exa.ne E_tb E_a1 (by decide)
  have nz_al_a1 : al ≠ a1 := Exa.ne E_al E_a1 (by decide)
  have nz_a1_ed : a1 ≠ ed := Exa.neArv E_a1 V_ed (wd_2 hw)
  have nz_a1_uN : a1 ≠ uN := Exa.neArv E_a1 V_uN (wd_2 hw)
  have nz_x1_a1 : x1 ≠ a1 := Exa.ne E_x1 E_a1 (by decide)
  have nz_a1_uA : a1 ≠ uA := Exa.neArv E_a1 V_uA (wd_2 hw)
  have nz_x2_a1 : x2 ≠ a1 := Exa.ne E_x2 E_a1 (by decide)
  have nz_a1_uB : a1 ≠ uB := Exa.neArv E_a1 V_uB (wd_2 hw)
  show own_G p e below Φ s₁ (mkF m 0 #[vr ct, vr a1, vr nN, vj fl, .second, .unset] [])
  refine o_aloadN X0 B d37_0 rfl rfl ?_
  refine o_aloadN X0 B d37_1 rfl rfl ?_
  refine o_cV (argsL := [(.ref a1)]) (rest := []) X0 B hZ hown (wd_260 hw) (wd_261 hw) (wd_263 hw) (wd_262 hw) (wd_264 hw) (wd_224 hw) (by decide) E_ct 0 (rmUtsL l Z a0 hw [] ct am hm tab kt nd tv ec ks vk kvk a1 gz va kva qc hv zv tb dr al ku h0 n0 Z0 E_ct F_answers_ct D_am ne_am_a1 O0 S_COMPACT_STRINGS hgz E_a1 F_value_a1 F_coder_a1 V_va F_hash_a1 F_hashIsZero_a1 g_a1 hr hi E_hm F_table_hm V_tab E_nd F_hash_nd F_key_nd F_value_nd F_next_nd E_ks F_value_ks F_coder_ks V_vk ne_a1_ks htv hgv S_UNTOLD E_tb F_knowledge_tb F_directory_tb F_tables_tb) (by decide) (by decide) (lenOf pd_36 rfl) rfl rfl rfl d37_2 e0 (by decide) (by decide) rfl ?_
  rintro _ T1 _ X1 ⟨hv2_1, zv2_1, rfl, N1q, Kq1, p1_0, p1_1, p1_2, p1_3, p1_4, p1_5⟩
  have K1 := K0.trans Kq1 (allS (Or.inl (List.mem_of_getElem? (i := 0) rfl)) all0)
  have Zp1 : n0 ≤ T1.heap.size := Nat.le_trans Z0 Kq1.1
  have O2 := O0.keep Kq1 (allS g_a1 all0)
  refine o_ifN X1 B d37_5 (XT.i0_eq_f (by decide : ¬ ((1 : Int32) = (0 : Int32)))) ?_
  refine o_aloadN X1 B d37_8 rfl rfl ?_
  refine o_aloadN X1 B d37_9 rfl rfl ?_
  refine o_aloadN X1 B d37_10 rfl rfl ?_
  have f_1 := E_ct.keep K1
  refine o_cV (argsL := [(.ref a1), (.ref nN)]) (rest := []) X1 B hZ hown (wd_325 hw) (wd_326 hw) (wd_328 hw) (wd_327 hw) (wd_329 hw) (wd_224 hw) (by decide) f_1 0 (rmLst2n l Z a0 hw [] ct am hm tab kt nd tv ec ks vk kvk a1 gz va kva qc hv2_1 zv2_1 tb dr al ku ed ke x1 nA uA kA LA nN uN kN x2 nB uB kB x0 y0 x3 y3 T1.heap n0 Zp1 f_1 (F_answers_ct.keep K1 (ninS nz_ct_a1 nin0)) (D_am.keep K1 (ninS ne_am_a1 nin0)) ne_am_a1 O2 S_COMPACT_STRINGS hgz p1_0 p1_1 p1_2 (V_va.keep K1 (ninS (Ne.symm nz_a1_va) nin0)) p1_3 p1_4 g_a1 hr p1_5 (E_hm.keep K1) (F_table_hm.keep K1 (ninS nz_hm_a1 nin0)) (V_tab.keep K1 (ninS (Ne.symm nz_a1_tab) nin0)) (E_nd.keep K1) (F_hash_nd.keep K1 (ninS nz_nd_a1 nin0)) (F_key_nd.keep K1 (ninS nz_nd_a1 nin0)) (F_value_nd.keep K1 (ninS nz_nd_a1 nin0)) (F_next_nd.keep K1 (ninS nz_nd_a1 nin0)) (E_ks.keep K1) (F_value_ks.keep K1 (ninS (Ne.symm ne_a1_ks) nin0)) (F_coder_ks.keep K1 (ninS (Ne.symm ne_a1_ks) nin0)) (V_vk.keep K1 (ninS (Ne.symm nz_a1_vk) nin0)) ne_a1_ks htv hgv (E_tb.keep K1) (F_knowledge_tb.keep K1 (ninS nz_tb_a1 nin0)) (F_directory_tb.keep K1 (ninS nz_tb_a1 nin0)) (F_tables_tb.keep K1 (ninS nz_tb_a1 nin0)) (E_al.keep K1) (F_modCount_al.keep K1 (ninS nz_al_a1 nin0)) (F_size_al.keep K1 (ninS nz_al_a1 nin0)) (F_elementData_al.keep K1 (ninS nz_al_a1 nin0)) (V_ed.keep K1 (ninS (Ne.symm nz_a1_ed) nin0)) (E_nN.keep K1) (F_coder_nN.keep K1 (ninS (Ne.symm ne_a1_nN) nin0)) (F_value_nN.keep K1 (ninS (Ne.symm ne_a1_nN) nin0)) (V_uN.keep K1 (ninS (Ne.symm nz_a1_uN) nin0)) (E_x1.keep K1) (F_name_x1.keep K1 (ninS nz_x1_a1 nin0)) (E_nA.keep K1) (F_coder_nA.keep K1 (ninS (Ne.symm ne_a1_nA) nin0)) (F_value_nA.keep K1 (ninS (Ne.symm ne_a1_nA) nin0)) (V_uA.keep K1 (ninS (Ne.symm nz_a1_uA) nin0)) ne_nA_nN ne_a1_nA ne_a1_nN (E_x2.keep K1) (F_name_x2.keep K1 (ninS nz_x2_a1 nin0)) (E_nB.keep K1) (F_coder_nB.keep K1 (ninS (Ne.symm ne_a1_nB) nin0)) (F_value_nB.keep K1 (ninS (Ne.symm ne_a1_nB) nin0)) (V_uB.keep K1 (ninS (Ne.symm nz_a1_uB) nin0)) ne_nB_nN ne_a1_nB hne) (by decide) (by decide) (lenOf pd_39 rfl) rfl rfl rfl d37_11 rfl (by decide) (by decide) rfl ?_
  rintro _ T3 _ X3 ⟨hv2_3, zv2_3, rfl, N3q, Kq3, p3_0, p3_1, p3_2, p3_3, p3_4, p3_5⟩
  have K3 := K1.trans Kq3 (allS (Or.inl (List.mem_of_getElem? (i := 0) rfl)) all0)
  have Zp3 : n0 ≤ T3.heap.size := Nat.le_trans Zp1 Kq3.1
  refine o_ifnonnullN X3 B d37_14 ?_
  refine o_iconst X3 B d37_17 ?_
  refine o_goto X3 B 22 d37_18 rfl ?_
  refine o_istore (L' := #[vr ct, vr a1, vr nN, vj fl, .second, vi 1]) X3 B d37_22 rfl ?_
  refine o_lloadN X3 B d37_24 rfl ?_
  refine o_aloadN X3 B d37_25 rfl rfl ?_
  refine o_aloadN X3 B d37_26 rfl rfl ?_
  have f_42 := E_ct.keep K3
  refine o_cV (argsL := [(.ref a1)]) (rest := [(.long fl)]) X3 B hZ hown (wd_288 hw) (wd_289 hw) (wd_291 hw) (wd_290 hw) (wd_292 hw) (wd_224 hw) (by decide) f_42 2 (rmDrsF l Z a0 hw [] ct am hm tab kt nd tv ec ks vk kvk a1 gz va kva qc hv2_3 zv2_3 tb dr al ku T3.heap n0 Zp3 f_42 (F_answers_ct.keep K3 (ninS nz_ct_a1 nin0)) (D_am.keep K3 (ninS ne_am_a1 nin0)) ne_am_a1 (O2.keep Kq3 (allS g_a1 all0)) S_COMPACT_STRINGS hgz p3_0 p3_1 p3_2 (V_va.keep K3 (ninS (Ne.symm nz_a1_va) nin0)) p3_3 p3_4 g_a1 hr p3_5 (E_hm.keep K3) (F_table_hm.keep K3 (ninS nz_hm_a1 nin0)) (V_tab.keep K3 (ninS (Ne.symm nz_a1_tab) nin0)) (E_nd.keep K3) (F_hash_nd.keep K3 (ninS nz_nd_a1 nin0)) (F_key_nd.keep K3 (ninS nz_nd_a1 nin0)) (F_value_nd.keep K3 (ninS nz_nd_a1 nin0)) (F_next_nd.keep K3 (ninS nz_nd_a1 nin0)) (E_ks.keep K3) (F_value_ks.keep K3 (ninS (Ne.symm ne_a1_ks) nin0)) (F_coder_ks.keep K3 (ninS (Ne.symm ne_a1_ks) nin0)) (V_vk.keep K3 (ninS (Ne.symm nz_a1_vk) nin0)) ne_a1_ks htv hgv (E_tb.keep K3) (F_knowledge_tb.keep K3 (ninS nz_tb_a1 nin0)) (F_directory_tb.keep K3 (ninS nz_tb_a1 nin0)) (F_tables_tb.keep K3 (ninS nz_tb_a1 nin0))) (by decide) (by decide) (lenOf pd_37 rfl) rfl rfl rfl d37_27 rfl (by decide) (by decide) rfl ?_
  rintro _ T5 _ X5 ⟨hv2_5, zv2_5, rfl, N5q, Kq5, p5_0, p5_1, p5_2, p5_3, p5_4, p5_5⟩
  have K5 := K3.trans Kq5 (allS (Or.inl (List.mem_of_getElem? (i := 0) rfl)) all0)
  refine o_iload X5 B d37_30 rfl ?_
  refine o_cS (argsL := [(.long fl), (.long dr), (.int (1 : Int32))]) (rest := []) X5 B hZ hown (wd_293 hw) (wd_294 hw) (wd_295 hw) (wd_224 hw) (by decide) 0 (rmSpj1 l Z a0 hw [] fl dr T5.heap n0 (Nat.le_trans Zp3 Kq5.1) ) (by decide) (by decide) (lenOf pd_38 rfl) rfl rfl rfl d37_32 rfl (by decide) (by decide) rfl ?_
  rintro _ T7 _ X7 ⟨rfl, N7q, hs7⟩
  exact o_rZ X7 B hΦ hlk hret (by simp) d37_35 (nar .boolean (own_sp fl dr (1 : Int32))) rfl hs7 (by decide) (by decide) ⟨hv2_5, zv2_5, (congrArg (fun z => some (Value.int z)) (own_sp_nar _ _ _)), (Fr.app (Fr.app (Fr.app (Fr.app (Fr.nil n0) N1q) N3q) N5q) N7q), K5, p5_0, p5_1, p5_2, p5_3, p5_4, p5_5⟩
theorem ef_rmSpk2e (m : MethodId) (ct : Addr) (a1 : Addr) (nN : Addr) (fl : Int64) : entryFrame m #[(.ref ct), (.ref a1), (.ref nN), (.long fl)] 6 = mkF m 0 #[vr ct, vr a1, vr nN, vj fl, .second, .unset] [] := by first | (simp [entryFrame, mkF, argsToLocals, Value.category]; done) | rfl
def Q_rmSpk2e (Z : State) (ct : Addr) (am : Addr) (hm : Addr) (tab : Addr) (kt : ClassId) (nd : Addr) (tv : Value) (ec : Int32) (ks : Addr) (vk : Addr) (kvk : ClassId) (a1 : Addr) (gz : Int32) (va : Addr) (kva : ClassId) (qc : Int32) (hv : Int32) (zv : Int32) (tb : Addr) (dr : Int64) (al : Addr) (ku : Addr) (ed : Addr) (ke : ClassId) (x1 : Addr) (nA : Addr) (uA : Addr) (kA : ClassId) (LA : List Int32) (nN : Addr) (uN : Addr) (kN : ClassId) (x2 : Addr) (nB : Addr) (uB : Addr) (kB : ClassId) (x0 : Int32) (y0 : Int32) (x3 : Int32) (y3 : Int32) (fl : Int64) (h0 : Heap) (n0 : Nat) (v : Option Value) (h : Heap) (L : List Loc) : Prop := ∃ hv2 : Int32, ∃ zv2 : Int32, v = some (.int (own_sp fl dr (0 : Int32))) ∧ Fr n0 L ∧ Keep h0 h [a1] ∧ fE1 Z h a1 ∧ fF1 Z h a1 (.ref va) ∧ fF2 Z h a1 (.int (0 : Int32)) ∧ fF3 Z h a1 (.int hv2) ∧ fF4 Z h a1 (.int zv2) ∧ own_hc hv2 zv2 qc
theorem rmSpk2e (l : Launch) (Z : State) (a0 : Array Value) (hw : own_H Z a0) (ws : List Jvm.Cond) (ct : Addr) (am : Addr) (hm : Addr) (tab : Addr) (kt : ClassId) (nd : Addr) (tv : Value) (ec : Int32) (ks : Addr) (vk : Addr) (kvk : ClassId) (a1 : Addr) (gz : Int32) (va : Addr) (kva : ClassId) (qc : Int32) (hv : Int32) (zv : Int32) (tb : Addr) (dr : Int64) (al : Addr) (ku : Addr) (ed : Addr) (ke : ClassId) (x1 : Addr) (nA : Addr) (uA : Addr) (kA : ClassId) (LA : List Int32) (nN : Addr) (uN : Addr) (kN : ClassId) (x2 : Addr) (nB : Addr) (uB : Addr) (kB : ClassId) (x0 : Int32) (y0 : Int32) (x3 : Int32) (y3 : Int32) (fl : Int64) (h0 : Heap) (n0 : Nat) (Z0 : n0 ≤ h0.size) (E_ct : fE7 Z h0 ct) (F_answers_ct : fF24 Z h0 ct (.ref am)) (D_am : own_D Z h0 am hm) (ne_am_a1 : am ≠ a1) (O0 : Old Z n0 h0) (S_COMPACT_STRINGS : Sta Z Z.heap "java/lang/String" "COMPACT_STRINGS" "Z" (.int gz)) (hgz : ¬ gz = (0 : Int32)) (E_a1 : fE1 Z h0 a1) (F_value_a1 : fF1 Z h0 a1 (.ref va)) (F_coder_a1 : fF2 Z h0 a1 (.int (0 : Int32))) (V_va : Arv Z h0 va kva .byte (1 : Int32) [(.int (own_lo qc))] (.int (0 : Int32))) (F_hash_a1 : fF3 Z h0 a1 (.int hv)) (F_hashIsZero_a1 : fF4 Z h0 a1 (.int zv)) (g_a1 : n0 ≤ a1) (hr : ¬ qc < 0 ∧ ¬ (255 : Int32) < qc) (hi : own_hc hv zv qc) (E_hm : fE5 Z h0 hm) (F_table_hm : fF15 Z h0 hm (.ref tab)) (V_tab : Arv Z h0 tab kt (.object "java/util/HashMap$Node") (16 : Int32) (own_tl ec nd) .null) (E_nd : fE6 Z h0 nd) (F_hash_nd : fF20 Z h0 nd (.int ec)) (F_key_nd : fF21 Z h0 nd (.ref ks)) (F_value_nd : fF22 Z h0 nd tv) (F_next_nd : fF23 Z h0 nd .null) (E_ks : fE1 Z h0 ks) (F_value_ks : fF1 Z h0 ks (.ref vk)) (F_coder_ks : fF2 Z h0 ks (.int (0 : Int32))) (V_vk : Arv Z h0 vk kvk .byte (1 : Int32) [(.int (own_lo ec))] (.int (0 : Int32))) (ne_a1_ks : a1 ≠ ks) (htv : tv.isRef = true) (hgv : own_gv ec qc tv = .ref tb) (S_UNTOLD : Sta Z Z.heap "com/example/brickwork/brickwork/wire/Protocol$Knowledge" "UNTOLD" "Lcom/example/brickwork/brickwork/wire/Protocol$Knowledge;" (.ref ku)) (E_tb : fE4 Z h0 tb) (F_knowledge_tb : fF11 Z h0 tb (.ref ku)) (F_directory_tb : fF12 Z h0 tb (.long dr)) (F_tables_tb : fF13 Z h0 tb (.ref al)) (E_al : fE2 Z h0 al) (F_modCount_al : fF5 Z h0 al (.int (2 : Int32))) (F_size_al : fF6 Z h0 al (.int (2 : Int32))) (F_elementData_al : fF7 Z h0 al (.ref ed)) (V_ed : Arv Z h0 ed ke (.object "java/lang/Object") (10 : Int32) [(.ref x1), (.ref x2), .null, .null, .null, .null, .null, .null, .null, .null] .null) (E_nN : fE1 Z h0 nN) (F_coder_nN : fF2 Z h0 nN (.int (0 : Int32))) (F_value_nN : fF1 Z h0 nN (.ref uN)) (V_uN : Arv Z h0 uN kN .byte (2 : Int32) [(.int (own_lo x3)), (.int (own_lo y3))] (.int (0 : Int32))) (E_x1 : fE3 Z h0 x1) (F_name_x1 : fF8 Z h0 x1 (.ref nA)) (E_nA : fE1 Z h0 nA) (F_coder_nA : fF2 Z h0 nA (.int (0 : Int32))) (F_value_nA : fF1 Z h0 nA (.ref uA)) (V_uA : Arv Z h0 uA kA .byte (3 : Int32) (own_vs LA) (.int (0 : Int32))) (ne_nA_nN : nA ≠ nN) (ne_a1_nA : a1 ≠ nA) (ne_a1_nN : a1 ≠ nN) (E_x2 : fE3 Z h0 x2) (F_name_x2 : fF8 Z h0 x2 (.ref nB)) (E_nB : fE1 Z h0 nB) (F_coder_nB : fF2 Z h0 nB (.int (0 : Int32))) (F_value_nB : fF1 Z h0 nB (.ref uB)) (V_uB : Arv Z h0 uB kB .byte (2 : Int32) [(.int (own_lo x0)), (.int (own_lo y0))] (.int (0 : Int32))) (ne_nB_nN : nB ≠ nN) (ne_a1_nB : a1 ≠ nB) (hx0 : own_lo x0 = own_lo x3) (hx1 : own_lo y0 = own_lo y3) :
    own_Met l mN64 kC56 6 (some .boolean) ws (own_rm 8 1 4 116) Z h0 #[(.ref ct), (.ref a1), (.ref nN), (.long fl)] (Q_rmSpk2e Z ct am hm tab kt nd tv ec ks vk kvk a1 gz va kva qc hv zv tb dr al ku ed ke x1 nA uA kA LA nN uN kN x2 nB uB kB x0 y0 x3 y3 fl h0 n0) := by
  refine own_met (plainFor_of_name pn_14) (fun m => ef_rmSpk2e m ct a1 nN fl) ?_
  intro p e s m below meth c s₁ Φ hΦ X0 hx hby hml hown hnm hret hlk hZ e0
  have B : own_B p c _ _ := ⟨hx, hby, hml⟩
  have K0 : Keep h0 h0 [a1] := Keep.refl _ _
  have nz_ct_a1 : ct ≠ a1 := Exa.ne E_ct E_a1 (by decide)
  have nz_a1_va : a1 ≠ va := Exa.neArv E_a1 V_va (wd_2 hw)
  have nz_hm_a1 : hm ≠ a1 := Exa.ne E_hm E_a1 (by decide)
  have nz_a1_tab : a1 ≠ tab := Exa.neArv E_a1 V_tab (wd_2 hw)
  have nz_nd_a1 : nd ≠ a1 := Exa.ne E_nd E_a1 (by decide)
  have nz_a1_vk : a1 ≠ vk := Exa.neArv E_a1 V_vk (wd_2 hw)
  have nz_tb_a1 : tb ≠ a1 := Exa.ne E_tb E_a1 (by decide)
  have nz_al_a1 : al ≠ a1 := Exa.ne E_al E_a1 (by decide)
  have nz_a1_ed : a1 ≠ ed := Exa.neArv E_a1 V_ed (wd_2 hw)
  have nz_a1_uN : a1 ≠ uN := Exa.neArv E_a1 V_uN (wd_2 hw)
  have nz_x1_a1 : x1 ≠ a1 := Exa.ne E_x1 E_a1 (by decide)
  have nz_a1_uA : a1 ≠ uA := Exa.neArv E_a1 V_uA (wd_2 hw)
  have nz_x2_a1 : x2 ≠ a1 := Exa.ne E_x2 E_a1 (by decide)
  have nz_a1_uB : a1 ≠ uB := Exa.neArv E_a1 V_uB (wd_2 hw)
  show own_G p e below Φ s₁ (mkF m 0 #[vr ct, vr a1, vr nN, vj fl, .second, .unset] [])
  refine o_aloadN X0 B d37_0 rfl rfl ?_
  refine o_aloadN X0 B d37_1 rfl rfl ?_
  refine o_cV (argsL := [(.ref a1)]) (rest := []) X0 B hZ hown (wd_260 hw) (wd_261 hw) (wd_263 hw) (wd_262 hw) (wd_264 hw) (wd_224 hw) (by decide) E_ct 0 (rmUtsL l Z a0 hw [] ct am hm tab kt nd tv ec ks vk kvk a1 gz va kva qc hv zv tb dr al ku h0 n0 Z0 E_ct F_answers_ct D_am ne_am_a1 O0 S_COMPACT_STRINGS hgz E_a1 F_value_a1 F_coder_a1 V_va F_hash_a1 F_hashIsZero_a1 g_a1 hr hi E_hm F_table_hm V_tab E_nd F_hash_nd F_key_nd F_value_nd F_next_nd E_ks F_value_ks F_coder_ks V_vk ne_a1_ks htv hgv S_UNTOLD E_tb F_knowledge_tb F_directory_tb F_tables_tb) (by decide) (by decide) (lenOf pd_36 rfl) rfl rfl rfl d37_2 e0 (by decide) (by decide) rfl ?_
  rintro _ T1 _ X1 ⟨hv2_1, zv2_1, rfl, N1q, Kq1, p1_0, p1_1, p1_2, p1_3, p1_4, p1_5⟩
  have K1 := K0.trans Kq1 (allS (Or.inl (List.mem_of_getElem? (i := 0) rfl)) all0)
  have Zp1 : n0 ≤ T1.heap.size := Nat.le_trans Z0 Kq1.1
  have O2 := O0.keep Kq1 (allS g_a1 all0)
  refine o_ifN X1 B d37_5 (XT.i0_eq_f (by decide : ¬ ((1 : Int32) = (0 : Int32)))) ?_
  refine o_aloadN X1 B d37_8 rfl rfl ?_
  refine o_aloadN X1 B d37_9 rfl rfl ?_
  refine o_aloadN X1 B d37_10 rfl rfl ?_
  have f_1 := E_ct.keep K1
  refine o_cV (argsL := [(.ref a1), (.ref nN)]) (rest := []) X1 B hZ hown (wd_325 hw) (wd_326 hw) (wd_328 hw) (wd_327 hw) (wd_329 hw) (wd_224 hw) (by decide) f_1 0 (rmLst2e l Z a0 hw [] ct am hm tab kt nd tv ec ks vk kvk a1 gz va kva qc hv2_1 zv2_1 tb dr al ku ed ke x1 nA uA kA LA nN uN kN x2 nB uB kB x0 y0 x3 y3 T1.heap n0 Zp1 f_1 (F_answers_ct.keep K1 (ninS nz_ct_a1 nin0)) (D_am.keep K1 (ninS ne_am_a1 nin0)) ne_am_a1 O2 S_COMPACT_STRINGS hgz p1_0 p1_1 p1_2 (V_va.keep K1 (ninS (Ne.symm nz_a1_va) nin0)) p1_3 p1_4 g_a1 hr p1_5 (E_hm.keep K1) (F_table_hm.keep K1 (ninS nz_hm_a1 nin0)) (V_tab.keep K1 (ninS (Ne.symm nz_a1_tab) nin0)) (E_nd.keep K1) (F_hash_nd.keep K1 (ninS nz_nd_a1 nin0)) (F_key_nd.keep K1 (ninS nz_nd_a1 nin0)) (F_value_nd.keep K1 (ninS nz_nd_a1 nin0)) (F_next_nd.keep K1 (ninS nz_nd_a1 nin0)) (E_ks.keep K1) (F_value_ks.keep K1 (ninS (Ne.symm ne_a1_ks) nin0)) (F_coder_ks.keep K1 (ninS (Ne.symm ne_a1_ks) nin0)) (V_vk.keep K1 (ninS (Ne.symm nz_a1_vk) nin0)) ne_a1_ks htv hgv (E_tb.keep K1) (F_knowledge_tb.keep K1 (ninS nz_tb_a1 nin0)) (F_directory_tb.keep K1 (ninS nz_tb_a1 nin0)) (F_tables_tb.keep K1 (ninS nz_tb_a1 nin0)) (E_al.keep K1) (F_modCount_al.keep K1 (ninS nz_al_a1 nin0)) (F_size_al.keep K1 (ninS nz_al_a1 nin0)) (F_elementData_al.keep K1 (ninS nz_al_a1 nin0)) (V_ed.keep K1 (ninS (Ne.symm nz_a1_ed) nin0)) (E_nN.keep K1) (F_coder_nN.keep K1 (ninS (Ne.symm ne_a1_nN) nin0)) (F_value_nN.keep K1 (ninS (Ne.symm ne_a1_nN) nin0)) (V_uN.keep K1 (ninS (Ne.symm nz_a1_uN) nin0)) (E_x1.keep K1) (F_name_x1.keep K1 (ninS nz_x1_a1 nin0)) (E_nA.keep K1) (F_coder_nA.keep K1 (ninS (Ne.symm ne_a1_nA) nin0)) (F_value_nA.keep K1 (ninS (Ne.symm ne_a1_nA) nin0)) (V_uA.keep K1 (ninS (Ne.symm nz_a1_uA) nin0)) ne_nA_nN ne_a1_nA ne_a1_nN (E_x2.keep K1) (F_name_x2.keep K1 (ninS nz_x2_a1 nin0)) (E_nB.keep K1) (F_coder_nB.keep K1 (ninS (Ne.symm ne_a1_nB) nin0)) (F_value_nB.keep K1 (ninS (Ne.symm ne_a1_nB) nin0)) (V_uB.keep K1 (ninS (Ne.symm nz_a1_uB) nin0)) ne_nB_nN ne_a1_nB hx0 hx1) (by decide) (by decide) (lenOf pd_39 rfl) rfl rfl rfl d37_11 rfl (by decide) (by decide) rfl ?_
  rintro _ T3 _ X3 ⟨hv2_3, zv2_3, rfl, N3q, Kq3, p3_0, p3_1, p3_2, p3_3, p3_4, p3_5⟩
  have K3 := K1.trans Kq3 (allS (Or.inl (List.mem_of_getElem? (i := 0) rfl)) all0)
  have Zp3 : n0 ≤ T3.heap.size := Nat.le_trans Zp1 Kq3.1
  refine o_ifnonnullY X3 B 21 d37_14 rfl ?_
  refine o_iconst X3 B d37_21 ?_
  refine o_istore (L' := #[vr ct, vr a1, vr nN, vj fl, .second, vi 0]) X3 B d37_22 rfl ?_
  refine o_lloadN X3 B d37_24 rfl ?_
  refine o_aloadN X3 B d37_25 rfl rfl ?_
  refine o_aloadN X3 B d37_26 rfl rfl ?_
  have f_42 := E_ct.keep K3
  refine o_cV (argsL := [(.ref a1)]) (rest := [(.long fl)]) X3 B hZ hown (wd_288 hw) (wd_289 hw) (wd_291 hw) (wd_290 hw) (wd_292 hw) (wd_224 hw) (by decide) f_42 2 (rmDrsF l Z a0 hw [] ct am hm tab kt nd tv ec ks vk kvk a1 gz va kva qc hv2_3 zv2_3 tb dr al ku T3.heap n0 Zp3 f_42 (F_answers_ct.keep K3 (ninS nz_ct_a1 nin0)) (D_am.keep K3 (ninS ne_am_a1 nin0)) ne_am_a1 (O2.keep Kq3 (allS g_a1 all0)) S_COMPACT_STRINGS hgz p3_0 p3_1 p3_2 (V_va.keep K3 (ninS (Ne.symm nz_a1_va) nin0)) p3_3 p3_4 g_a1 hr p3_5 (E_hm.keep K3) (F_table_hm.keep K3 (ninS nz_hm_a1 nin0)) (V_tab.keep K3 (ninS (Ne.symm nz_a1_tab) nin0)) (E_nd.keep K3) (F_hash_nd.keep K3 (ninS nz_nd_a1 nin0)) (F_key_nd.keep K3 (ninS nz_nd_a1 nin0)) (F_value_nd.keep K3 (ninS nz_nd_a1 nin0)) (F_next_nd.keep K3 (ninS nz_nd_a1 nin0)) (E_ks.keep K3) (F_value_ks.keep K3 (ninS (Ne.symm ne_a1_ks) nin0)) (F_coder_ks.keep K3 (ninS (Ne.symm ne_a1_ks) nin0)) (V_vk.keep K3 (ninS (Ne.symm nz_a1_vk) nin0)) ne_a1_ks htv hgv (E_tb.keep K3) (F_knowledge_tb.keep K3 (ninS nz_tb_a1 nin0)) (F_directory_tb.keep K3 (ninS nz_tb_a1 nin0)) (F_tables_tb.keep K3 (ninS nz_tb_a1 nin0))) (by decide) (by decide) (lenOf pd_37 rfl) rfl rfl rfl d37_27 rfl (by decide) (by decide) rfl ?_
  rintro _ T5 _ X5 ⟨hv2_5, zv2_5, rfl, N5q, Kq5, p5_0, p5_1, p5_2, p5_3, p5_4, p5_5⟩
  have K5 := K3.trans Kq5 (allS (Or.inl (List.mem_of_getElem? (i := 0) rfl)) all0)
  refine o_iload X5 B d37_30 rfl ?_
  refine o_cS (argsL := [(.long fl), (.long dr), (.int (0 : Int32))]) (rest := []) X5 B hZ hown (wd_293 hw) (wd_294 hw) (wd_295 hw) (wd_224 hw) (by decide) 0 (rmSpj0 l Z a0 hw [] fl dr T5.heap n0 (Nat.le_trans Zp3 Kq5.1) ) (by decide) (by decide) (lenOf pd_38 rfl) rfl rfl rfl d37_32 rfl (by decide) (by decide) rfl ?_
  rintro _ T7 _ X7 ⟨rfl, N7q, hs7⟩
  exact o_rZ X7 B hΦ hlk hret (by simp) d37_35 (nar .boolean (own_sp fl dr (0 : Int32))) rfl hs7 (by decide) (by decide) ⟨hv2_5, zv2_5, (congrArg (fun z => some (Value.int z)) (own_sp_nar _ _ _)), (Fr.app (Fr.app (Fr.app (Fr.app (Fr.nil n0) N1q) N3q) N5q) N7q), K5, p5_0, p5_1, p5_2, p5_3, p5_4, p5_5⟩
theorem pd_40 : parseMethodDescriptor "([C)V" = some ⟨[(.array .char)], none⟩ := by decide +kernel
theorem pd_41 : parseMethodDescriptor "(C)Ljava/lang/String;" = some ⟨[.char], some (.object "java/lang/String")⟩ := by decide +kernel
theorem pd_42 : parseMethodDescriptor "(Ljava/lang/String;Lcom/example/brickwork/brickwork/wire/Protocol$Standing;[B)V" = some ⟨[(.object "java/lang/String"), (.object "com/example/brickwork/brickwork/wire/Protocol$Standing"), (.array .byte)], none⟩ := by decide +kernel
theorem pd_43 : parseMethodDescriptor "(Ljava/lang/Object;Ljava/lang/Object;)Ljava/lang/Object;" = some ⟨[(.object "java/lang/Object"), (.object "java/lang/Object")], some (.object "java/lang/Object")⟩ := by decide +kernel
theorem pd_44 : parseMethodDescriptor "(Ljava/lang/String;Ljava/lang/String;J)Z" = some ⟨[(.object "java/lang/String"), (.object "java/lang/String"), .long], some .boolean⟩ := by decide +kernel
theorem pd_45 : parseMethodDescriptor "(Lcom/example/brickwork/brickwork/wire/Protocol$Knowledge;JLjava/util/List;Ljava/util/List;)V" = some ⟨[(.object "com/example/brickwork/brickwork/wire/Protocol$Knowledge"), .long, (.object "java/util/List"), (.object "java/util/List")], none⟩ := by decide +kernel
theorem pn_16 : plainName "com/example/brickwork/brickwork/CatalogueSpeaksForPinLaw" = true := by first | (simp [plainName, overriddenIn]; done) | decide +kernel
theorem ef_rm0 (m : MethodId) (p0 : Int32) (j1 : Int64) (j3 : Int64) (p3 : Int32) (p4 : Int32) : entryFrame m #[(.int p0), (.long j1), (.long j3), (.int p3), (.int p4)] maxLocals = mkF m 0 #[vi p0, vj j1, .second, vj j3, .second, vi p3, vi p4, .unset, .unset, .unset, .unset, .unset, .unset, .unset, .unset, .unset, .unset, .unset, .unset, .unset, .unset, .unset, .unset, .unset, .unset, .unset, .unset, .unset, .unset, .unset, .unset, .unset, .unset, .unset, .unset, .unset, .unset, .unset, .unset, .unset, .unset, .unset, .unset, .unset, .unset] [] := by first | (simp [entryFrame, mkF, argsToLocals, Value.category, maxLocals]; done) | rfl
def Q_rm0 (Z : State) (p0 : Int32) (j1 : Int64) (j3 : Int64) (p3 : Int32) (p4 : Int32) (gz : Int32) (de : Addr) (kd : ClassId) (kl : Addr) (kk : Addr) (ku : Addr) (mh : Addr) (mu : Addr) (h0 : Heap) (n0 : Nat) (v : Option Value) (h : Heap) (L : List Loc) : Prop := v = some (.int (1 : Int32)) ∧ Fr n0 L
theorem rm0 (l : Launch) (Z : State) (a0 : Array Value) (hw : own_H Z a0) (ws : List Jvm.Cond) (p0 : Int32) (j1 : Int64) (j3 : Int64) (p3 : Int32) (p4 : Int32) (gz : Int32) (de : Addr) (kd : ClassId) (kl : Addr) (kk : Addr) (ku : Addr) (mh : Addr) (mu : Addr) (h0 : Heap) (n0 : Nat) (Z0 : n0 ≤ h0.size) (O0 : Old Z n0 h0) (S_COMPACT_STRINGS : Sta Z Z.heap "java/lang/String" "COMPACT_STRINGS" "Z" (.int gz)) (hgz : ¬ gz = (0 : Int32)) (S_DEFAULTCAPACITY_EMPTY_ELEMENTDATA : Sta Z Z.heap "java/util/ArrayList" "DEFAULTCAPACITY_EMPTY_ELEMENTDATA" "[Ljava/lang/Object;" (.ref de)) (V_de : Arv Z h0 de kd (.object "java/lang/Object") (0 : Int32) [] .null) (S_LEARNING : Sta Z Z.heap "com/example/brickwork/brickwork/wire/Protocol$Knowledge" "LEARNING" "Lcom/example/brickwork/brickwork/wire/Protocol$Knowledge;" (.ref kl)) (S_KNOWN : Sta Z Z.heap "com/example/brickwork/brickwork/wire/Protocol$Knowledge" "KNOWN" "Lcom/example/brickwork/brickwork/wire/Protocol$Knowledge;" (.ref kk)) (S_UNTOLD : Sta Z Z.heap "com/example/brickwork/brickwork/wire/Protocol$Knowledge" "UNTOLD" "Lcom/example/brickwork/brickwork/wire/Protocol$Knowledge;" (.ref ku)) (ne_kl_ku : kl ≠ ku) (ne_kk_ku : kk ≠ ku) (hmh : own_Mir Z "java/util/HashMap" mh) (hmu : own_Mir Z "java/util/Collections$UnmodifiableMap" mu) :
    own_Met l x code maxLocals ret ws room_1 Z h0 #[(.int p0), (.long j1), (.long j3), (.int p3), (.int p4)] (Q_rm0 Z p0 j1 j3 p3 p4 gz de kd kl kk ku mh mu h0 n0) := by
  refine own_met (plainFor_of_name pn_16) (fun m => ef_rm0 m p0 j1 j3 p3 p4) ?_
  intro p e s m below meth c s₁ Φ hΦ X0 hx hby hml hown hnm hret hlk hZ e0
  have N0 := Fr.nil n0
  have B : own_B p c _ _ := ⟨hx, hby, hml⟩
  show own_G p e below Φ s₁ (mkF m 0 #[vi p0, vj j1, .second, vj j3, .second, vi p3, vi p4, .unset, .unset, .unset, .unset, .unset, .unset, .unset, .unset, .unset, .unset, .unset, .unset, .unset, .unset, .unset, .unset, .unset, .unset, .unset, .unset, .unset, .unset, .unset, .unset, .unset, .unset, .unset, .unset, .unset, .unset, .unset, .unset, .unset, .unset, .unset, .unset, .unset, .unset] [])
  refine o_iloadN X0 B at_0 rfl ?_
  refine o_iconst X0 B at_1 ?_
  refine o_iand X0 B at_2 ?_
  refine o_istore (L' := #[vi p0, vj j1, .second, vj j3, .second, vi p3, vi p4, .val (.int (p0 &&& (3 : Int32))), .unset, .unset, .unset, .unset, .unset, .unset, .unset, .unset, .unset, .unset, .unset, .unset, .unset, .unset, .unset, .unset, .unset, .unset, .unset, .unset, .unset, .unset, .unset, .unset, .unset, .unset, .unset, .unset, .unset, .unset, .unset, .unset, .unset, .unset, .unset, .unset, .unset]) X0 B at_3 rfl ?_
  show own_G p e below Φ s₁ (mkF m 5 #[vi p0, vj j1, .second, vj j3, .second, vi p3, vi p4, .val (.int (p0 &&& (3 : Int32))), .unset, .unset, .unset, .unset, .unset, .unset, .unset, .unset, .unset, .unset, .unset, .unset, .unset, .unset, .unset, .unset, .unset, .unset, .unset, .unset, .unset, .unset, .unset, .unset, .unset, .unset, .unset, .unset, .unset, .unset, .unset, .unset, .unset, .unset, .unset, .unset, .unset] [])
  generalize hx7_3 : (p0 &&& (3 : Int32)) = x7_3
  refine o_iloadN X0 B at_5 rfl ?_
  refine o_iconst X0 B at_6 ?_
  refine o_iand X0 B at_7 ?_
  have hJ16_1 : ∀ (T' : State) (l' : List Loc), own_AlL X0 T' l' 0 0 → Fr n0 l' → T'.heap = h0 → ∀ (z8 : Int32), own_G p e below Φ T' (mkF m 16 #[vi p0, vj j1, .second, vj j3, .second, vi p3, vi p4, vi x7_3, .unset, .unset, .unset, .unset, .unset, .unset, .unset, .unset, .unset, .unset, .unset, .unset, .unset, .unset, .unset, .unset, .unset, .unset, .unset, .unset, .unset, .unset, .unset, .unset, .unset, .unset, .unset, .unset, .unset, .unset, .unset, .unset, .unset, .unset, .unset, .unset, .unset] [(.int z8)]) := by
    intro T1 l1 X1' N1 e1 z8
    have X1 : Stand _ _ _ _ _ _ _ _ _ _ T1 _ _ _ := X1'
    refine o_istore (L' := #[vi p0, vj j1, .second, vj j3, .second, vi p3, vi p4, vi x7_3, vi z8, .unset, .unset, .unset, .unset, .unset, .unset, .unset, .unset, .unset, .unset, .unset, .unset, .unset, .unset, .unset, .unset, .unset, .unset, .unset, .unset, .unset, .unset, .unset, .unset, .unset, .unset, .unset, .unset, .unset, .unset, .unset, .unset, .unset, .unset, .unset, .unset]) X1 B at_16 rfl ?_
    refine o_iloadN X1 B at_18 rfl ?_
    refine o_bipush X1 B at_19 ?_
    refine o_iand X1 B at_21 ?_
    have hJ30_2 : ∀ (T' : State) (l' : List Loc), own_AlL X1 T' l' 0 0 → Fr n0 l' → T'.heap = h0 → ∀ (z9 : Int32), own_G p e below Φ T' (mkF m 30 #[vi p0, vj j1, .second, vj j3, .second, vi p3, vi p4, vi x7_3, vi z8, .unset, .unset, .unset, .unset, .unset, .unset, .unset, .unset, .unset, .unset, .unset, .unset, .unset, .unset, .unset, .unset, .unset, .unset, .unset, .unset, .unset, .unset, .unset, .unset, .unset, .unset, .unset, .unset, .unset, .unset, .unset, .unset, .unset, .unset, .unset, .unset] [(.int z9)]) := by
      intro T2 l2 X2' N2 e2 z9
      have X2 : Stand _ _ _ _ _ _ _ _ _ _ T2 _ _ _ := X2'
      refine o_istore (L' := #[vi p0, vj j1, .second, vj j3, .second, vi p3, vi p4, vi x7_3, vi z8, vi z9, .unset, .unset, .unset, .unset, .unset, .unset, .unset, .unset, .unset, .unset, .unset, .unset, .unset, .unset, .unset, .unset, .unset, .unset, .unset, .unset, .unset, .unset, .unset, .unset, .unset, .unset, .unset, .unset, .unset, .unset, .unset, .unset, .unset, .unset, .unset]) X2 B at_30 rfl ?_
      refine o_iloadN X2 B at_32 rfl ?_
      refine o_bipush X2 B at_33 ?_
      refine o_iand X2 B at_35 ?_
      have hJ44_3 : ∀ (T' : State) (l' : List Loc), own_AlL X2 T' l' 0 0 → Fr n0 l' → T'.heap = h0 → ∀ (z10 : Int32), own_G p e below Φ T' (mkF m 44 #[vi p0, vj j1, .second, vj j3, .second, vi p3, vi p4, vi x7_3, vi z8, vi z9, .unset, .unset, .unset, .unset, .unset, .unset, .unset, .unset, .unset, .unset, .unset, .unset, .unset, .unset, .unset, .unset, .unset, .unset, .unset, .unset, .unset, .unset, .unset, .unset, .unset, .unset, .unset, .unset, .unset, .unset, .unset, .unset, .unset, .unset, .unset] [(.int z10)]) := by
        intro T3 l3 X3' N3 e3 z10
        have X3 : Stand _ _ _ _ _ _ _ _ _ _ T3 _ _ _ := X3'
        refine o_istore (L' := #[vi p0, vj j1, .second, vj j3, .second, vi p3, vi p4, vi x7_3, vi z8, vi z9, vi z10, .unset, .unset, .unset, .unset, .unset, .unset, .unset, .unset, .unset, .unset, .unset, .unset, .unset, .unset, .unset, .unset, .unset, .unset, .unset, .unset, .unset, .unset, .unset, .unset, .unset, .unset, .unset, .unset, .unset, .unset, .unset, .unset, .unset, .unset]) X3 B at_44 rfl ?_
        refine o_iloadN X3 B at_46 rfl ?_
        show own_G p e below Φ T3 (mkF m 47 #[vi p0, vj j1, .second, vj j3, .second, vi p3, vi p4, vi x7_3, vi z8, vi z9, vi z10, .unset, .unset, .unset, .unset, .unset, .unset, .unset, .unset, .unset, .unset, .unset, .unset, .unset, .unset, .unset, .unset, .unset, .unset, .unset, .unset, .unset, .unset, .unset, .unset, .unset, .unset, .unset, .unset, .unset, .unset, .unset, .unset, .unset, .unset] [(.int p0)])
        refine o_bipush X3 B at_47 ?_
        refine o_iand X3 B at_49 ?_
        have hJ58_4 : ∀ (T' : State) (l' : List Loc), own_AlL X3 T' l' 0 0 → Fr n0 l' → T'.heap = h0 → ∀ (z11 : Int32), own_G p e below Φ T' (mkF m 58 #[vi p0, vj j1, .second, vj j3, .second, vi p3, vi p4, vi x7_3, vi z8, vi z9, vi z10, .unset, .unset, .unset, .unset, .unset, .unset, .unset, .unset, .unset, .unset, .unset, .unset, .unset, .unset, .unset, .unset, .unset, .unset, .unset, .unset, .unset, .unset, .unset, .unset, .unset, .unset, .unset, .unset, .unset, .unset, .unset, .unset, .unset, .unset] [(.int z11)]) := by
          intro T4 l4 X4' N4 e4 z11
          have X4 : Stand _ _ _ _ _ _ _ _ _ _ T4 _ _ _ := X4'
          refine o_istore (L' := #[vi p0, vj j1, .second, vj j3, .second, vi p3, vi p4, vi x7_3, vi z8, vi z9, vi z10, vi z11, .unset, .unset, .unset, .unset, .unset, .unset, .unset, .unset, .unset, .unset, .unset, .unset, .unset, .unset, .unset, .unset, .unset, .unset, .unset, .unset, .unset, .unset, .unset, .unset, .unset, .unset, .unset, .unset, .unset, .unset, .unset, .unset, .unset]) X4 B at_58 rfl ?_
          refine o_iloadN X4 B at_60 rfl ?_
          refine o_bipush X4 B at_61 ?_
          refine o_iand X4 B at_63 ?_
          have hJ72_5 : ∀ (T' : State) (l' : List Loc), own_AlL X4 T' l' 0 0 → Fr n0 l' → T'.heap = h0 → ∀ (z12 : Int32), own_G p e below Φ T' (mkF m 72 #[vi p0, vj j1, .second, vj j3, .second, vi p3, vi p4, vi x7_3, vi z8, vi z9, vi z10, vi z11, .unset, .unset, .unset, .unset, .unset, .unset, .unset, .unset, .unset, .unset, .unset, .unset, .unset, .unset, .unset, .unset, .unset, .unset, .unset, .unset, .unset, .unset, .unset, .unset, .unset, .unset, .unset, .unset, .unset, .unset, .unset, .unset, .unset] [(.int z12)]) := by
            intro T5 l5 X5' N5 e5 z12
            have X5 : Stand _ _ _ _ _ _ _ _ _ _ T5 _ _ _ := X5'
            refine o_istore (L' := #[vi p0, vj j1, .second, vj j3, .second, vi p3, vi p4, vi x7_3, vi z8, vi z9, vi z10, vi z11, vi z12, .unset, .unset, .unset, .unset, .unset, .unset, .unset, .unset, .unset, .unset, .unset, .unset, .unset, .unset, .unset, .unset, .unset, .unset, .unset, .unset, .unset, .unset, .unset, .unset, .unset, .unset, .unset, .unset, .unset, .unset, .unset, .unset]) X5 B at_72 rfl ?_
            refine o_iloadN X5 B at_74 rfl ?_
            refine o_bipush X5 B at_75 ?_
            refine o_iushr X5 B at_77 ?_
            refine o_iconst X5 B at_78 ?_
            refine o_iand X5 B at_79 ?_
            refine o_istore (L' := #[vi p0, vj j1, .second, vj j3, .second, vi p3, vi p4, vi x7_3, vi z8, vi z9, vi z10, vi z11, vi z12, .val (.int (((p0.toUInt32 >>> ((7 : Int32) &&& 31).toUInt32).toInt32) &&& (3 : Int32))), .unset, .unset, .unset, .unset, .unset, .unset, .unset, .unset, .unset, .unset, .unset, .unset, .unset, .unset, .unset, .unset, .unset, .unset, .unset, .unset, .unset, .unset, .unset, .unset, .unset, .unset, .unset, .unset, .unset, .unset, .unset]) X5 B at_80 rfl ?_
            show own_G p e below Φ T5 (mkF m 82 #[vi p0, vj j1, .second, vj j3, .second, vi p3, vi p4, vi x7_3, vi z8, vi z9, vi z10, vi z11, vi z12, .val (.int (((p0.toUInt32 >>> ((7 : Int32) &&& 31).toUInt32).toInt32) &&& (3 : Int32))), .unset, .unset, .unset, .unset, .unset, .unset, .unset, .unset, .unset, .unset, .unset, .unset, .unset, .unset, .unset, .unset, .unset, .unset, .unset, .unset, .unset, .unset, .unset, .unset, .unset, .unset, .unset, .unset, .unset, .unset, .unset] [])
            generalize hx13_80 : (((p0.toUInt32 >>> ((7 : Int32) &&& 31).toUInt32).toInt32) &&& (3 : Int32)) = x13_80
            refine o_iload X5 B at_82 rfl ?_
            have hJ92_6 : ∀ (T' : State) (l' : List Loc), own_AlL X5 T' l' 0 0 → Fr n0 l' → T'.heap = h0 → ∀ (j14 : Int64), own_G p e below Φ T' (mkF m 92 #[vi p0, vj j1, .second, vj j3, .second, vi p3, vi p4, vi x7_3, vi z8, vi z9, vi z10, vi z11, vi z12, vi x13_80, .unset, .unset, .unset, .unset, .unset, .unset, .unset, .unset, .unset, .unset, .unset, .unset, .unset, .unset, .unset, .unset, .unset, .unset, .unset, .unset, .unset, .unset, .unset, .unset, .unset, .unset, .unset, .unset, .unset, .unset, .unset] [(.long j14)]) := by
              intro T6 l6 X6' N6 e6 j14
              have X6 : Stand _ _ _ _ _ _ _ _ _ _ T6 _ _ _ := X6'
              refine o_lstore (L' := #[vi p0, vj j1, .second, vj j3, .second, vi p3, vi p4, vi x7_3, vi z8, vi z9, vi z10, vi z11, vi z12, vi x13_80, vj j14, .second, .unset, .unset, .unset, .unset, .unset, .unset, .unset, .unset, .unset, .unset, .unset, .unset, .unset, .unset, .unset, .unset, .unset, .unset, .unset, .unset, .unset, .unset, .unset, .unset, .unset, .unset, .unset, .unset, .unset]) X6 B at_92 rfl ?_
              refine o_iload X6 B at_94 rfl ?_
              have hJ114_7 : ∀ (T' : State) (l' : List Loc), own_AlL X6 T' l' 0 0 → Fr n0 l' → T'.heap = h0 → ∀ (j16 : Int64), own_G p e below Φ T' (mkF m 114 #[vi p0, vj j1, .second, vj j3, .second, vi p3, vi p4, vi x7_3, vi z8, vi z9, vi z10, vi z11, vi z12, vi x13_80, vj j14, .second, .unset, .unset, .unset, .unset, .unset, .unset, .unset, .unset, .unset, .unset, .unset, .unset, .unset, .unset, .unset, .unset, .unset, .unset, .unset, .unset, .unset, .unset, .unset, .unset, .unset, .unset, .unset, .unset, .unset] [(.long j16)]) := by
                intro T7 l7 X7' N7 e7 j16
                have X7 : Stand _ _ _ _ _ _ _ _ _ _ T7 _ _ _ := X7'
                show own_G p e below Φ T7 (mkF m 114 #[vi p0, vj j1, .second, vj j3, .second, vi p3, vi p4, vi x7_3, vi z8, vi z9, vi z10, vi z11, vi z12, vi x13_80, vj j14, .second, .unset, .unset, .unset, .unset, .unset, .unset, .unset, .unset, .unset, .unset, .unset, .unset, .unset, .unset, .unset, .unset, .unset, .unset, .unset, .unset, .unset, .unset, .unset, .unset, .unset, .unset, .unset, .unset, .unset] [(.long j16)])
                refine o_lstore (L' := #[vi p0, vj j1, .second, vj j3, .second, vi p3, vi p4, vi x7_3, vi z8, vi z9, vi z10, vi z11, vi z12, vi x13_80, vj j14, .second, vj j16, .second, .unset, .unset, .unset, .unset, .unset, .unset, .unset, .unset, .unset, .unset, .unset, .unset, .unset, .unset, .unset, .unset, .unset, .unset, .unset, .unset, .unset, .unset, .unset, .unset, .unset, .unset, .unset]) X7 B at_114 rfl ?_
                refine o_iload X7 B at_116 rfl ?_
                refine o_sipush X7 B at_118 ?_
                refine o_iand X7 B at_121 ?_
                refine o_i2c X7 B at_122 ?_
                refine o_istore (L' := #[vi p0, vj j1, .second, vj j3, .second, vi p3, vi p4, vi x7_3, vi z8, vi z9, vi z10, vi z11, vi z12, vi x13_80, vj j14, .second, vj j16, .second, .val (.int ((p3 &&& (255 : Int32)).toUInt32.toUInt16.toUInt32.toInt32)), .unset, .unset, .unset, .unset, .unset, .unset, .unset, .unset, .unset, .unset, .unset, .unset, .unset, .unset, .unset, .unset, .unset, .unset, .unset, .unset, .unset, .unset, .unset, .unset, .unset, .unset]) X7 B at_123 rfl ?_
                show own_G p e below Φ T7 (mkF m 125 #[vi p0, vj j1, .second, vj j3, .second, vi p3, vi p4, vi x7_3, vi z8, vi z9, vi z10, vi z11, vi z12, vi x13_80, vj j14, .second, vj j16, .second, .val (.int ((p3 &&& (255 : Int32)).toUInt32.toUInt16.toUInt32.toInt32)), .unset, .unset, .unset, .unset, .unset, .unset, .unset, .unset, .unset, .unset, .unset, .unset, .unset, .unset, .unset, .unset, .unset, .unset, .unset, .unset, .unset, .unset, .unset, .unset, .unset, .unset] [])
                generalize hx18_123 : ((p3 &&& (255 : Int32)).toUInt32.toUInt16.toUInt32.toInt32) = x18_123
                refine o_iload X7 B at_125 rfl ?_
                refine o_bipush X7 B at_127 ?_
                refine o_iushr X7 B at_129 ?_
                refine o_sipush X7 B at_130 ?_
                refine o_iand X7 B at_133 ?_
                refine o_i2c X7 B at_134 ?_
                refine o_istore (L' := #[vi p0, vj j1, .second, vj j3, .second, vi p3, vi p4, vi x7_3, vi z8, vi z9, vi z10, vi z11, vi z12, vi x13_80, vj j14, .second, vj j16, .second, vi x18_123, .val (.int ((((p3.toUInt32 >>> ((8 : Int32) &&& 31).toUInt32).toInt32) &&& (255 : Int32)).toUInt32.toUInt16.toUInt32.toInt32)), .unset, .unset, .unset, .unset, .unset, .unset, .unset, .unset, .unset, .unset, .unset, .unset, .unset, .unset, .unset, .unset, .unset, .unset, .unset, .unset, .unset, .unset, .unset, .unset, .unset]) X7 B at_135 rfl ?_
                show own_G p e below Φ T7 (mkF m 137 #[vi p0, vj j1, .second, vj j3, .second, vi p3, vi p4, vi x7_3, vi z8, vi z9, vi z10, vi z11, vi z12, vi x13_80, vj j14, .second, vj j16, .second, vi x18_123, .val (.int ((((p3.toUInt32 >>> ((8 : Int32) &&& 31).toUInt32).toInt32) &&& (255 : Int32)).toUInt32.toUInt16.toUInt32.toInt32)), .unset, .unset, .unset, .unset, .unset, .unset, .unset, .unset, .unset, .unset, .unset, .unset, .unset, .unset, .unset, .unset, .unset, .unset, .unset, .unset, .unset, .unset, .unset, .unset, .unset] [])
                generalize hx19_135 : ((((p3.toUInt32 >>> ((8 : Int32) &&& 31).toUInt32).toInt32) &&& (255 : Int32)).toUInt32.toUInt16.toUInt32.toInt32) = x19_135
                refine o_iload X7 B at_137 rfl ?_
                refine o_bipush X7 B at_139 ?_
                refine o_iushr X7 B at_141 ?_
                refine o_sipush X7 B at_142 ?_
                refine o_iand X7 B at_145 ?_
                refine o_i2c X7 B at_146 ?_
                refine o_istore (L' := #[vi p0, vj j1, .second, vj j3, .second, vi p3, vi p4, vi x7_3, vi z8, vi z9, vi z10, vi z11, vi z12, vi x13_80, vj j14, .second, vj j16, .second, vi x18_123, vi x19_135, .val (.int ((((p3.toUInt32 >>> ((16 : Int32) &&& 31).toUInt32).toInt32) &&& (255 : Int32)).toUInt32.toUInt16.toUInt32.toInt32)), .unset, .unset, .unset, .unset, .unset, .unset, .unset, .unset, .unset, .unset, .unset, .unset, .unset, .unset, .unset, .unset, .unset, .unset, .unset, .unset, .unset, .unset, .unset, .unset]) X7 B at_147 rfl ?_
                show own_G p e below Φ T7 (mkF m 149 #[vi p0, vj j1, .second, vj j3, .second, vi p3, vi p4, vi x7_3, vi z8, vi z9, vi z10, vi z11, vi z12, vi x13_80, vj j14, .second, vj j16, .second, vi x18_123, vi x19_135, .val (.int ((((p3.toUInt32 >>> ((16 : Int32) &&& 31).toUInt32).toInt32) &&& (255 : Int32)).toUInt32.toUInt16.toUInt32.toInt32)), .unset, .unset, .unset, .unset, .unset, .unset, .unset, .unset, .unset, .unset, .unset, .unset, .unset, .unset, .unset, .unset, .unset, .unset, .unset, .unset, .unset, .unset, .unset, .unset] [])
                generalize hx20_147 : ((((p3.toUInt32 >>> ((16 : Int32) &&& 31).toUInt32).toInt32) &&& (255 : Int32)).toUInt32.toUInt16.toUInt32.toInt32) = x20_147
                show own_G p e below Φ T7 (mkF m 149 #[vi p0, vj j1, .second, vj j3, .second, vi p3, vi p4, vi x7_3, vi z8, vi z9, vi z10, vi z11, vi z12, vi x13_80, vj j14, .second, vj j16, .second, vi x18_123, vi x19_135, vi x20_147, .unset, .unset, .unset, .unset, .unset, .unset, .unset, .unset, .unset, .unset, .unset, .unset, .unset, .unset, .unset, .unset, .unset, .unset, .unset, .unset, .unset, .unset, .unset, .unset] [])
                refine o_iload X7 B at_149 rfl ?_
                refine o_bipush X7 B at_151 ?_
                refine o_iushr X7 B at_153 ?_
                refine o_sipush X7 B at_154 ?_
                refine o_iand X7 B at_157 ?_
                refine o_i2c X7 B at_158 ?_
                refine o_istore (L' := #[vi p0, vj j1, .second, vj j3, .second, vi p3, vi p4, vi x7_3, vi z8, vi z9, vi z10, vi z11, vi z12, vi x13_80, vj j14, .second, vj j16, .second, vi x18_123, vi x19_135, vi x20_147, .val (.int ((((p3.toUInt32 >>> ((24 : Int32) &&& 31).toUInt32).toInt32) &&& (255 : Int32)).toUInt32.toUInt16.toUInt32.toInt32)), .unset, .unset, .unset, .unset, .unset, .unset, .unset, .unset, .unset, .unset, .unset, .unset, .unset, .unset, .unset, .unset, .unset, .unset, .unset, .unset, .unset, .unset, .unset]) X7 B at_159 rfl ?_
                show own_G p e below Φ T7 (mkF m 161 #[vi p0, vj j1, .second, vj j3, .second, vi p3, vi p4, vi x7_3, vi z8, vi z9, vi z10, vi z11, vi z12, vi x13_80, vj j14, .second, vj j16, .second, vi x18_123, vi x19_135, vi x20_147, .val (.int ((((p3.toUInt32 >>> ((24 : Int32) &&& 31).toUInt32).toInt32) &&& (255 : Int32)).toUInt32.toUInt16.toUInt32.toInt32)), .unset, .unset, .unset, .unset, .unset, .unset, .unset, .unset, .unset, .unset, .unset, .unset, .unset, .unset, .unset, .unset, .unset, .unset, .unset, .unset, .unset, .unset, .unset] [])
                generalize hx21_159 : ((((p3.toUInt32 >>> ((24 : Int32) &&& 31).toUInt32).toInt32) &&& (255 : Int32)).toUInt32.toUInt16.toUInt32.toInt32) = x21_159
                have hr18 := own_c255 hx18_123
                have hr19 := own_c255 hx19_135
                have hr20 := own_c255 hx20_147
                have hr21 := own_c255 hx21_159
                refine o_iconst X7 B at_161 ?_
                refine o_np (aty := .char) X7 B hZ (wd_0 hw) e7 at_162 (by decide) 2 (by decide) (by decide) (by decide) (by decide) ?_
                intro T8 h8 ka8 ob8 g8 X8 e8 E8 V8'
                have ne_de_ob8 : de ≠ ob8 := Nat.ne_of_lt (Nat.lt_of_lt_of_le V_de.lt (Nat.le_of_eq g8.symm))
                have g_ob8 : n0 ≤ ob8 := Nat.le_trans Z0 (Nat.le_of_eq g8.symm)
                have V8 : Arv Z h8 ob8 ka8 .char (2 : Int32) [(.int (0 : Int32)), (.int (0 : Int32))] (.int (0 : Int32)) := V8'
                refine o_dup X8 B at_164 rfl ?_
                refine o_iconst X8 B at_165 ?_
                refine o_iload X8 B at_166 rfl ?_
                refine o_cst X8 B hZ e8 V8 ⟨by decide, by decide⟩ 0 rfl (Nat.le_of_ble_eq_true rfl) at_168 ?_
                intro T10 h10 X10 e10 W10 V10'
                rw [own_narc8 hr18] at V10'
                have V10 : Arv Z h10 ob8 ka8 .char (2 : Int32) [(.int x18_123), (.int (0 : Int32))] (.int (0 : Int32)) := V10'
                refine o_dup X10 B at_169 rfl ?_
                refine o_iconst X10 B at_170 ?_
                refine o_iload X10 B at_171 rfl ?_
                refine o_cst X10 B hZ e10 V10 ⟨by decide, by decide⟩ 1 rfl (Nat.le_of_ble_eq_true rfl) at_173 ?_
                intro T12 h12 X12 e12 W12 V12'
                rw [own_narc8 hr19] at V12'
                have V12 : Arv Z h12 ob8 ka8 .char (2 : Int32) [(.int x18_123), (.int x19_135)] (.int (0 : Int32)) := V12'
                have Zp12 : n0 ≤ h12.size := Nat.le_trans (Nat.le_trans (Nat.le_trans Z0 E8.1) (Keep.of_wr W10).1) (Keep.of_wr W12).1
                refine o_astore (L' := #[vi p0, vj j1, .second, vj j3, .second, vi p3, vi p4, vi x7_3, vi z8, vi z9, vi z10, vi z11, vi z12, vi x13_80, vj j14, .second, vj j16, .second, vi x18_123, vi x19_135, vi x20_147, vi x21_159, vr ob8, .unset, .unset, .unset, .unset, .unset, .unset, .unset, .unset, .unset, .unset, .unset, .unset, .unset, .unset, .unset, .unset, .unset, .unset, .unset, .unset, .unset, .unset]) X12 B at_174 rfl rfl ?_
                refine o_new X12 B hZ hown (wd_1 hw) (wd_2 hw) (wd_3 hw) e12 at_176 (by decide) (by decide) ?_
                intro T14 h14 ob14 g14 X14 e14 E14 A14 D14
                have f_3 := ((V_de.ext E8).other W10 ne_de_ob8).other W12 ne_de_ob8
                have ne_de_ob14 : de ≠ ob14 := Nat.ne_of_lt (Nat.lt_of_lt_of_le f_3.lt (Nat.le_of_eq g14.symm))
                have g_ob14 : n0 ≤ ob14 := Nat.le_trans Zp12 (Nat.le_of_eq g14.symm)
                have Zp14 : n0 ≤ h14.size := Nat.le_trans Zp12 E14.1
                have O15 := (((O0.ext E8).wr W10 g_ob8).wr W12 g_ob8).ext E14
                have F_coder_ob14 : fF2 Z h14 ob14 (.int (0 : Int32)) := D14 (Or.inr (wd_27 hw)) (ty := .byte) (by decide)
                have F_value_ob14 : fF1 Z h14 ob14 .null := D14 (Or.inr (wd_29 hw)) (ty := (.array .byte)) (by decide)
                refine o_dup X14 B at_179 rfl ?_
                show own_G p e below Φ T14 (mkF m 180 #[vi p0, vj j1, .second, vj j3, .second, vi p3, vi p4, vi x7_3, vi z8, vi z9, vi z10, vi z11, vi z12, vi x13_80, vj j14, .second, vj j16, .second, vi x18_123, vi x19_135, vi x20_147, vi x21_159, vr ob8, .unset, .unset, .unset, .unset, .unset, .unset, .unset, .unset, .unset, .unset, .unset, .unset, .unset, .unset, .unset, .unset, .unset, .unset, .unset, .unset, .unset, .unset] [(.ref ob14), (.ref ob14)])
                refine o_aload X14 B at_180 rfl rfl ?_
                refine o_cI (argsL := [(.ref ob8)]) (rest := [(.ref ob14)]) X14 B hZ hown rfl (wd_4 hw) (wd_5 hw) (wd_6 hw) (wd_3 hw) (by decide) rfl 1 (rmIn1_2 l Z a0 hw [] ob14 gz ob8 ka8 x18_123 x19_135 (.int (0 : Int32)) h14 n0 Zp14 O15 S_COMPACT_STRINGS hgz A14 F_value_ob14 F_coder_ob14 g_ob14 (V12.ext E14) hr18.2 hr19.2) (by decide) (by decide) (lenOf pd_40 rfl) rfl rfl rfl at_182 e14 (by decide) (by decide) rfl ?_
                rintro _ T16 _ X16 ⟨vb_16, ns_vb_16, kb_16, rfl, N16q, Kq16, p16_0, p16_1, p16_2, p16_3⟩
                have Zp16 : n0 ≤ T16.heap.size := Nat.le_trans Zp14 Kq16.1
                refine o_astore (L' := #[vi p0, vj j1, .second, vj j3, .second, vi p3, vi p4, vi x7_3, vi z8, vi z9, vi z10, vi z11, vi z12, vi x13_80, vj j14, .second, vj j16, .second, vi x18_123, vi x19_135, vi x20_147, vi x21_159, vr ob8, vr ob14, .unset, .unset, .unset, .unset, .unset, .unset, .unset, .unset, .unset, .unset, .unset, .unset, .unset, .unset, .unset, .unset, .unset, .unset, .unset, .unset, .unset]) X16 B at_185 rfl rfl ?_
                refine o_iconst X16 B at_187 ?_
                refine o_np (aty := .char) X16 B hZ (wd_0 hw) rfl at_188 (by decide) 3 (by decide) (by decide) (by decide) (by decide) ?_
                intro T18 h18 ka18 ob18 g18 X18 e18 E18 V18'
                have f_6 := (f_3.ext E14).keep Kq16 (ninS ne_de_ob14 nin0)
                have ne_de_ob18 : de ≠ ob18 := Nat.ne_of_lt (Nat.lt_of_lt_of_le f_6.lt (Nat.le_of_eq g18.symm))
                have ne_ob14_ob18 : ob14 ≠ ob18 := Nat.ne_of_lt (Nat.lt_of_lt_of_le p16_0.lt (Nat.le_of_eq g18.symm))
                have ne_vb_16_ob18 : vb_16 ≠ ob18 := Nat.ne_of_lt (Nat.lt_of_lt_of_le p16_3.lt (Nat.le_of_eq g18.symm))
                have g_ob18 : n0 ≤ ob18 := Nat.le_trans Zp16 (Nat.le_of_eq g18.symm)
                have V18 : Arv Z h18 ob18 ka18 .char (3 : Int32) [(.int (0 : Int32)), (.int (0 : Int32)), (.int (0 : Int32))] (.int (0 : Int32)) := V18'
                refine o_dup X18 B at_190 rfl ?_
                refine o_iconst X18 B at_191 ?_
                refine o_iload X18 B at_192 rfl ?_
                refine o_cst X18 B hZ e18 V18 ⟨by decide, by decide⟩ 0 rfl (Nat.le_of_ble_eq_true rfl) at_194 ?_
                intro T20 h20 X20 e20 W20 V20'
                rw [own_narc8 hr18] at V20'
                have V20 : Arv Z h20 ob18 ka18 .char (3 : Int32) [(.int x18_123), (.int (0 : Int32)), (.int (0 : Int32))] (.int (0 : Int32)) := V20'
                refine o_dup X20 B at_195 rfl ?_
                refine o_iconst X20 B at_196 ?_
                refine o_iload X20 B at_197 rfl ?_
                refine o_cst X20 B hZ e20 V20 ⟨by decide, by decide⟩ 1 rfl (Nat.le_of_ble_eq_true rfl) at_199 ?_
                intro T22 h22 X22 e22 W22 V22'
                rw [own_narc8 hr18] at V22'
                have V22 : Arv Z h22 ob18 ka18 .char (3 : Int32) [(.int x18_123), (.int x18_123), (.int (0 : Int32))] (.int (0 : Int32)) := V22'
                refine o_dup X22 B at_200 rfl ?_
                refine o_iconst X22 B at_201 ?_
                refine o_iload X22 B at_202 rfl ?_
                refine o_cst X22 B hZ e22 V22 ⟨by decide, by decide⟩ 2 rfl (Nat.le_of_ble_eq_true rfl) at_204 ?_
                intro T24 h24 X24 e24 W24 V24'
                rw [own_narc8 hr18] at V24'
                have V24 : Arv Z h24 ob18 ka18 .char (3 : Int32) [(.int x18_123), (.int x18_123), (.int x18_123)] (.int (0 : Int32)) := V24'
                have Zp24 : n0 ≤ h24.size := Nat.le_trans (Nat.le_trans (Nat.le_trans (Nat.le_trans Zp16 E18.1) (Keep.of_wr W20).1) (Keep.of_wr W22).1) (Keep.of_wr W24).1
                refine o_astore (L' := #[vi p0, vj j1, .second, vj j3, .second, vi p3, vi p4, vi x7_3, vi z8, vi z9, vi z10, vi z11, vi z12, vi x13_80, vj j14, .second, vj j16, .second, vi x18_123, vi x19_135, vi x20_147, vi x21_159, vr ob8, vr ob14, vr ob18, .unset, .unset, .unset, .unset, .unset, .unset, .unset, .unset, .unset, .unset, .unset, .unset, .unset, .unset, .unset, .unset, .unset, .unset, .unset, .unset]) X24 B at_205 rfl rfl ?_
                refine o_new X24 B hZ hown (wd_1 hw) (wd_2 hw) (wd_3 hw) e24 at_207 (by decide) (by decide) ?_
                intro T26 h26 ob26 g26 X26 e26 E26 A26 D26
                have f_11 := (((f_6.ext E18).other W20 ne_de_ob18).other W22 ne_de_ob18).other W24 ne_de_ob18
                have ne_de_ob26 : de ≠ ob26 := Nat.ne_of_lt (Nat.lt_of_lt_of_le f_11.lt (Nat.le_of_eq g26.symm))
                have f_19 := (((p16_0.ext E18).wr W20).wr W22).wr W24
                have ne_ob14_ob26 : ob14 ≠ ob26 := Nat.ne_of_lt (Nat.lt_of_lt_of_le f_19.lt (Nat.le_of_eq g26.symm))
                have f_23 := (((p16_3.ext E18).other W20 ne_vb_16_ob18).other W22 ne_vb_16_ob18).other W24 ne_vb_16_ob18
                have ne_vb_16_ob26 : vb_16 ≠ ob26 := Nat.ne_of_lt (Nat.lt_of_lt_of_le f_23.lt (Nat.le_of_eq g26.symm))
                have g_ob26 : n0 ≤ ob26 := Nat.le_trans Zp24 (Nat.le_of_eq g26.symm)
                have Zp26 : n0 ≤ h26.size := Nat.le_trans Zp24 E26.1
                have O27 := (((((O15.keep Kq16 (allS g_ob14 all0)).ext E18).wr W20 g_ob18).wr W22 g_ob18).wr W24 g_ob18).ext E26
                have F_coder_ob26 : fF2 Z h26 ob26 (.int (0 : Int32)) := D26 (Or.inr (wd_27 hw)) (ty := .byte) (by decide)
                have F_value_ob26 : fF1 Z h26 ob26 .null := D26 (Or.inr (wd_29 hw)) (ty := (.array .byte)) (by decide)
                refine o_dup X26 B at_210 rfl ?_
                show own_G p e below Φ T26 (mkF m 211 #[vi p0, vj j1, .second, vj j3, .second, vi p3, vi p4, vi x7_3, vi z8, vi z9, vi z10, vi z11, vi z12, vi x13_80, vj j14, .second, vj j16, .second, vi x18_123, vi x19_135, vi x20_147, vi x21_159, vr ob8, vr ob14, vr ob18, .unset, .unset, .unset, .unset, .unset, .unset, .unset, .unset, .unset, .unset, .unset, .unset, .unset, .unset, .unset, .unset, .unset, .unset, .unset, .unset] [(.ref ob26), (.ref ob26)])
                refine o_aload X26 B at_211 rfl rfl ?_
                refine o_cI (argsL := [(.ref ob18)]) (rest := [(.ref ob26)]) X26 B hZ hown rfl (wd_4 hw) (wd_5 hw) (wd_6 hw) (wd_3 hw) (by decide) rfl 1 (rmIn1_3 l Z a0 hw [] ob26 gz ob18 ka18 x18_123 x18_123 x18_123 (.int (0 : Int32)) h26 n0 Zp26 O27 S_COMPACT_STRINGS hgz A26 F_value_ob26 F_coder_ob26 g_ob26 (V24.ext E26) hr18.2 hr18.2 hr18.2) (by decide) (by decide) (lenOf pd_40 rfl) rfl rfl rfl at_213 e26 (by decide) (by decide) rfl ?_
                rintro _ T28 _ X28 ⟨vb_28, ns_vb_28, kb_28, rfl, N28q, Kq28, p28_0, p28_1, p28_2, p28_3⟩
                have N28 := Fr.app (Fr.snoc X24 (Fr.snoc X22 (Fr.snoc X20 (Fr.app (Fr.snoc X12 (Fr.snoc X10 N7 g_ob8) g_ob8) N16q) g_ob18) g_ob18) g_ob18) N28q
                have Zp28 : n0 ≤ T28.heap.size := Nat.le_trans Zp26 Kq28.1
                have O29 := O27.keep Kq28 (allS g_ob26 all0)
                refine o_astore (L' := #[vi p0, vj j1, .second, vj j3, .second, vi p3, vi p4, vi x7_3, vi z8, vi z9, vi z10, vi z11, vi z12, vi x13_80, vj j14, .second, vj j16, .second, vi x18_123, vi x19_135, vi x20_147, vi x21_159, vr ob8, vr ob14, vr ob18, vr ob26, .unset, .unset, .unset, .unset, .unset, .unset, .unset, .unset, .unset, .unset, .unset, .unset, .unset, .unset, .unset, .unset, .unset, .unset, .unset]) X28 B at_216 rfl rfl ?_
                have hHA : ∀ (T' : State) (h' : Heap) (l' : List Loc), own_AlL X28 T' l' 9 26 → T'.heap = h' → Fr n0 l' → n0 ≤ h'.size → Old Z n0 h' → ∀ (s26 : Addr) (vb26 : Addr) (kb26 : ClassId) (nz : Int32) (LN : List Int32) (ca28 : Addr) (z27 : Int32), (fE1 Z h' ob14) → (fF2 Z h' ob14 (.int (0 : Int32))) → (fF1 Z h' ob14 (.ref vb_16)) → (Arv Z h' vb_16 kb_16 .byte (2 : Int32) [(.int (own_lo x18_123)), (.int (own_lo x19_135))] (.int (0 : Int32))) → (fE1 Z h' ob26) → (fF2 Z h' ob26 (.int (0 : Int32))) → (fF1 Z h' ob26 (.ref vb_28)) → (Arv Z h' vb_28 kb_28 .byte (3 : Int32) [(.int (own_lo x18_123)), (.int (own_lo x18_123)), (.int (own_lo x18_123))] (.int (0 : Int32))) → (fE1 Z h' s26) → (fF2 Z h' s26 (.int (0 : Int32))) → (fF1 Z h' s26 (.ref vb26)) → (Arv Z h' vb26 kb26 .byte nz (own_vs LN) (.int (0 : Int32))) → (ob14 ≠ s26) → (ob26 ≠ s26) → (Arv Z h' de kd (.object "java/lang/Object") (0 : Int32) [] .null) → (own_nm x18_123 x19_135 nz LN z27) → own_G p e below Φ T' (mkF m 384 #[vi p0, vj j1, .second, vj j3, .second, vi p3, vi p4, vi x7_3, vi z8, vi z9, vi z10, vi z11, vi z12, vi x13_80, vj j14, .second, vj j16, .second, vi x18_123, vi x19_135, vi x20_147, vi x21_159, vr ob8, vr ob14, vr ob18, vr ob26, vr s26, vi z27, vr ca28, .unset, .unset, .unset, .unset, .unset, .unset, .unset, .unset, .unset, .unset, .unset, .unset, .unset, .unset, .unset, .unset] []) := by
                  intro T30 h30 l30 X30' e30 N30 Zp30 O30 s26 vb26 kb26 nz LN ca28 z27 F30_0 F30_1 F30_2 F30_3 F30_4 F30_5 F30_6 F30_7 F30_8 F30_9 F30_10 F30_11 F30_12 F30_13 F30_14 hN
                  have X30 : Stand _ _ _ _ _ _ _ _ _ _ T30 _ _ _ := X30'
                  have K31 : Keep h30 h30 [] := Keep.refl _ _
                  refine o_iload X30 B at_384 rfl ?_
                  refine o_sipush X30 B at_386 ?_
                  refine o_iand X30 B at_389 ?_
                  refine o_i2c X30 B at_390 ?_
                  refine o_istore (L' := #[vi p0, vj j1, .second, vj j3, .second, vi p3, vi p4, vi x7_3, vi z8, vi z9, vi z10, vi z11, vi z12, vi x13_80, vj j14, .second, vj j16, .second, vi x18_123, vi x19_135, vi x20_147, vi x21_159, vr ob8, vr ob14, vr ob18, vr ob26, vr s26, vi z27, .val (.int ((p4 &&& (255 : Int32)).toUInt32.toUInt16.toUInt32.toInt32)), .unset, .unset, .unset, .unset, .unset, .unset, .unset, .unset, .unset, .unset, .unset, .unset, .unset, .unset, .unset, .unset]) X30 B at_391 rfl ?_
                  show own_G p e below Φ T30 (mkF m 393 #[vi p0, vj j1, .second, vj j3, .second, vi p3, vi p4, vi x7_3, vi z8, vi z9, vi z10, vi z11, vi z12, vi x13_80, vj j14, .second, vj j16, .second, vi x18_123, vi x19_135, vi x20_147, vi x21_159, vr ob8, vr ob14, vr ob18, vr ob26, vr s26, vi z27, .val (.int ((p4 &&& (255 : Int32)).toUInt32.toUInt16.toUInt32.toInt32)), .unset, .unset, .unset, .unset, .unset, .unset, .unset, .unset, .unset, .unset, .unset, .unset, .unset, .unset, .unset, .unset] [])
                  generalize hx28_391 : ((p4 &&& (255 : Int32)).toUInt32.toUInt16.toUInt32.toInt32) = x28_391
                  have hr28 := own_c255 hx28_391
                  refine o_iload X30 B at_393 rfl ?_
                  have hJ413_32 : ∀ (T' : State) (l' : List Loc), own_AlL X30 T' l' 9 26 → Fr n0 l' → T'.heap = h30 → ∀ (d29 : Int32), (¬ d29 < 0 ∧ ¬ (255 : Int32) < d29) → own_G p e below Φ T' (mkF m 413 #[vi p0, vj j1, .second, vj j3, .second, vi p3, vi p4, vi x7_3, vi z8, vi z9, vi z10, vi z11, vi z12, vi x13_80, vj j14, .second, vj j16, .second, vi x18_123, vi x19_135, vi x20_147, vi x21_159, vr ob8, vr ob14, vr ob18, vr ob26, vr s26, vi z27, vi x28_391, .unset, .unset, .unset, .unset, .unset, .unset, .unset, .unset, .unset, .unset, .unset, .unset, .unset, .unset, .unset, .unset] [(.int d29)]) := by
                    intro T32 l32 X32' N32 e32 d29 h_d29
                    have X32 : Stand _ _ _ _ _ _ _ _ _ _ T32 _ _ _ := X32'
                    refine o_istore (L' := #[vi p0, vj j1, .second, vj j3, .second, vi p3, vi p4, vi x7_3, vi z8, vi z9, vi z10, vi z11, vi z12, vi x13_80, vj j14, .second, vj j16, .second, vi x18_123, vi x19_135, vi x20_147, vi x21_159, vr ob8, vr ob14, vr ob18, vr ob26, vr s26, vi z27, vi x28_391, vi d29, .unset, .unset, .unset, .unset, .unset, .unset, .unset, .unset, .unset, .unset, .unset, .unset, .unset, .unset, .unset]) X32 B at_413 rfl ?_
                    refine o_iload X32 B at_415 rfl ?_
                    refine o_cS (argsL := [(.int x28_391)]) (rest := []) X32 B hZ hown (wd_30 hw) (wd_31 hw) (wd_32 hw) (wd_3 hw) (by decide) 0 (rmVal l Z a0 hw [] x28_391 gz h30 n0 Zp30 O30 S_COMPACT_STRINGS hgz hr28.2) (by decide) (by decide) (lenOf pd_41 rfl) rfl rfl rfl at_417 e32 (by decide) (by decide) rfl ?_
                    rintro _ T33 _ X33 ⟨so_33, ns_so_33, vb_33, ns_vb_33, kb_33, rfl, N33q, Kq33, p33_0, p33_1, p33_2, p33_3, p33_4, p33_5⟩
                    have ne_ob14_so_33 : ob14 ≠ so_33 := Nat.ne_of_lt (Nat.lt_of_lt_of_le F30_0.lt ns_so_33)
                    have ne_vb_16_so_33 : vb_16 ≠ so_33 := Nat.ne_of_lt (Nat.lt_of_lt_of_le F30_3.lt ns_so_33)
                    have ne_ob26_so_33 : ob26 ≠ so_33 := Nat.ne_of_lt (Nat.lt_of_lt_of_le F30_4.lt ns_so_33)
                    have ne_vb_28_so_33 : vb_28 ≠ so_33 := Nat.ne_of_lt (Nat.lt_of_lt_of_le F30_7.lt ns_so_33)
                    have ne_s26_so_33 : s26 ≠ so_33 := Nat.ne_of_lt (Nat.lt_of_lt_of_le F30_8.lt ns_so_33)
                    have ne_vb26_so_33 : vb26 ≠ so_33 := Nat.ne_of_lt (Nat.lt_of_lt_of_le F30_11.lt ns_so_33)
                    have K33 := K31.trans Kq33 all0
                    have g_so_33 : n0 ≤ so_33 := Nat.le_trans Zp30 ns_so_33
                    have Zp33 : n0 ≤ T33.heap.size := Nat.le_trans Zp30 Kq33.1
                    have O34 := O30.keep Kq33 all0
                    have ne_so_33_vb_33 : so_33 ≠ vb_33 := Exa.neArv p33_0 p33_3 (wd_2 hw)
                    refine o_astore (L' := #[vi p0, vj j1, .second, vj j3, .second, vi p3, vi p4, vi x7_3, vi z8, vi z9, vi z10, vi z11, vi z12, vi x13_80, vj j14, .second, vj j16, .second, vi x18_123, vi x19_135, vi x20_147, vi x21_159, vr ob8, vr ob14, vr ob18, vr ob26, vr s26, vi z27, vi x28_391, vi d29, vr so_33, .unset, .unset, .unset, .unset, .unset, .unset, .unset, .unset, .unset, .unset, .unset, .unset, .unset, .unset]) X33 B at_420 rfl rfl ?_
                    refine o_iload X33 B at_422 rfl ?_
                    refine o_cS (argsL := [(.int d29)]) (rest := []) X33 B hZ hown (wd_30 hw) (wd_31 hw) (wd_32 hw) (wd_3 hw) (by decide) 0 (rmVal l Z a0 hw [] d29 gz T33.heap n0 Zp33 O34 S_COMPACT_STRINGS hgz h_d29.2) (by decide) (by decide) (lenOf pd_41 rfl) rfl rfl rfl at_424 rfl (by decide) (by decide) rfl ?_
                    rintro _ T35 _ X35 ⟨so_35, ns_so_35, vb_35, ns_vb_35, kb_35, rfl, N35q, Kq35, p35_0, p35_1, p35_2, p35_3, p35_4, p35_5⟩
                    have N35 := Fr.app (Fr.app N32 N33q) N35q
                    have ne_ob14_so_35 : ob14 ≠ so_35 := Nat.ne_of_lt (Nat.lt_of_lt_of_le (F30_0.keep K33).lt ns_so_35)
                    have ne_ob26_so_35 : ob26 ≠ so_35 := Nat.ne_of_lt (Nat.lt_of_lt_of_le (F30_4.keep K33).lt ns_so_35)
                    have ne_s26_so_35 : s26 ≠ so_35 := Nat.ne_of_lt (Nat.lt_of_lt_of_le (F30_8.keep K33).lt ns_so_35)
                    have ne_so_33_so_35 : so_33 ≠ so_35 := Nat.ne_of_lt (Nat.lt_of_lt_of_le p33_0.lt ns_so_35)
                    have ne_so_33_vb_35 : so_33 ≠ vb_35 := Nat.ne_of_lt (Nat.lt_of_lt_of_le p33_0.lt ns_vb_35)
                    have K35 := K33.trans Kq35 all0
                    have g_so_35 : n0 ≤ so_35 := Nat.le_trans Zp33 ns_so_35
                    have Zp35 : n0 ≤ T35.heap.size := Nat.le_trans Zp33 Kq35.1
                    refine o_astore (L' := #[vi p0, vj j1, .second, vj j3, .second, vi p3, vi p4, vi x7_3, vi z8, vi z9, vi z10, vi z11, vi z12, vi x13_80, vj j14, .second, vj j16, .second, vi x18_123, vi x19_135, vi x20_147, vi x21_159, vr ob8, vr ob14, vr ob18, vr ob26, vr s26, vi z27, vi x28_391, vi d29, vr so_33, vr so_35, .unset, .unset, .unset, .unset, .unset, .unset, .unset, .unset, .unset, .unset, .unset, .unset, .unset]) X35 B at_427 rfl rfl ?_
                    refine o_iload X35 B at_429 rfl ?_
                    refine o_iload X35 B at_431 rfl ?_
                    have hJ441_37 : ∀ (T' : State) (l' : List Loc), own_AlL X35 T' l' 13 36 → Fr n0 l' → T'.heap = T35.heap → ∀ (z32 : Int32), (z32 = if x28_391 = d29 then 1 else 0) → own_G p e below Φ T' (mkF m 441 #[vi p0, vj j1, .second, vj j3, .second, vi p3, vi p4, vi x7_3, vi z8, vi z9, vi z10, vi z11, vi z12, vi x13_80, vj j14, .second, vj j16, .second, vi x18_123, vi x19_135, vi x20_147, vi x21_159, vr ob8, vr ob14, vr ob18, vr ob26, vr s26, vi z27, vi x28_391, vi d29, vr so_33, vr so_35, .unset, .unset, .unset, .unset, .unset, .unset, .unset, .unset, .unset, .unset, .unset, .unset, .unset] [(.int z32)]) := by
                      intro T37 l37 X37' N37 e37 z32 h_z32
                      have X37 : Stand _ _ _ _ _ _ _ _ _ _ T37 _ _ _ := X37'
                      show own_G p e below Φ T37 (mkF m 441 #[vi p0, vj j1, .second, vj j3, .second, vi p3, vi p4, vi x7_3, vi z8, vi z9, vi z10, vi z11, vi z12, vi x13_80, vj j14, .second, vj j16, .second, vi x18_123, vi x19_135, vi x20_147, vi x21_159, vr ob8, vr ob14, vr ob18, vr ob26, vr s26, vi z27, vi x28_391, vi d29, vr so_33, vr so_35, .unset, .unset, .unset, .unset, .unset, .unset, .unset, .unset, .unset, .unset, .unset, .unset, .unset] [(.int z32)])
                      refine o_istore (L' := #[vi p0, vj j1, .second, vj j3, .second, vi p3, vi p4, vi x7_3, vi z8, vi z9, vi z10, vi z11, vi z12, vi x13_80, vj j14, .second, vj j16, .second, vi x18_123, vi x19_135, vi x20_147, vi x21_159, vr ob8, vr ob14, vr ob18, vr ob26, vr s26, vi z27, vi x28_391, vi d29, vr so_33, vr so_35, vi z32, .unset, .unset, .unset, .unset, .unset, .unset, .unset, .unset, .unset, .unset, .unset, .unset]) X37 B at_441 rfl ?_
                      refine o_new X37 B hZ hown (wd_44 hw) (wd_45 hw) (wd_46 hw) e37 at_443 (by decide) (by decide) ?_
                      intro T38 h38 ob38 g38 X38 e38 E38 A38 D38
                      have f_28 := p33_0.keep Kq35
                      have ne_so_33_ob38 : so_33 ≠ ob38 := Nat.ne_of_lt (Nat.lt_of_lt_of_le f_28.lt (Nat.le_of_eq g38.symm))
                      have f_29 := p33_3.keep Kq35 nin0
                      have ne_vb_33_ob38 : vb_33 ≠ ob38 := Nat.ne_of_lt (Nat.lt_of_lt_of_le f_29.lt (Nat.le_of_eq g38.symm))
                      have ne_so_35_ob38 : so_35 ≠ ob38 := Nat.ne_of_lt (Nat.lt_of_lt_of_le p35_0.lt (Nat.le_of_eq g38.symm))
                      have ne_vb_35_ob38 : vb_35 ≠ ob38 := Nat.ne_of_lt (Nat.lt_of_lt_of_le p35_3.lt (Nat.le_of_eq g38.symm))
                      have g_ob38 : n0 ≤ ob38 := Nat.le_trans Zp35 (Nat.le_of_eq g38.symm)
                      have sz_ob38 : h30.size ≤ ob38 := Nat.le_trans K35.1 (Nat.le_of_eq g38.symm)
                      have K38 := K35.ext E38
                      have Zp38 : n0 ≤ h38.size := Nat.le_trans Zp35 E38.1
                      have O39 := (O34.keep Kq35 all0).ext E38
                      have F_modCount_ob38 : fF5 Z h38 ob38 (.int (0 : Int32)) := D38 (Or.inl (wd_64 hw)) (ty := .int) (by decide)
                      have F_elementData_ob38 : fF7 Z h38 ob38 .null := D38 (Or.inl (wd_67 hw)) (ty := (.array (.object "java/lang/Object"))) (by decide)
                      have F_size_ob38 : fF6 Z h38 ob38 (.int (0 : Int32)) := D38 (Or.inl (wd_94 hw)) (ty := .int) (by decide)
                      refine o_dup X38 B at_446 rfl ?_
                      refine o_cI (argsL := []) (rest := [(.ref ob38)]) X38 B hZ hown rfl (wd_47 hw) (wd_48 hw) (wd_49 hw) (wd_46 hw) (by decide) rfl 1 (rmAlin l Z a0 hw [] ob38 de (.int (0 : Int32)) .null h38 n0 Zp38 O39 S_DEFAULTCAPACITY_EMPTY_ELEMENTDATA A38 F_modCount_ob38 F_size_ob38 F_elementData_ob38 g_ob38) (by decide) (by decide) (lenOf pd_7 rfl) rfl rfl rfl at_447 e38 (by decide) (by decide) rfl ?_
                      rintro _ T40 _ X40 ⟨rfl, N40q, Kq40, p40_0, p40_1, p40_2, p40_3⟩
                      have K40 := K38.trans Kq40 (allS (Or.inr sz_ob38) all0)
                      have Zp40 : n0 ≤ T40.heap.size := Nat.le_trans Zp38 Kq40.1
                      refine o_astore (L' := #[vi p0, vj j1, .second, vj j3, .second, vi p3, vi p4, vi x7_3, vi z8, vi z9, vi z10, vi z11, vi z12, vi x13_80, vj j14, .second, vj j16, .second, vi x18_123, vi x19_135, vi x20_147, vi x21_159, vr ob8, vr ob14, vr ob18, vr ob26, vr s26, vi z27, vi x28_391, vi d29, vr so_33, vr so_35, vi z32, vr ob38, .unset, .unset, .unset, .unset, .unset, .unset, .unset, .unset, .unset, .unset, .unset]) X40 B at_450 rfl rfl ?_
                      refine o_aload X40 B at_452 rfl rfl ?_
                      refine o_new X40 B hZ hown (wd_68 hw) (wd_69 hw) (wd_70 hw) rfl at_454 (by decide) (by decide) ?_
                      intro T42 h42 ob42 g42 X42 e42 E42 A42 D42
                      have f_31 := (f_28.ext E38).keep Kq40
                      have ne_so_33_ob42 : so_33 ≠ ob42 := Nat.ne_of_lt (Nat.lt_of_lt_of_le f_31.lt (Nat.le_of_eq g42.symm))
                      have f_33 := (f_29.ext E38).keep Kq40 (ninS ne_vb_33_ob38 nin0)
                      have ne_vb_33_ob42 : vb_33 ≠ ob42 := Nat.ne_of_lt (Nat.lt_of_lt_of_le f_33.lt (Nat.le_of_eq g42.symm))
                      have f_35 := (p35_0.ext E38).keep Kq40
                      have ne_so_35_ob42 : so_35 ≠ ob42 := Nat.ne_of_lt (Nat.lt_of_lt_of_le f_35.lt (Nat.le_of_eq g42.symm))
                      have f_37 := (p35_3.ext E38).keep Kq40 (ninS ne_vb_35_ob38 nin0)
                      have ne_vb_35_ob42 : vb_35 ≠ ob42 := Nat.ne_of_lt (Nat.lt_of_lt_of_le f_37.lt (Nat.le_of_eq g42.symm))
                      have ne_ob38_ob42 : ob38 ≠ ob42 := Nat.ne_of_lt (Nat.lt_of_lt_of_le p40_0.lt (Nat.le_of_eq g42.symm))
                      have g_ob42 : n0 ≤ ob42 := Nat.le_trans Zp40 (Nat.le_of_eq g42.symm)
                      have K42 := K40.ext E42
                      have F_name_ob42 : fF8 Z h42 ob42 .null := D42 (Or.inr (wd_81 hw)) (ty := (.object "java/lang/String")) (by decide)
                      have F_standing_ob42 : fF9 Z h42 ob42 .null := D42 (Or.inr (wd_83 hw)) (ty := (.object "com/example/brickwork/brickwork/wire/Protocol$Standing")) (by decide)
                      have F_layout_ob42 : fF10 Z h42 ob42 .null := D42 (Or.inr (wd_85 hw)) (ty := (.array .byte)) (by decide)
                      refine o_dup X42 B at_457 rfl ?_
                      refine o_aload X42 B at_458 rfl rfl ?_
                      refine o_anull X42 B at_460 ?_
                      refine o_iconst X42 B at_461 ?_
                      refine o_np (aty := .byte) X42 B hZ (wd_19 hw) e42 at_462 (by decide) 0 (by decide) (by decide) (by decide) (by decide) ?_
                      intro T44 h44 ka44 ob44 g44 X44 e44 E44 V44'
                      have K44 := K42.ext E44
                      have Zp44 : n0 ≤ h44.size := Nat.le_trans (Nat.le_trans Zp40 E42.1) E44.1
                      refine o_cI (argsL := [(.ref ob26), .null, (.ref ob44)]) (rest := [(.ref ob42), (.ref ob38)]) X44 B hZ hown rfl (wd_71 hw) (wd_72 hw) (wd_73 hw) (wd_70 hw) (by decide) rfl 2 (rmLsin l Z a0 hw [] ob42 ob26 ob44 h44 n0 Zp44 (A42.ext E44) (F_name_ob42.ext E44) (F_standing_ob42.ext E44) (F_layout_ob42.ext E44) g_ob42) (by decide) (by decide) (lenOf pd_42 rfl) rfl rfl rfl at_464 e44 (by decide) (by decide) rfl ?_
                      rintro _ T46 _ X46 ⟨rfl, N46q, Kq46, p46_0, p46_1⟩
                      have K46 := K44.trans Kq46 (allS (Or.inr (Nat.le_trans K40.1 (Nat.le_of_eq g42.symm))) all0)
                      have Zp46 : n0 ≤ T46.heap.size := Nat.le_trans Zp44 Kq46.1
                      have O47 := (((O39.keep Kq40 (allS g_ob38 all0)).ext E42).ext E44).keep Kq46 (allS g_ob42 all0)
                      have f_45 := ((p40_0.ext E42).ext E44).keep Kq46
                      refine o_cV (argsL := [(.ref ob42)]) (rest := []) X46 B hZ hown (wd_86 hw) (wd_87 hw) (wd_89 hw) (wd_88 hw) (wd_90 hw) (wd_46 hw) (by decide) f_45 0 (rmAd1a l Z a0 hw [] ob38 de kd ob42 T46.heap n0 Zp46 O47 S_DEFAULTCAPACITY_EMPTY_ELEMENTDATA f_45 (((p40_1.ext E42).ext E44).keep Kq46 (ninS ne_ob38_ob42 nin0)) (((p40_2.ext E42).ext E44).keep Kq46 (ninS ne_ob38_ob42 nin0)) (((p40_3.ext E42).ext E44).keep Kq46 (ninS ne_ob38_ob42 nin0)) g_ob38 (F30_14.keep K46 nin0) p46_0) (by decide) (by decide) (lenOf pd_24 rfl) rfl rfl rfl at_467 rfl (by decide) (by decide) rfl ?_
                      rintro _ T48 _ X48 ⟨ed_48, ns_ed_48, ke_48, rfl, N48q, Kq48, p48_0, p48_1, p48_2, p48_3, p48_4, p48_5⟩
                      have N48 := Fr.app (Fr.app (Fr.app N37 N40q) N46q) N48q
                      have f_57 := ((f_31.ext E42).ext E44).keep Kq46
                      have ne_so_33_ed_48 : so_33 ≠ ed_48 := Nat.ne_of_lt (Nat.lt_of_lt_of_le f_57.lt ns_ed_48)
                      have f_60 := ((f_33.ext E42).ext E44).keep Kq46 (ninS ne_vb_33_ob42 nin0)
                      have ne_vb_33_ed_48 : vb_33 ≠ ed_48 := Nat.ne_of_lt (Nat.lt_of_lt_of_le f_60.lt ns_ed_48)
                      have f_63 := ((f_35.ext E42).ext E44).keep Kq46
                      have ne_so_35_ed_48 : so_35 ≠ ed_48 := Nat.ne_of_lt (Nat.lt_of_lt_of_le f_63.lt ns_ed_48)
                      have f_66 := ((f_37.ext E42).ext E44).keep Kq46 (ninS ne_vb_35_ob42 nin0)
                      have ne_vb_35_ed_48 : vb_35 ≠ ed_48 := Nat.ne_of_lt (Nat.lt_of_lt_of_le f_66.lt ns_ed_48)
                      have ne_ob42_ed_48 : ob42 ≠ ed_48 := Nat.ne_of_lt (Nat.lt_of_lt_of_le p46_0.lt ns_ed_48)
                      have K48 := K46.trans Kq48 (allS (Or.inr sz_ob38) all0)
                      have g_ed_48 : n0 ≤ ed_48 := Nat.le_trans Zp46 ns_ed_48
                      have Zp48 : n0 ≤ T48.heap.size := Nat.le_trans Zp46 Kq48.1
                      have O49 := O47.keep Kq48 (allS g_ob38 all0)
                      refine o_pop X48 B at_470 rfl ?_
                      have hHE : ∀ (T' : State) (h' : Heap) (l' : List Loc), own_AlL X48 T' l' 64 320 → T'.heap = h' → Fr n0 l' → n0 ≤ h'.size → Old Z n0 h' → ∀ (v34 : Value) (a35 : Addr) (a36 : Addr) (z37 : Int32), (z37 = own_x z32 x7_3 z8 z27 j14 j16) → own_G p e below Φ T' (mkF m 599 #[vi p0, vj j1, .second, vj j3, .second, vi p3, vi p4, vi x7_3, vi z8, vi z9, vi z10, vi z11, vi z12, vi x13_80, vj j14, .second, vj j16, .second, vi x18_123, vi x19_135, vi x20_147, vi x21_159, vr ob8, vr ob14, vr ob18, vr ob26, vr s26, vi z27, vi x28_391, vi d29, vr so_33, vr so_35, vi z32, vr ob38, .val v34, vr a35, vr a36, .unset, .unset, .unset, .unset, .unset, .unset, .unset, .unset] [(.int z37)]) := by
                        intro T50 h50 l50 X50' e50 N50 Zp50 O50 v34 a35 a36 z37  h_z37
                        have X50 : Stand _ _ _ _ _ _ _ _ _ _ T50 _ _ _ := X50'
                        refine o_istore (L' := #[vi p0, vj j1, .second, vj j3, .second, vi p3, vi p4, vi x7_3, vi z8, vi z9, vi z10, vi z11, vi z12, vi x13_80, vj j14, .second, vj j16, .second, vi x18_123, vi x19_135, vi x20_147, vi x21_159, vr ob8, vr ob14, vr ob18, vr ob26, vr s26, vi z27, vi x28_391, vi d29, vr so_33, vr so_35, vi z32, vr ob38, .val v34, vr a35, vr a36, vi z37, .unset, .unset, .unset, .unset, .unset, .unset, .unset]) X50 B at_599 rfl ?_
                        refine o_iload X50 B at_601 rfl ?_
                        have hJ617_51 : ∀ (T' : State) (l' : List Loc), own_AlL X50 T' l' 64 320 → Fr n0 l' → T'.heap = h50 → ∀ (z38 : Int32), (z38 = if z32 = 0 ∨ x7_3 = 3 then 0 else 1) → own_G p e below Φ T' (mkF m 617 #[vi p0, vj j1, .second, vj j3, .second, vi p3, vi p4, vi x7_3, vi z8, vi z9, vi z10, vi z11, vi z12, vi x13_80, vj j14, .second, vj j16, .second, vi x18_123, vi x19_135, vi x20_147, vi x21_159, vr ob8, vr ob14, vr ob18, vr ob26, vr s26, vi z27, vi x28_391, vi d29, vr so_33, vr so_35, vi z32, vr ob38, .val v34, vr a35, vr a36, vi z37, .unset, .unset, .unset, .unset, .unset, .unset, .unset] [(.int z38)]) := by
                          intro T51 l51 X51' N51 e51 z38 h_z38
                          have X51 : Stand _ _ _ _ _ _ _ _ _ _ T51 _ _ _ := X51'
                          refine o_istore (L' := #[vi p0, vj j1, .second, vj j3, .second, vi p3, vi p4, vi x7_3, vi z8, vi z9, vi z10, vi z11, vi z12, vi x13_80, vj j14, .second, vj j16, .second, vi x18_123, vi x19_135, vi x20_147, vi x21_159, vr ob8, vr ob14, vr ob18, vr ob26, vr s26, vi z27, vi x28_391, vi d29, vr so_33, vr so_35, vi z32, vr ob38, .val v34, vr a35, vr a36, vi z37, vi z38, .unset, .unset, .unset, .unset, .unset, .unset]) X51 B at_617 rfl ?_
                          refine o_iload X51 B at_619 rfl ?_
                          show own_G p e below Φ T51 (mkF m 621 #[vi p0, vj j1, .second, vj j3, .second, vi p3, vi p4, vi x7_3, vi z8, vi z9, vi z10, vi z11, vi z12, vi x13_80, vj j14, .second, vj j16, .second, vi x18_123, vi x19_135, vi x20_147, vi x21_159, vr ob8, vr ob14, vr ob18, vr ob26, vr s26, vi z27, vi x28_391, vi d29, vr so_33, vr so_35, vi z32, vr ob38, .val v34, vr a35, vr a36, vi z37, vi z38, .unset, .unset, .unset, .unset, .unset, .unset] [(.int z38)])
                          have hJ635_52 : ∀ (T' : State) (l' : List Loc), own_AlL X51 T' l' 64 320 → Fr n0 l' → T'.heap = h50 → ∀ (z39 : Int32), (z39 = if z38 = 0 ∨ ¬ x7_3 = 2 then 0 else 1) → own_G p e below Φ T' (mkF m 635 #[vi p0, vj j1, .second, vj j3, .second, vi p3, vi p4, vi x7_3, vi z8, vi z9, vi z10, vi z11, vi z12, vi x13_80, vj j14, .second, vj j16, .second, vi x18_123, vi x19_135, vi x20_147, vi x21_159, vr ob8, vr ob14, vr ob18, vr ob26, vr s26, vi z27, vi x28_391, vi d29, vr so_33, vr so_35, vi z32, vr ob38, .val v34, vr a35, vr a36, vi z37, vi z38, .unset, .unset, .unset, .unset, .unset, .unset] [(.int z39)]) := by
                            intro T52 l52 X52' N52 e52 z39 h_z39
                            have X52 : Stand _ _ _ _ _ _ _ _ _ _ T52 _ _ _ := X52'
                            refine o_istore (L' := #[vi p0, vj j1, .second, vj j3, .second, vi p3, vi p4, vi x7_3, vi z8, vi z9, vi z10, vi z11, vi z12, vi x13_80, vj j14, .second, vj j16, .second, vi x18_123, vi x19_135, vi x20_147, vi x21_159, vr ob8, vr ob14, vr ob18, vr ob26, vr s26, vi z27, vi x28_391, vi d29, vr so_33, vr so_35, vi z32, vr ob38, .val v34, vr a35, vr a36, vi z37, vi z38, vi z39, .unset, .unset, .unset, .unset, .unset]) X52 B at_635 rfl ?_
                            refine o_iload X52 B at_637 rfl ?_
                            have hJ657_53 : ∀ (T' : State) (l' : List Loc), own_AlL X52 T' l' 64 320 → Fr n0 l' → T'.heap = h50 → ∀ (z40 : Int32), (z40 = if z38 = 0 ∨ z8 = 0 ∨ z27 = 0 then 0 else 1) → own_G p e below Φ T' (mkF m 657 #[vi p0, vj j1, .second, vj j3, .second, vi p3, vi p4, vi x7_3, vi z8, vi z9, vi z10, vi z11, vi z12, vi x13_80, vj j14, .second, vj j16, .second, vi x18_123, vi x19_135, vi x20_147, vi x21_159, vr ob8, vr ob14, vr ob18, vr ob26, vr s26, vi z27, vi x28_391, vi d29, vr so_33, vr so_35, vi z32, vr ob38, .val v34, vr a35, vr a36, vi z37, vi z38, vi z39, .unset, .unset, .unset, .unset, .unset] [(.int z40)]) := by
                              intro T53 l53 X53' N53 e53 z40 h_z40
                              have X53 : Stand _ _ _ _ _ _ _ _ _ _ T53 _ _ _ := X53'
                              refine o_istore (L' := #[vi p0, vj j1, .second, vj j3, .second, vi p3, vi p4, vi x7_3, vi z8, vi z9, vi z10, vi z11, vi z12, vi x13_80, vj j14, .second, vj j16, .second, vi x18_123, vi x19_135, vi x20_147, vi x21_159, vr ob8, vr ob14, vr ob18, vr ob26, vr s26, vi z27, vi x28_391, vi d29, vr so_33, vr so_35, vi z32, vr ob38, .val v34, vr a35, vr a36, vi z37, vi z38, vi z39, vi z40, .unset, .unset, .unset, .unset]) X53 B at_657 rfl ?_
                              refine o_iload X53 B at_659 rfl ?_
                              have hJ670_54 : ∀ (T' : State) (l' : List Loc), own_AlL X53 T' l' 64 320 → Fr n0 l' → T'.heap = h50 → ∀ (j41 : Int64), (j41 = if z38 = 0 then 0 else j14) → own_G p e below Φ T' (mkF m 670 #[vi p0, vj j1, .second, vj j3, .second, vi p3, vi p4, vi x7_3, vi z8, vi z9, vi z10, vi z11, vi z12, vi x13_80, vj j14, .second, vj j16, .second, vi x18_123, vi x19_135, vi x20_147, vi x21_159, vr ob8, vr ob14, vr ob18, vr ob26, vr s26, vi z27, vi x28_391, vi d29, vr so_33, vr so_35, vi z32, vr ob38, .val v34, vr a35, vr a36, vi z37, vi z38, vi z39, vi z40, .unset, .unset, .unset, .unset] [(.long j41)]) := by
                                intro T54 l54 X54' N54 e54 j41 h_j41
                                have X54 : Stand _ _ _ _ _ _ _ _ _ _ T54 _ _ _ := X54'
                                refine o_lstore (L' := #[vi p0, vj j1, .second, vj j3, .second, vi p3, vi p4, vi x7_3, vi z8, vi z9, vi z10, vi z11, vi z12, vi x13_80, vj j14, .second, vj j16, .second, vi x18_123, vi x19_135, vi x20_147, vi x21_159, vr ob8, vr ob14, vr ob18, vr ob26, vr s26, vi z27, vi x28_391, vi d29, vr so_33, vr so_35, vi z32, vr ob38, .val v34, vr a35, vr a36, vi z37, vi z38, vi z39, vi z40, vj j41, .second, .unset, .unset]) X54 B at_670 rfl ?_
                                refine o_iload X54 B at_672 rfl ?_
                                have hJ687_55 : ∀ (T' : State) (l' : List Loc), own_AlL X54 T' l' 64 320 → Fr n0 l' → T'.heap = h50 → ∀ (z43 : Int32), (z43 = if z39 = 0 ∨ ¬ z40 = 0 then 0 else 1) → own_G p e below Φ T' (mkF m 687 #[vi p0, vj j1, .second, vj j3, .second, vi p3, vi p4, vi x7_3, vi z8, vi z9, vi z10, vi z11, vi z12, vi x13_80, vj j14, .second, vj j16, .second, vi x18_123, vi x19_135, vi x20_147, vi x21_159, vr ob8, vr ob14, vr ob18, vr ob26, vr s26, vi z27, vi x28_391, vi d29, vr so_33, vr so_35, vi z32, vr ob38, .val v34, vr a35, vr a36, vi z37, vi z38, vi z39, vi z40, vj j41, .second, .unset, .unset] [(.int z43)]) := by
                                  intro T55 l55 X55' N55 e55 z43 h_z43
                                  have X55 : Stand _ _ _ _ _ _ _ _ _ _ T55 _ _ _ := X55'
                                  refine o_istore (L' := #[vi p0, vj j1, .second, vj j3, .second, vi p3, vi p4, vi x7_3, vi z8, vi z9, vi z10, vi z11, vi z12, vi x13_80, vj j14, .second, vj j16, .second, vi x18_123, vi x19_135, vi x20_147, vi x21_159, vr ob8, vr ob14, vr ob18, vr ob26, vr s26, vi z27, vi x28_391, vi d29, vr so_33, vr so_35, vi z32, vr ob38, .val v34, vr a35, vr a36, vi z37, vi z38, vi z39, vi z40, vj j41, .second, vi z43, .unset]) X55 B at_687 rfl ?_
                                  refine o_lload X55 B at_689 rfl ?_
                                  refine o_lconst X55 B (0 : Int64) at_691 rfl ?_
                                  refine o_lcmp X55 B at_692 ?_
                                  have hJ733_56 : ∀ (T' : State) (l' : List Loc), own_AlL X55 T' l' 64 320 → Fr n0 l' → T'.heap = h50 → ∀ (z44 : Int32), (z44 = own_sp j16 j41 z43) → own_G p e below Φ T' (mkF m 733 #[vi p0, vj j1, .second, vj j3, .second, vi p3, vi p4, vi x7_3, vi z8, vi z9, vi z10, vi z11, vi z12, vi x13_80, vj j14, .second, vj j16, .second, vi x18_123, vi x19_135, vi x20_147, vi x21_159, vr ob8, vr ob14, vr ob18, vr ob26, vr s26, vi z27, vi x28_391, vi d29, vr so_33, vr so_35, vi z32, vr ob38, .val v34, vr a35, vr a36, vi z37, vi z38, vi z39, vi z40, vj j41, .second, vi z43, vi z44] []) := by
                                    intro T56 l56 X56' N56 e56 z44 h_z44
                                    have X56 : Stand _ _ _ _ _ _ _ _ _ _ T56 _ _ _ := X56'
                                    refine o_iload X56 B at_733 rfl ?_
                                    refine o_iload X56 B at_735 rfl ?_
                                    refine o_icN X56 B at_737 (XT.ii_ne_f (own_fin h_z37 h_z38 h_z39 h_z40 h_j41 h_z43 h_z44)) ?_
                                    refine o_iconst X56 B at_740 ?_
                                    refine o_goto X56 B 745 at_741 rfl ?_
                                    show own_G p e below Φ T56 (mkF m 745 #[vi p0, vj j1, .second, vj j3, .second, vi p3, vi p4, vi x7_3, vi z8, vi z9, vi z10, vi z11, vi z12, vi x13_80, vj j14, .second, vj j16, .second, vi x18_123, vi x19_135, vi x20_147, vi x21_159, vr ob8, vr ob14, vr ob18, vr ob26, vr s26, vi z27, vi x28_391, vi d29, vr so_33, vr so_35, vi z32, vr ob38, .val v34, vr a35, vr a36, vi z37, vi z38, vi z39, vi z40, vj j41, .second, vi z43, vi z44] [(.int (1 : Int32))])
                                    exact o_rZ X56 B hΦ hlk hret (by simp) at_745 (1 : Int32) rfl e56 (by decide) (by decide) ⟨rfl, N56⟩
                                  by_cases hc693 : j16 = (0 : Int64)
                                  · refine o_ifY X55 B 721 at_693 (XT.ll_eq_t hc693) rfl ?_
                                    refine o_iload X55 B at_721 rfl ?_
                                    by_cases hc723 : z43 = (0 : Int32)
                                    · refine o_ifN X55 B at_723 (XT.i0_ne_f hc723) ?_
                                      refine o_iconst X55 B at_726 ?_
                                      refine o_goto X55 B 731 at_727 rfl ?_
                                      refine o_istore (L' := #[vi p0, vj j1, .second, vj j3, .second, vi p3, vi p4, vi x7_3, vi z8, vi z9, vi z10, vi z11, vi z12, vi x13_80, vj j14, .second, vj j16, .second, vi x18_123, vi x19_135, vi x20_147, vi x21_159, vr ob8, vr ob14, vr ob18, vr ob26, vr s26, vi z27, vi x28_391, vi d29, vr so_33, vr so_35, vi z32, vr ob38, .val v34, vr a35, vr a36, vi z37, vi z38, vi z39, vi z40, vj j41, .second, vi z43, vi 1]) X55 B at_731 rfl ?_
                                      exact hJ733_56 _ _ X55 N55 e55 _ (by simp [own_sp, hc693, hc723])
                                    · refine o_ifY X55 B 730 at_723 (XT.i0_ne_t hc723) rfl ?_
                                      refine o_iconst X55 B at_730 ?_
                                      refine o_istore (L' := #[vi p0, vj j1, .second, vj j3, .second, vi p3, vi p4, vi x7_3, vi z8, vi z9, vi z10, vi z11, vi z12, vi x13_80, vj j14, .second, vj j16, .second, vi x18_123, vi x19_135, vi x20_147, vi x21_159, vr ob8, vr ob14, vr ob18, vr ob26, vr s26, vi z27, vi x28_391, vi d29, vr so_33, vr so_35, vi z32, vr ob38, .val v34, vr a35, vr a36, vi z37, vi z38, vi z39, vi z40, vj j41, .second, vi z43, vi 0]) X55 B at_731 rfl ?_
                                      exact hJ733_56 _ _ X55 N55 e55 _ (by simp [own_sp, hc693, hc723])
                                  · refine o_ifN X55 B at_693 (XT.ll_eq_f hc693) ?_
                                    refine o_lload X55 B at_696 rfl ?_
                                    refine o_lconst X55 B (0 : Int64) at_698 rfl ?_
                                    refine o_lcmp X55 B at_699 ?_
                                    by_cases hc700 : j41 = (0 : Int64)
                                    · refine o_ifY X55 B 721 at_700 (XT.ll_eq_t hc700) rfl ?_
                                      refine o_iload X55 B at_721 rfl ?_
                                      show own_G p e below Φ T55 (mkF m 723 #[vi p0, vj j1, .second, vj j3, .second, vi p3, vi p4, vi x7_3, vi z8, vi z9, vi z10, vi z11, vi z12, vi x13_80, vj j14, .second, vj j16, .second, vi x18_123, vi x19_135, vi x20_147, vi x21_159, vr ob8, vr ob14, vr ob18, vr ob26, vr s26, vi z27, vi x28_391, vi d29, vr so_33, vr so_35, vi z32, vr ob38, .val v34, vr a35, vr a36, vi z37, vi z38, vi z39, vi z40, vj j41, .second, vi z43, .unset] [(.int z43)])
                                      by_cases hc723 : z43 = (0 : Int32)
                                      · refine o_ifN X55 B at_723 (XT.i0_ne_f hc723) ?_
                                        refine o_iconst X55 B at_726 ?_
                                        refine o_goto X55 B 731 at_727 rfl ?_
                                        refine o_istore (L' := #[vi p0, vj j1, .second, vj j3, .second, vi p3, vi p4, vi x7_3, vi z8, vi z9, vi z10, vi z11, vi z12, vi x13_80, vj j14, .second, vj j16, .second, vi x18_123, vi x19_135, vi x20_147, vi x21_159, vr ob8, vr ob14, vr ob18, vr ob26, vr s26, vi z27, vi x28_391, vi d29, vr so_33, vr so_35, vi z32, vr ob38, .val v34, vr a35, vr a36, vi z37, vi z38, vi z39, vi z40, vj j41, .second, vi z43, vi 1]) X55 B at_731 rfl ?_
                                        exact hJ733_56 _ _ X55 N55 e55 _ (by simp [own_sp, hc693, hc700, hc723])
                                      · refine o_ifY X55 B 730 at_723 (XT.i0_ne_t hc723) rfl ?_
                                        refine o_iconst X55 B at_730 ?_
                                        refine o_istore (L' := #[vi p0, vj j1, .second, vj j3, .second, vi p3, vi p4, vi x7_3, vi z8, vi z9, vi z10, vi z11, vi z12, vi x13_80, vj j14, .second, vj j16, .second, vi x18_123, vi x19_135, vi x20_147, vi x21_159, vr ob8, vr ob14, vr ob18, vr ob26, vr s26, vi z27, vi x28_391, vi d29, vr so_33, vr so_35, vi z32, vr ob38, .val v34, vr a35, vr a36, vi z37, vi z38, vi z39, vi z40, vj j41, .second, vi z43, vi 0]) X55 B at_731 rfl ?_
                                        exact hJ733_56 _ _ X55 N55 e55 _ (by simp [own_sp, hc693, hc700, hc723])
                                    · refine o_ifN X55 B at_700 (XT.ll_eq_f hc700) ?_
                                      refine o_lload X55 B at_703 rfl ?_
                                      show own_G p e below Φ T55 (mkF m 705 #[vi p0, vj j1, .second, vj j3, .second, vi p3, vi p4, vi x7_3, vi z8, vi z9, vi z10, vi z11, vi z12, vi x13_80, vj j14, .second, vj j16, .second, vi x18_123, vi x19_135, vi x20_147, vi x21_159, vr ob8, vr ob14, vr ob18, vr ob26, vr s26, vi z27, vi x28_391, vi d29, vr so_33, vr so_35, vi z32, vr ob38, .val v34, vr a35, vr a36, vi z37, vi z38, vi z39, vi z40, vj j41, .second, vi z43, .unset] [(.long j16)])
                                      refine o_lload X55 B at_705 rfl ?_
                                      refine o_lcmp X55 B at_707 ?_
                                      by_cases hc708 : j16 = j41
                                      · refine o_ifN X55 B at_708 (XT.ll_ne_f hc708) ?_
                                        refine o_iconst X55 B at_711 ?_
                                        refine o_goto X55 B 716 at_712 rfl ?_
                                        refine o_istore (L' := #[vi p0, vj j1, .second, vj j3, .second, vi p3, vi p4, vi x7_3, vi z8, vi z9, vi z10, vi z11, vi z12, vi x13_80, vj j14, .second, vj j16, .second, vi x18_123, vi x19_135, vi x20_147, vi x21_159, vr ob8, vr ob14, vr ob18, vr ob26, vr s26, vi z27, vi x28_391, vi d29, vr so_33, vr so_35, vi z32, vr ob38, .val v34, vr a35, vr a36, vi z37, vi z38, vi z39, vi z40, vj j41, .second, vi z43, vi 1]) X55 B at_716 rfl ?_
                                        refine o_goto X55 B 733 at_718 rfl ?_
                                        exact hJ733_56 _ _ X55 N55 e55 _ (by simp [own_sp, hc693, hc700, hc708])
                                      · refine o_ifY X55 B 715 at_708 (XT.ll_ne_t hc708) rfl ?_
                                        refine o_iconst X55 B at_715 ?_
                                        refine o_istore (L' := #[vi p0, vj j1, .second, vj j3, .second, vi p3, vi p4, vi x7_3, vi z8, vi z9, vi z10, vi z11, vi z12, vi x13_80, vj j14, .second, vj j16, .second, vi x18_123, vi x19_135, vi x20_147, vi x21_159, vr ob8, vr ob14, vr ob18, vr ob26, vr s26, vi z27, vi x28_391, vi d29, vr so_33, vr so_35, vi z32, vr ob38, .val v34, vr a35, vr a36, vi z37, vi z38, vi z39, vi z40, vj j41, .second, vi z43, vi 0]) X55 B at_716 rfl ?_
                                        refine o_goto X55 B 733 at_718 rfl ?_
                                        exact hJ733_56 _ _ X55 N55 e55 _ (by simp [own_sp, hc693, hc700, hc708])
                                by_cases hc674 : z39 = (0 : Int32)
                                · refine o_ifY X54 B 686 at_674 (XT.i0_eq_t hc674) rfl ?_
                                  refine o_iconst X54 B at_686 ?_
                                  exact hJ687_55 _ _ X54 N54 e54 _ (by simp [hc674])
                                · refine o_ifN X54 B at_674 (XT.i0_eq_f hc674) ?_
                                  refine o_iload X54 B at_677 rfl ?_
                                  by_cases hc679 : z40 = (0 : Int32)
                                  · refine o_ifN X54 B at_679 (XT.i0_ne_f hc679) ?_
                                    refine o_iconst X54 B at_682 ?_
                                    refine o_goto X54 B 687 at_683 rfl ?_
                                    exact hJ687_55 _ _ X54 N54 e54 _ (by simp [hc674, hc679])
                                  · refine o_ifY X54 B 686 at_679 (XT.i0_ne_t hc679) rfl ?_
                                    refine o_iconst X54 B at_686 ?_
                                    exact hJ687_55 _ _ X54 N54 e54 _ (by simp [hc674, hc679])
                              by_cases hc661 : z38 = (0 : Int32)
                              · refine o_ifY X53 B 669 at_661 (XT.i0_eq_t hc661) rfl ?_
                                refine o_lconst X53 B (0 : Int64) at_669 rfl ?_
                                exact hJ670_54 _ _ X53 N53 e53 _ (by simp [hc661])
                              · refine o_ifN X53 B at_661 (XT.i0_eq_f hc661) ?_
                                refine o_lload X53 B at_664 rfl ?_
                                refine o_goto X53 B 670 at_666 rfl ?_
                                exact hJ670_54 _ _ X53 N53 e53 _ (by simp [hc661])
                            by_cases hc639 : z38 = (0 : Int32)
                            · refine o_ifY X52 B 656 at_639 (XT.i0_eq_t hc639) rfl ?_
                              refine o_iconst X52 B at_656 ?_
                              exact hJ657_53 _ _ X52 N52 e52 _ (by simp [hc639])
                            · refine o_ifN X52 B at_639 (XT.i0_eq_f hc639) ?_
                              refine o_iload X52 B at_642 rfl ?_
                              by_cases hc644 : z8 = (0 : Int32)
                              · refine o_ifY X52 B 656 at_644 (XT.i0_eq_t hc644) rfl ?_
                                refine o_iconst X52 B at_656 ?_
                                exact hJ657_53 _ _ X52 N52 e52 _ (by simp [hc639, hc644])
                              · refine o_ifN X52 B at_644 (XT.i0_eq_f hc644) ?_
                                refine o_iload X52 B at_647 rfl ?_
                                by_cases hc649 : z27 = (0 : Int32)
                                · refine o_ifY X52 B 656 at_649 (XT.i0_eq_t hc649) rfl ?_
                                  refine o_iconst X52 B at_656 ?_
                                  exact hJ657_53 _ _ X52 N52 e52 _ (by simp [hc639, hc644, hc649])
                                · refine o_ifN X52 B at_649 (XT.i0_eq_f hc649) ?_
                                  refine o_iconst X52 B at_652 ?_
                                  refine o_goto X52 B 657 at_653 rfl ?_
                                  exact hJ657_53 _ _ X52 N52 e52 _ (by simp [hc639, hc644, hc649])
                          by_cases hc621 : z38 = (0 : Int32)
                          · refine o_ifY X51 B 634 at_621 (XT.i0_eq_t hc621) rfl ?_
                            refine o_iconst X51 B at_634 ?_
                            exact hJ635_52 _ _ X51 N51 e51 _ (by simp [hc621])
                          · refine o_ifN X51 B at_621 (XT.i0_eq_f hc621) ?_
                            refine o_iload X51 B at_624 rfl ?_
                            refine o_iconst X51 B at_626 ?_
                            by_cases hc627 : x7_3 = (2 : Int32)
                            · refine o_icN X51 B at_627 (XT.ii_ne_f hc627) ?_
                              refine o_iconst X51 B at_630 ?_
                              refine o_goto X51 B 635 at_631 rfl ?_
                              exact hJ635_52 _ _ X51 N51 e51 _ (by simp [hc621, hc627])
                            · refine o_icY X51 B 634 at_627 (XT.ii_ne_t hc627) rfl ?_
                              refine o_iconst X51 B at_634 ?_
                              exact hJ635_52 _ _ X51 N51 e51 _ (by simp [hc621, hc627])
                        by_cases hc603 : z32 = (0 : Int32)
                        · refine o_ifY X50 B 616 at_603 (XT.i0_eq_t hc603) rfl ?_
                          refine o_iconst X50 B at_616 ?_
                          exact hJ617_51 _ _ X50 N50 e50 _ (by simp [hc603])
                        · refine o_ifN X50 B at_603 (XT.i0_eq_f hc603) ?_
                          refine o_iload X50 B at_606 rfl ?_
                          refine o_iconst X50 B at_608 ?_
                          show own_G p e below Φ T50 (mkF m 609 #[vi p0, vj j1, .second, vj j3, .second, vi p3, vi p4, vi x7_3, vi z8, vi z9, vi z10, vi z11, vi z12, vi x13_80, vj j14, .second, vj j16, .second, vi x18_123, vi x19_135, vi x20_147, vi x21_159, vr ob8, vr ob14, vr ob18, vr ob26, vr s26, vi z27, vi x28_391, vi d29, vr so_33, vr so_35, vi z32, vr ob38, .val v34, vr a35, vr a36, vi z37, .unset, .unset, .unset, .unset, .unset, .unset, .unset] [(.int (3 : Int32)), (.int x7_3)])
                          by_cases hc609 : x7_3 = (3 : Int32)
                          · refine o_icY X50 B 616 at_609 (XT.ii_eq_t hc609) rfl ?_
                            refine o_iconst X50 B at_616 ?_
                            exact hJ617_51 _ _ X50 N50 e50 _ (by simp [hc603, hc609])
                          · refine o_icN X50 B at_609 (XT.ii_eq_f hc609) ?_
                            refine o_iconst X50 B at_612 ?_
                            refine o_goto X50 B 617 at_613 rfl ?_
                            exact hJ617_51 _ _ X50 N50 e50 _ (by simp [hc603, hc609])
                      refine o_iload X48 B at_471 rfl ?_
                      by_cases hc473 : z8 = (0 : Int32)
                      · refine o_ifY X48 B 495 at_473 (XT.i0_eq_t hc473) rfl ?_
                        have f_81 := f_57.keep Kq48
                        have f_88 := ((((((p33_1.keep Kq35 nin0).ext E38).keep Kq40 (ninS ne_so_33_ob38 nin0)).ext E42).ext E44).keep Kq46 (ninS ne_so_33_ob42 nin0)).keep Kq48 (ninS ne_so_33_ob38 nin0)
                        have f_95 := ((((((p33_2.keep Kq35 nin0).ext E38).keep Kq40 (ninS ne_so_33_ob38 nin0)).ext E42).ext E44).keep Kq46 (ninS ne_so_33_ob42 nin0)).keep Kq48 (ninS ne_so_33_ob38 nin0)
                        have f_96 := f_60.keep Kq48 (ninS ne_vb_33_ob38 nin0)
                        have f_103 := ((((((p33_4.keep Kq35 nin0).ext E38).keep Kq40 (ninS ne_so_33_ob38 nin0)).ext E42).ext E44).keep Kq46 (ninS ne_so_33_ob42 nin0)).keep Kq48 (ninS ne_so_33_ob38 nin0)
                        have f_110 := ((((((p33_5.keep Kq35 nin0).ext E38).keep Kq40 (ninS ne_so_33_ob38 nin0)).ext E42).ext E44).keep Kq46 (ninS ne_so_33_ob42 nin0)).keep Kq48 (ninS ne_so_33_ob38 nin0)
                        have f_111 := f_63.keep Kq48
                        have f_117 := (((((p35_1.ext E38).keep Kq40 (ninS ne_so_35_ob38 nin0)).ext E42).ext E44).keep Kq46 (ninS ne_so_35_ob42 nin0)).keep Kq48 (ninS ne_so_35_ob38 nin0)
                        have f_123 := (((((p35_2.ext E38).keep Kq40 (ninS ne_so_35_ob38 nin0)).ext E42).ext E44).keep Kq46 (ninS ne_so_35_ob42 nin0)).keep Kq48 (ninS ne_so_35_ob38 nin0)
                        have f_124 := f_66.keep Kq48 (ninS ne_vb_35_ob38 nin0)
                        have f_130 := (((((p35_4.ext E38).keep Kq40 (ninS ne_so_35_ob38 nin0)).ext E42).ext E44).keep Kq46 (ninS ne_so_35_ob42 nin0)).keep Kq48 (ninS ne_so_35_ob38 nin0)
                        have f_136 := (((((p35_5.ext E38).keep Kq40 (ninS ne_so_35_ob38 nin0)).ext E42).ext E44).keep Kq46 (ninS ne_so_35_ob42 nin0)).keep Kq48 (ninS ne_so_35_ob38 nin0)
                        have K57 : Keep T48.heap T48.heap [so_33] := Keep.refl _ _
                        refine o_anull X48 B at_495 ?_
                        refine o_astore (L' := #[vi p0, vj j1, .second, vj j3, .second, vi p3, vi p4, vi x7_3, vi z8, vi z9, vi z10, vi z11, vi z12, vi x13_80, vj j14, .second, vj j16, .second, vi x18_123, vi x19_135, vi x20_147, vi x21_159, vr ob8, vr ob14, vr ob18, vr ob26, vr s26, vi z27, vi x28_391, vi d29, vr so_33, vr so_35, vi z32, vr ob38, .val .null, .unset, .unset, .unset, .unset, .unset, .unset, .unset, .unset, .unset, .unset]) X48 B at_496 rfl rfl ?_
                        refine o_iload X48 B at_498 rfl ?_
                        show own_G p e below Φ T48 (mkF m 500 #[vi p0, vj j1, .second, vj j3, .second, vi p3, vi p4, vi x7_3, vi z8, vi z9, vi z10, vi z11, vi z12, vi x13_80, vj j14, .second, vj j16, .second, vi x18_123, vi x19_135, vi x20_147, vi x21_159, vr ob8, vr ob14, vr ob18, vr ob26, vr s26, vi z27, vi x28_391, vi d29, vr so_33, vr so_35, vi z32, vr ob38, .val .null, .unset, .unset, .unset, .unset, .unset, .unset, .unset, .unset, .unset, .unset] [(.int x7_3)])
                        refine o_iconst X48 B at_500 ?_
                        by_cases hc501 : x7_3 = (3 : Int32)
                        · refine o_icY X48 B 558 at_501 (XT.ii_eq_t hc501) rfl ?_
                          refine o_new X48 B hZ hown (wd_135 hw) (wd_136 hw) (wd_137 hw) rfl at_558 (by decide) (by decide) ?_
                          intro T58 h58 ob58 g58 X58 e58 E58 A58 D58
                          have ne_so_33_ob58 : so_33 ≠ ob58 := Nat.ne_of_lt (Nat.lt_of_lt_of_le f_81.lt (Nat.le_of_eq g58.symm))
                          have ne_so_35_ob58 : so_35 ≠ ob58 := Nat.ne_of_lt (Nat.lt_of_lt_of_le f_111.lt (Nat.le_of_eq g58.symm))
                          have g_ob58 : n0 ≤ ob58 := Nat.le_trans Zp48 (Nat.le_of_eq g58.symm)
                          have sz_ob58 : T48.heap.size ≤ ob58 := Nat.le_trans K57.1 (Nat.le_of_eq g58.symm)
                          have K58 := K57.ext E58
                          have Zp58 : n0 ≤ h58.size := Nat.le_trans Zp48 E58.1
                          have F_loadFactor_ob58 : fF19 Z h58 ob58 (.float 0) := D58 (Or.inr (wd_150 hw)) (ty := .float) (by decide)
                          have F_table_ob58 : fF15 Z h58 ob58 .null := D58 (Or.inl (wd_183 hw)) (ty := (.array (.object "java/util/HashMap$Node"))) (by decide)
                          have F_threshold_ob58 : fF16 Z h58 ob58 (.int (0 : Int32)) := D58 (Or.inl (wd_190 hw)) (ty := .int) (by decide)
                          have F_modCount_ob58 : fF18 Z h58 ob58 (.int (0 : Int32)) := D58 (Or.inl (wd_214 hw)) (ty := .int) (by decide)
                          have F_size_ob58 : fF17 Z h58 ob58 (.int (0 : Int32)) := D58 (Or.inl (wd_216 hw)) (ty := .int) (by decide)
                          refine o_dup X58 B at_561 rfl ?_
                          refine o_cI (argsL := []) (rest := [(.ref ob58)]) X58 B hZ hown rfl (wd_138 hw) (wd_139 hw) (wd_140 hw) (wd_137 hw) (by decide) rfl 1 (rmHmin l Z a0 hw [] ob58 h58 n0 Zp58 A58 F_table_ob58 F_threshold_ob58 F_size_ob58 F_modCount_ob58 F_loadFactor_ob58 g_ob58) (by decide) (by decide) (lenOf pd_7 rfl) rfl rfl rfl at_562 e58 (by decide) (by decide) rfl ?_
                          rintro _ T60 _ X60 ⟨rfl, N60q, Kq60, p60_0, p60_1, p60_2, p60_3, p60_4⟩
                          have K60 := K58.trans Kq60 (allS (Or.inr sz_ob58) all0)
                          have Zp60 : n0 ≤ T60.heap.size := Nat.le_trans Zp58 Kq60.1
                          have O61 := (O49.ext E58).keep Kq60 (allS g_ob58 all0)
                          refine o_astore (L' := #[vi p0, vj j1, .second, vj j3, .second, vi p3, vi p4, vi x7_3, vi z8, vi z9, vi z10, vi z11, vi z12, vi x13_80, vj j14, .second, vj j16, .second, vi x18_123, vi x19_135, vi x20_147, vi x21_159, vr ob8, vr ob14, vr ob18, vr ob26, vr s26, vi z27, vi x28_391, vi d29, vr so_33, vr so_35, vi z32, vr ob38, .val .null, vr ob58, .unset, .unset, .unset, .unset, .unset, .unset, .unset, .unset, .unset]) X60 B at_565 rfl rfl ?_
                          refine o_aload X60 B at_567 rfl rfl ?_
                          refine o_aload X60 B at_569 rfl rfl ?_
                          refine o_aload X60 B at_571 rfl rfl ?_
                          refine o_cV (argsL := [(.ref so_33), .null]) (rest := []) X60 B hZ hown (wd_151 hw) (wd_152 hw) (wd_154 hw) (wd_153 hw) (wd_155 hw) (wd_137 hw) (by decide) p60_0 0 (rmPut l Z a0 hw [] ob58 .null so_33 gz vb_33 kb_33 x28_391 (0 : Int32) (0 : Int32) T60.heap n0 Zp60 O61 S_COMPACT_STRINGS hgz (f_81.keep K60) ((f_88.ext E58).keep Kq60 (ninS ne_so_33_ob58 nin0)) ((f_95.ext E58).keep Kq60 (ninS ne_so_33_ob58 nin0)) (f_96.keep K60 (ninS (Ne.symm ne_so_33_vb_33) nin0)) ((f_103.ext E58).keep Kq60 (ninS ne_so_33_ob58 nin0)) ((f_110.ext E58).keep Kq60 (ninS ne_so_33_ob58 nin0)) g_so_33 hr28 (own_hc0 _) p60_0 p60_1 p60_2 p60_3 p60_4 g_ob58 rfl) (by decide) (by decide) (lenOf pd_43 rfl) rfl rfl rfl at_573 rfl (by decide) (by decide) rfl ?_
                          rintro _ T62 _ X62 ⟨tab_62, ns_tab_62, kt_62, nd_62, ns_nd_62, rfl, N62q, Kq62, p62_0, p62_1, p62_2, p62_3, p62_4, p62_5, p62_6, p62_7, p62_8, p62_9⟩
                          have K62 := K60.trans Kq62 (allS (Or.inr sz_ob58) (allS (Or.inl (List.mem_of_getElem? (i := 0) rfl)) all0))
                          have Zp62 : n0 ≤ T62.heap.size := Nat.le_trans Zp60 Kq62.1
                          refine o_pop X62 B at_576 rfl ?_
                          refine o_new X62 B hZ hown (wd_222 hw) (wd_223 hw) (wd_224 hw) rfl at_577 (by decide) (by decide) ?_
                          intro T64 h64 ob64 g64 X64 e64 E64 A64 D64
                          have ne_so_33_ob64 : so_33 ≠ ob64 := Nat.ne_of_lt (Nat.lt_of_lt_of_le p62_8.lt (Nat.le_of_eq g64.symm))
                          have ne_ob58_ob64 : ob58 ≠ ob64 := Nat.ne_of_lt (Nat.lt_of_lt_of_le p62_0.lt (Nat.le_of_eq g64.symm))
                          have ne_tab_62_ob64 : tab_62 ≠ ob64 := Nat.ne_of_lt (Nat.lt_of_lt_of_le p62_2.lt (Nat.le_of_eq g64.symm))
                          have ne_nd_62_ob64 : nd_62 ≠ ob64 := Nat.ne_of_lt (Nat.lt_of_lt_of_le p62_3.lt (Nat.le_of_eq g64.symm))
                          have g_ob64 : n0 ≤ ob64 := Nat.le_trans Zp62 (Nat.le_of_eq g64.symm)
                          have K64 := K62.ext E64
                          have Zp64 : n0 ≤ h64.size := Nat.le_trans Zp62 E64.1
                          have F_answers_ob64 : fF24 Z h64 ob64 .null := D64 (Or.inr (wd_254 hw)) (ty := (.object "java/util/Map")) (by decide)
                          refine o_dup X64 B at_580 rfl ?_
                          refine o_aload X64 B at_581 rfl rfl ?_
                          have f_151 := p62_0.ext E64
                          refine o_cI (argsL := [(.ref ob58)]) (rest := [(.ref ob64)]) X64 B hZ hown rfl (wd_225 hw) (wd_226 hw) (wd_227 hw) (wd_224 hw) (by decide) rfl 1 (rmCtin l Z a0 hw [] ob64 ob58 mh mu h64 n0 Zp64 A64 F_answers_ob64 g_ob64 f_151 hmh hmu) (by decide) (by decide) (lenOf pd_21 rfl) rfl rfl rfl at_583 e64 (by decide) (by decide) rfl ?_
                          rintro _ T66 _ X66 ⟨am_66, rfl, N66q, Kq66, p66_0, p66_1, p66_2, p66_3⟩
                          have N66 := Fr.app (Fr.app (Fr.app N48 N60q) N62q) N66q
                          have K66 := K64.trans Kq66 (allS (Or.inr (Nat.le_trans K62.1 (Nat.le_of_eq g64.symm))) all0)
                          have Zp66 : n0 ≤ T66.heap.size := Nat.le_trans Zp64 Kq66.1
                          have O67 := ((O61.keep Kq62 (allS g_ob58 (allS g_so_33 all0))).ext E64).keep Kq66 (allS g_ob64 all0)
                          have f_152 := f_111.keep K66
                          have ne_am_66_so_35 : am_66 ≠ so_35 := p66_3.elim (fun q => q ▸ (Ne.symm ne_so_35_ob58)) (fun q => (Nat.ne_of_lt (Nat.lt_of_lt_of_le (f_111.keep K64).lt q)).symm)
                          refine o_astore (L' := #[vi p0, vj j1, .second, vj j3, .second, vi p3, vi p4, vi x7_3, vi z8, vi z9, vi z10, vi z11, vi z12, vi x13_80, vj j14, .second, vj j16, .second, vi x18_123, vi x19_135, vi x20_147, vi x21_159, vr ob8, vr ob14, vr ob18, vr ob26, vr s26, vi z27, vi x28_391, vi d29, vr so_33, vr so_35, vi z32, vr ob38, .val .null, vr ob58, vr ob64, .unset, .unset, .unset, .unset, .unset, .unset, .unset, .unset]) X66 B at_586 rfl rfl ?_
                          refine o_aload X66 B at_588 rfl rfl ?_
                          refine o_aload X66 B at_590 rfl rfl ?_
                          refine o_aload X66 B at_592 rfl rfl ?_
                          refine o_lload X66 B at_594 rfl ?_
                          have f_153 := f_81.keep K66
                          have f_154 := f_96.keep K66 (ninS (Ne.symm ne_so_33_vb_33) nin0)
                          have f_155 := f_117.keep K66 (ninS (Ne.symm ne_so_33_so_35) nin0)
                          have f_156 := f_123.keep K66 (ninS (Ne.symm ne_so_33_so_35) nin0)
                          have f_157 := f_124.keep K66 (ninS (Ne.symm ne_so_33_vb_35) nin0)
                          have f_158 := f_130.keep K66 (ninS (Ne.symm ne_so_33_so_35) nin0)
                          have f_159 := f_136.keep K66 (ninS (Ne.symm ne_so_33_so_35) nin0)
                          have f_160 := f_151.keep Kq66
                          have f_162 := (p62_1.ext E64).keep Kq66 (ninS ne_ob58_ob64 nin0)
                          have f_164 := (p62_2.ext E64).keep Kq66 (ninS ne_tab_62_ob64 nin0)
                          have f_166 := (p62_3.ext E64).keep Kq66
                          have f_168 := (p62_4.ext E64).keep Kq66 (ninS ne_nd_62_ob64 nin0)
                          have f_170 := (p62_5.ext E64).keep Kq66 (ninS ne_nd_62_ob64 nin0)
                          have f_172 := (p62_6.ext E64).keep Kq66 (ninS ne_nd_62_ob64 nin0)
                          have f_174 := (p62_7.ext E64).keep Kq66 (ninS ne_nd_62_ob64 nin0)
                          have f_176 := (p62_8.ext E64).keep Kq66 (ninS ne_so_33_ob64 nin0)
                          have f_178 := (p62_9.ext E64).keep Kq66 (ninS ne_so_33_ob64 nin0)
                          by_cases hcc : x28_391 = d29
                          · have hz32 : z32 = 1 := h_z32.trans (if_pos hcc)
                            show own_G p e below Φ T66 (mkF m 596 #[vi p0, vj j1, .second, vj j3, .second, vi p3, vi p4, vi x7_3, vi z8, vi z9, vi z10, vi z11, vi z12, vi x13_80, vj j14, .second, vj j16, .second, vi x18_123, vi x19_135, vi x20_147, vi x21_159, vr ob8, vr ob14, vr ob18, vr ob26, vr s26, vi z27, vi x28_391, vi d29, vr so_33, vr so_35, vi z32, vr ob38, .val .null, vr ob58, vr ob64, .unset, .unset, .unset, .unset, .unset, .unset, .unset, .unset] [(.long j16), (.ref s26), (.ref so_35), (.ref ob64)])
                            refine o_cV (argsL := [(.ref so_35), (.ref s26), (.long j16)]) (rest := []) X66 B hZ hown (wd_255 hw) (wd_256 hw) (wd_258 hw) (wd_257 hw) (wd_259 hw) (wd_224 hw) (by decide) p66_0 0 (rmSpkN l Z a0 hw [] ob64 am_66 ob58 tab_62 kt_62 nd_62 .null x28_391 so_33 vb_33 kb_33 so_35 gz vb_35 kb_35 d29 (0 : Int32) (0 : Int32) s26 j16 T66.heap n0 Zp66 p66_0 p66_1 p66_2 ne_am_66_so_35 O67 S_COMPACT_STRINGS hgz f_152 f_155 f_156 f_157 f_158 f_159 g_so_35 h_d29 (own_hc0 _) f_160 f_162 f_164 f_166 f_168 f_170 f_172 f_174 f_153 f_176 f_178 f_154 (Ne.symm ne_so_33_so_35) rfl (if_pos hcc)) (by decide) (by decide) (lenOf pd_44 rfl) rfl rfl rfl at_596 rfl (by decide) (by decide) rfl ?_
                            rintro _ T68 _ X68 ⟨hv2_68, zv2_68, rfl, N68q, Kq68, p68_0, p68_1, p68_2, p68_3, p68_4, p68_5⟩
                            exact hHE _ _ _ (X68.mono (by decide : 22 ≤ 64) (by decide : 85 ≤ 320)) rfl (Fr.app N66 N68q) (Nat.le_trans Zp66 Kq68.1) (O67.keep Kq68 (allS g_so_35 all0)) .null ob58 ob64 (own_sp j16 (0 : Int64) (0 : Int32))  (by simp [own_x, hz32, hc501])
                          · have hz32 : z32 = 0 := h_z32.trans (if_neg hcc)
                            show own_G p e below Φ T66 (mkF m 596 #[vi p0, vj j1, .second, vj j3, .second, vi p3, vi p4, vi x7_3, vi z8, vi z9, vi z10, vi z11, vi z12, vi x13_80, vj j14, .second, vj j16, .second, vi x18_123, vi x19_135, vi x20_147, vi x21_159, vr ob8, vr ob14, vr ob18, vr ob26, vr s26, vi z27, vi x28_391, vi d29, vr so_33, vr so_35, vi z32, vr ob38, .val .null, vr ob58, vr ob64, .unset, .unset, .unset, .unset, .unset, .unset, .unset, .unset] [(.long j16), (.ref s26), (.ref so_35), (.ref ob64)])
                            refine o_cV (argsL := [(.ref so_35), (.ref s26), (.long j16)]) (rest := []) X66 B hZ hown (wd_255 hw) (wd_256 hw) (wd_258 hw) (wd_257 hw) (wd_259 hw) (wd_224 hw) (by decide) p66_0 0 (rmSpkN l Z a0 hw [] ob64 am_66 ob58 tab_62 kt_62 nd_62 .null x28_391 so_33 vb_33 kb_33 so_35 gz vb_35 kb_35 d29 (0 : Int32) (0 : Int32) s26 j16 T66.heap n0 Zp66 p66_0 p66_1 p66_2 ne_am_66_so_35 O67 S_COMPACT_STRINGS hgz f_152 f_155 f_156 f_157 f_158 f_159 g_so_35 h_d29 (own_hc0 _) f_160 f_162 f_164 f_166 f_168 f_170 f_172 f_174 f_153 f_176 f_178 f_154 (Ne.symm ne_so_33_so_35) rfl (if_neg hcc)) (by decide) (by decide) (lenOf pd_44 rfl) rfl rfl rfl at_596 rfl (by decide) (by decide) rfl ?_
                            rintro _ T70 _ X70 ⟨hv2_70, zv2_70, rfl, N70q, Kq70, p70_0, p70_1, p70_2, p70_3, p70_4, p70_5⟩
                            exact hHE _ _ _ (X70.mono (by decide : 22 ≤ 64) (by decide : 85 ≤ 320)) rfl (Fr.app N66 N70q) (Nat.le_trans Zp66 Kq70.1) (O67.keep Kq70 (allS g_so_35 all0)) .null ob58 ob64 (own_sp j16 (0 : Int64) (0 : Int32))  (by simp [own_x, hz32])
                        · refine o_icN X48 B at_501 (XT.ii_eq_f hc501) ?_
                          refine o_iload X48 B at_504 rfl ?_
                          have hJ536_72 : ∀ (T' : State) (l' : List Loc), own_AlL X48 T' l' 17 52 → Fr n0 l' → T'.heap = T48.heap → ∀ (kn : Addr), ((kn ≠ ku ∧ ¬ x7_3 = 2) ∨ (kn = ku ∧ x7_3 = 2)) → own_G p e below Φ T' (mkF m 536 #[vi p0, vj j1, .second, vj j3, .second, vi p3, vi p4, vi x7_3, vi z8, vi z9, vi z10, vi z11, vi z12, vi x13_80, vj j14, .second, vj j16, .second, vi x18_123, vi x19_135, vi x20_147, vi x21_159, vr ob8, vr ob14, vr ob18, vr ob26, vr s26, vi z27, vi x28_391, vi d29, vr so_33, vr so_35, vi z32, vr ob38, .val .null, vr kn, .unset, .unset, .unset, .unset, .unset, .unset, .unset, .unset, .unset] []) := by
                            intro T72 l72 X72' N72 e72 kn h_kn
                            have X72 : Stand _ _ _ _ _ _ _ _ _ _ T72 _ _ _ := X72'
                            refine o_new X72 B hZ hown (wd_120 hw) (wd_121 hw) (wd_122 hw) e72 at_536 (by decide) (by decide) ?_
                            intro T73 h73 ob73 g73 X73 e73 E73 A73 D73
                            have ne_so_33_ob73 : so_33 ≠ ob73 := Nat.ne_of_lt (Nat.lt_of_lt_of_le f_81.lt (Nat.le_of_eq g73.symm))
                            have g_ob73 : n0 ≤ ob73 := Nat.le_trans Zp48 (Nat.le_of_eq g73.symm)
                            have K73 := K57.ext E73
                            have Zp73 : n0 ≤ h73.size := Nat.le_trans Zp48 E73.1
                            have F_knowledge_ob73 : fF11 Z h73 ob73 .null := D73 (Or.inr (wd_128 hw)) (ty := (.object "com/example/brickwork/brickwork/wire/Protocol$Knowledge")) (by decide)
                            have F_directory_ob73 : fF12 Z h73 ob73 (.long (0 : Int64)) := D73 (Or.inr (wd_130 hw)) (ty := .long) (by decide)
                            have F_tables_ob73 : fF13 Z h73 ob73 .null := D73 (Or.inr (wd_132 hw)) (ty := (.object "java/util/List")) (by decide)
                            have F_destroyed_ob73 : fF14 Z h73 ob73 .null := D73 (Or.inr (wd_134 hw)) (ty := (.object "java/util/List")) (by decide)
                            refine o_dup X73 B at_539 rfl ?_
                            refine o_aload X73 B at_540 rfl rfl ?_
                            refine o_lload X73 B at_542 rfl ?_
                            refine o_aload X73 B at_544 rfl rfl ?_
                            refine o_new X73 B hZ hown (wd_44 hw) (wd_45 hw) (wd_46 hw) e73 at_546 (by decide) (by decide) ?_
                            intro T75 h75 ob75 g75 X75 e75 E75 A75 D75
                            have ne_so_33_ob75 : so_33 ≠ ob75 := Nat.ne_of_lt (Nat.lt_of_lt_of_le (f_81.keep K73).lt (Nat.le_of_eq g75.symm))
                            have ne_ob73_ob75 : ob73 ≠ ob75 := Nat.ne_of_lt (Nat.lt_of_lt_of_le A73.lt (Nat.le_of_eq g75.symm))
                            have g_ob75 : n0 ≤ ob75 := Nat.le_trans Zp73 (Nat.le_of_eq g75.symm)
                            have K75 := K73.ext E75
                            have Zp75 : n0 ≤ h75.size := Nat.le_trans Zp73 E75.1
                            have O76 := (O49.ext E73).ext E75
                            have F_modCount_ob75 : fF5 Z h75 ob75 (.int (0 : Int32)) := D75 (Or.inl (wd_64 hw)) (ty := .int) (by decide)
                            have F_elementData_ob75 : fF7 Z h75 ob75 .null := D75 (Or.inl (wd_67 hw)) (ty := (.array (.object "java/lang/Object"))) (by decide)
                            have F_size_ob75 : fF6 Z h75 ob75 (.int (0 : Int32)) := D75 (Or.inl (wd_94 hw)) (ty := .int) (by decide)
                            refine o_dup X75 B at_549 rfl ?_
                            refine o_cI (argsL := []) (rest := [(.ref ob75), (.ref ob38), (.long j14), (.ref kn), (.ref ob73), (.ref ob73)]) X75 B hZ hown rfl (wd_47 hw) (wd_48 hw) (wd_49 hw) (wd_46 hw) (by decide) rfl 7 (rmAlin l Z a0 hw [] ob75 de (.int (0 : Int32)) .null h75 n0 Zp75 O76 S_DEFAULTCAPACITY_EMPTY_ELEMENTDATA A75 F_modCount_ob75 F_size_ob75 F_elementData_ob75 g_ob75) (by decide) (by decide) (lenOf pd_7 rfl) rfl rfl rfl at_550 e75 (by decide) (by decide) rfl ?_
                            rintro _ T77 _ X77 ⟨rfl, N77q, Kq77, p77_0, p77_1, p77_2, p77_3⟩
                            have K77 := K75.trans Kq77 (allS (Or.inr (Nat.le_trans K73.1 (Nat.le_of_eq g75.symm))) all0)
                            have Zp77 : n0 ≤ T77.heap.size := Nat.le_trans Zp75 Kq77.1
                            refine o_cI (argsL := [(.ref kn), (.long j14), (.ref ob38), (.ref ob75)]) (rest := [(.ref ob73)]) X77 B hZ hown rfl (wd_123 hw) (wd_124 hw) (wd_125 hw) (wd_122 hw) (by decide) rfl 1 (rmTbin l Z a0 hw [] ob73 kn j14 ob38 ob75 T77.heap n0 Zp77 ((A73.ext E75).keep Kq77) ((F_knowledge_ob73.ext E75).keep Kq77 (ninS ne_ob73_ob75 nin0)) ((F_directory_ob73.ext E75).keep Kq77 (ninS ne_ob73_ob75 nin0)) ((F_tables_ob73.ext E75).keep Kq77 (ninS ne_ob73_ob75 nin0)) ((F_destroyed_ob73.ext E75).keep Kq77 (ninS ne_ob73_ob75 nin0)) g_ob73) (by decide) (by decide) (lenOf pd_45 rfl) rfl rfl rfl at_553 rfl (by decide) (by decide) rfl ?_
                            rintro _ T79 _ X79 ⟨rfl, N79q, Kq79, p79_0, p79_1, p79_2, p79_3⟩
                            have K79 := K77.trans Kq79 (allS (Or.inr (Nat.le_trans K57.1 (Nat.le_of_eq g73.symm))) all0)
                            have Zp79 : n0 ≤ T79.heap.size := Nat.le_trans Zp77 Kq79.1
                            refine o_astore (L' := #[vi p0, vj j1, .second, vj j3, .second, vi p3, vi p4, vi x7_3, vi z8, vi z9, vi z10, vi z11, vi z12, vi x13_80, vj j14, .second, vj j16, .second, vi x18_123, vi x19_135, vi x20_147, vi x21_159, vr ob8, vr ob14, vr ob18, vr ob26, vr s26, vi z27, vi x28_391, vi d29, vr so_33, vr so_35, vi z32, vr ob38, vr ob73, vr kn, .unset, .unset, .unset, .unset, .unset, .unset, .unset, .unset, .unset]) X79 B at_556 rfl rfl ?_
                            refine o_new X79 B hZ hown (wd_135 hw) (wd_136 hw) (wd_137 hw) rfl at_558 (by decide) (by decide) ?_
                            intro T81 h81 ob81 g81 X81 e81 E81 A81 D81
                            have ne_so_33_ob81 : so_33 ≠ ob81 := Nat.ne_of_lt (Nat.lt_of_lt_of_le (f_81.keep K79).lt (Nat.le_of_eq g81.symm))
                            have ne_so_35_ob81 : so_35 ≠ ob81 := Nat.ne_of_lt (Nat.lt_of_lt_of_le (f_111.keep K79).lt (Nat.le_of_eq g81.symm))
                            have ne_ob73_ob81 : ob73 ≠ ob81 := Nat.ne_of_lt (Nat.lt_of_lt_of_le p79_0.lt (Nat.le_of_eq g81.symm))
                            have g_ob81 : n0 ≤ ob81 := Nat.le_trans Zp79 (Nat.le_of_eq g81.symm)
                            have sz_ob81 : T48.heap.size ≤ ob81 := Nat.le_trans K79.1 (Nat.le_of_eq g81.symm)
                            have K81 := K79.ext E81
                            have Zp81 : n0 ≤ h81.size := Nat.le_trans Zp79 E81.1
                            have F_loadFactor_ob81 : fF19 Z h81 ob81 (.float 0) := D81 (Or.inr (wd_150 hw)) (ty := .float) (by decide)
                            have F_table_ob81 : fF15 Z h81 ob81 .null := D81 (Or.inl (wd_183 hw)) (ty := (.array (.object "java/util/HashMap$Node"))) (by decide)
                            have F_threshold_ob81 : fF16 Z h81 ob81 (.int (0 : Int32)) := D81 (Or.inl (wd_190 hw)) (ty := .int) (by decide)
                            have F_modCount_ob81 : fF18 Z h81 ob81 (.int (0 : Int32)) := D81 (Or.inl (wd_214 hw)) (ty := .int) (by decide)
                            have F_size_ob81 : fF17 Z h81 ob81 (.int (0 : Int32)) := D81 (Or.inl (wd_216 hw)) (ty := .int) (by decide)
                            refine o_dup X81 B at_561 rfl ?_
                            refine o_cI (argsL := []) (rest := [(.ref ob81)]) X81 B hZ hown rfl (wd_138 hw) (wd_139 hw) (wd_140 hw) (wd_137 hw) (by decide) rfl 1 (rmHmin l Z a0 hw [] ob81 h81 n0 Zp81 A81 F_table_ob81 F_threshold_ob81 F_size_ob81 F_modCount_ob81 F_loadFactor_ob81 g_ob81) (by decide) (by decide) (lenOf pd_7 rfl) rfl rfl rfl at_562 e81 (by decide) (by decide) rfl ?_
                            rintro _ T83 _ X83 ⟨rfl, N83q, Kq83, p83_0, p83_1, p83_2, p83_3, p83_4⟩
                            have K83 := K81.trans Kq83 (allS (Or.inr sz_ob81) all0)
                            have Zp83 : n0 ≤ T83.heap.size := Nat.le_trans Zp81 Kq83.1
                            have O84 := (((O76.keep Kq77 (allS g_ob75 all0)).keep Kq79 (allS g_ob73 all0)).ext E81).keep Kq83 (allS g_ob81 all0)
                            refine o_astore (L' := #[vi p0, vj j1, .second, vj j3, .second, vi p3, vi p4, vi x7_3, vi z8, vi z9, vi z10, vi z11, vi z12, vi x13_80, vj j14, .second, vj j16, .second, vi x18_123, vi x19_135, vi x20_147, vi x21_159, vr ob8, vr ob14, vr ob18, vr ob26, vr s26, vi z27, vi x28_391, vi d29, vr so_33, vr so_35, vi z32, vr ob38, vr ob73, vr ob81, .unset, .unset, .unset, .unset, .unset, .unset, .unset, .unset, .unset]) X83 B at_565 rfl rfl ?_
                            refine o_aload X83 B at_567 rfl rfl ?_
                            refine o_aload X83 B at_569 rfl rfl ?_
                            show own_G p e below Φ T83 (mkF m 571 #[vi p0, vj j1, .second, vj j3, .second, vi p3, vi p4, vi x7_3, vi z8, vi z9, vi z10, vi z11, vi z12, vi x13_80, vj j14, .second, vj j16, .second, vi x18_123, vi x19_135, vi x20_147, vi x21_159, vr ob8, vr ob14, vr ob18, vr ob26, vr s26, vi z27, vi x28_391, vi d29, vr so_33, vr so_35, vi z32, vr ob38, vr ob73, vr ob81, .unset, .unset, .unset, .unset, .unset, .unset, .unset, .unset, .unset] [(.ref so_33), (.ref ob81)])
                            refine o_aload X83 B at_571 rfl rfl ?_
                            refine o_cV (argsL := [(.ref so_33), (.ref ob73)]) (rest := []) X83 B hZ hown (wd_151 hw) (wd_152 hw) (wd_154 hw) (wd_153 hw) (wd_155 hw) (wd_137 hw) (by decide) p83_0 0 (rmPut l Z a0 hw [] ob81 (.ref ob73) so_33 gz vb_33 kb_33 x28_391 (0 : Int32) (0 : Int32) T83.heap n0 Zp83 O84 S_COMPACT_STRINGS hgz (f_81.keep K83) ((((((f_88.ext E73).ext E75).keep Kq77 (ninS ne_so_33_ob75 nin0)).keep Kq79 (ninS ne_so_33_ob73 nin0)).ext E81).keep Kq83 (ninS ne_so_33_ob81 nin0)) ((((((f_95.ext E73).ext E75).keep Kq77 (ninS ne_so_33_ob75 nin0)).keep Kq79 (ninS ne_so_33_ob73 nin0)).ext E81).keep Kq83 (ninS ne_so_33_ob81 nin0)) (f_96.keep K83 (ninS (Ne.symm ne_so_33_vb_33) nin0)) ((((((f_103.ext E73).ext E75).keep Kq77 (ninS ne_so_33_ob75 nin0)).keep Kq79 (ninS ne_so_33_ob73 nin0)).ext E81).keep Kq83 (ninS ne_so_33_ob81 nin0)) ((((((f_110.ext E73).ext E75).keep Kq77 (ninS ne_so_33_ob75 nin0)).keep Kq79 (ninS ne_so_33_ob73 nin0)).ext E81).keep Kq83 (ninS ne_so_33_ob81 nin0)) g_so_33 hr28 (own_hc0 _) p83_0 p83_1 p83_2 p83_3 p83_4 g_ob81 rfl) (by decide) (by decide) (lenOf pd_43 rfl) rfl rfl rfl at_573 rfl (by decide) (by decide) rfl ?_
                            rintro _ T85 _ X85 ⟨tab_85, ns_tab_85, kt_85, nd_85, ns_nd_85, rfl, N85q, Kq85, p85_0, p85_1, p85_2, p85_3, p85_4, p85_5, p85_6, p85_7, p85_8, p85_9⟩
                            have K85 := K83.trans Kq85 (allS (Or.inr sz_ob81) (allS (Or.inl (List.mem_of_getElem? (i := 0) rfl)) all0))
                            have Zp85 : n0 ≤ T85.heap.size := Nat.le_trans Zp83 Kq85.1
                            refine o_pop X85 B at_576 rfl ?_
                            refine o_new X85 B hZ hown (wd_222 hw) (wd_223 hw) (wd_224 hw) rfl at_577 (by decide) (by decide) ?_
                            intro T87 h87 ob87 g87 X87 e87 E87 A87 D87
                            have ne_so_33_ob87 : so_33 ≠ ob87 := Nat.ne_of_lt (Nat.lt_of_lt_of_le p85_8.lt (Nat.le_of_eq g87.symm))
                            have f_220 := ((p79_0.ext E81).keep Kq83).keep Kq85
                            have ne_ob73_ob87 : ob73 ≠ ob87 := Nat.ne_of_lt (Nat.lt_of_lt_of_le f_220.lt (Nat.le_of_eq g87.symm))
                            have ne_ob81_ob87 : ob81 ≠ ob87 := Nat.ne_of_lt (Nat.lt_of_lt_of_le p85_0.lt (Nat.le_of_eq g87.symm))
                            have ne_tab_85_ob87 : tab_85 ≠ ob87 := Nat.ne_of_lt (Nat.lt_of_lt_of_le p85_2.lt (Nat.le_of_eq g87.symm))
                            have ne_nd_85_ob87 : nd_85 ≠ ob87 := Nat.ne_of_lt (Nat.lt_of_lt_of_le p85_3.lt (Nat.le_of_eq g87.symm))
                            have g_ob87 : n0 ≤ ob87 := Nat.le_trans Zp85 (Nat.le_of_eq g87.symm)
                            have K87 := K85.ext E87
                            have Zp87 : n0 ≤ h87.size := Nat.le_trans Zp85 E87.1
                            have F_answers_ob87 : fF24 Z h87 ob87 .null := D87 (Or.inr (wd_254 hw)) (ty := (.object "java/util/Map")) (by decide)
                            refine o_dup X87 B at_580 rfl ?_
                            refine o_aload X87 B at_581 rfl rfl ?_
                            have f_222 := p85_0.ext E87
                            refine o_cI (argsL := [(.ref ob81)]) (rest := [(.ref ob87)]) X87 B hZ hown rfl (wd_225 hw) (wd_226 hw) (wd_227 hw) (wd_224 hw) (by decide) rfl 1 (rmCtin l Z a0 hw [] ob87 ob81 mh mu h87 n0 Zp87 A87 F_answers_ob87 g_ob87 f_222 hmh hmu) (by decide) (by decide) (lenOf pd_21 rfl) rfl rfl rfl at_583 e87 (by decide) (by decide) rfl ?_
                            rintro _ T89 _ X89 ⟨am_89, rfl, N89q, Kq89, p89_0, p89_1, p89_2, p89_3⟩
                            have N89 := Fr.app (Fr.app (Fr.app (Fr.app (Fr.app N72 N77q) N79q) N83q) N85q) N89q
                            have K89 := K87.trans Kq89 (allS (Or.inr (Nat.le_trans K85.1 (Nat.le_of_eq g87.symm))) all0)
                            have Zp89 : n0 ≤ T89.heap.size := Nat.le_trans Zp87 Kq89.1
                            have O90 := ((O84.keep Kq85 (allS g_ob81 (allS g_so_33 all0))).ext E87).keep Kq89 (allS g_ob87 all0)
                            have f_223 := f_111.keep K89
                            have ne_am_89_so_35 : am_89 ≠ so_35 := p89_3.elim (fun q => q ▸ (Ne.symm ne_so_35_ob81)) (fun q => (Nat.ne_of_lt (Nat.lt_of_lt_of_le (f_111.keep K87).lt q)).symm)
                            refine o_astore (L' := #[vi p0, vj j1, .second, vj j3, .second, vi p3, vi p4, vi x7_3, vi z8, vi z9, vi z10, vi z11, vi z12, vi x13_80, vj j14, .second, vj j16, .second, vi x18_123, vi x19_135, vi x20_147, vi x21_159, vr ob8, vr ob14, vr ob18, vr ob26, vr s26, vi z27, vi x28_391, vi d29, vr so_33, vr so_35, vi z32, vr ob38, vr ob73, vr ob81, vr ob87, .unset, .unset, .unset, .unset, .unset, .unset, .unset, .unset]) X89 B at_586 rfl rfl ?_
                            refine o_aload X89 B at_588 rfl rfl ?_
                            refine o_aload X89 B at_590 rfl rfl ?_
                            refine o_aload X89 B at_592 rfl rfl ?_
                            refine o_lload X89 B at_594 rfl ?_
                            have f_224 := f_81.keep K89
                            have f_225 := f_96.keep K89 (ninS (Ne.symm ne_so_33_vb_33) nin0)
                            have f_226 := f_117.keep K89 (ninS (Ne.symm ne_so_33_so_35) nin0)
                            have f_227 := f_123.keep K89 (ninS (Ne.symm ne_so_33_so_35) nin0)
                            have f_228 := f_124.keep K89 (ninS (Ne.symm ne_so_33_vb_35) nin0)
                            have f_229 := f_130.keep K89 (ninS (Ne.symm ne_so_33_so_35) nin0)
                            have f_230 := f_136.keep K89 (ninS (Ne.symm ne_so_33_so_35) nin0)
                            have f_231 := f_222.keep Kq89
                            have f_233 := (p85_1.ext E87).keep Kq89 (ninS ne_ob81_ob87 nin0)
                            have f_235 := (p85_2.ext E87).keep Kq89 (ninS ne_tab_85_ob87 nin0)
                            have f_237 := (p85_3.ext E87).keep Kq89
                            have f_239 := (p85_4.ext E87).keep Kq89 (ninS ne_nd_85_ob87 nin0)
                            have f_241 := (p85_5.ext E87).keep Kq89 (ninS ne_nd_85_ob87 nin0)
                            have f_243 := (p85_6.ext E87).keep Kq89 (ninS ne_nd_85_ob87 nin0)
                            have f_245 := (p85_7.ext E87).keep Kq89 (ninS ne_nd_85_ob87 nin0)
                            have f_247 := (p85_8.ext E87).keep Kq89 (ninS ne_so_33_ob87 nin0)
                            have f_249 := (p85_9.ext E87).keep Kq89 (ninS ne_so_33_ob87 nin0)
                            by_cases hcc : x28_391 = d29
                            · have hz32 : z32 = 1 := h_z32.trans (if_pos hcc)
                              have f_251 := (f_220.ext E87).keep Kq89
                              have f_256 := ((((p79_1.ext E81).keep Kq83 (ninS ne_ob73_ob81 nin0)).keep Kq85 (ninS ne_ob73_ob81 (ninS (Ne.symm ne_so_33_ob73) nin0))).ext E87).keep Kq89 (ninS ne_ob73_ob87 nin0)
                              have f_261 := ((((p79_2.ext E81).keep Kq83 (ninS ne_ob73_ob81 nin0)).keep Kq85 (ninS ne_ob73_ob81 (ninS (Ne.symm ne_so_33_ob73) nin0))).ext E87).keep Kq89 (ninS ne_ob73_ob87 nin0)
                              have f_266 := ((((p79_3.ext E81).keep Kq83 (ninS ne_ob73_ob81 nin0)).keep Kq85 (ninS ne_ob73_ob81 (ninS (Ne.symm ne_so_33_ob73) nin0))).ext E87).keep Kq89 (ninS ne_ob73_ob87 nin0)
                              rcases h_kn with ⟨hkn, h72⟩ | ⟨hkn, h72⟩
                              · refine o_cV (argsL := [(.ref so_35), (.ref s26), (.long j16)]) (rest := []) X89 B hZ hown (wd_255 hw) (wd_256 hw) (wd_258 hw) (wd_257 hw) (wd_259 hw) (wd_224 hw) (by decide) p89_0 0 (rmSpkF l Z a0 hw [] ob87 am_89 ob81 tab_85 kt_85 nd_85 (.ref ob73) x28_391 so_33 vb_33 kb_33 so_35 gz vb_35 kb_35 d29 (0 : Int32) (0 : Int32) ob73 j14 ob38 kn ku s26 j16 T89.heap n0 Zp89 p89_0 p89_1 p89_2 ne_am_89_so_35 O90 S_COMPACT_STRINGS hgz f_223 f_226 f_227 f_228 f_229 f_230 g_so_35 h_d29 (own_hc0 _) f_231 f_233 f_235 f_237 f_239 f_241 f_243 f_245 f_224 f_247 f_249 f_225 (Ne.symm ne_so_33_so_35) rfl (if_pos hcc) S_UNTOLD hkn f_251 f_256 f_261 f_266) (by decide) (by decide) (lenOf pd_44 rfl) rfl rfl rfl at_596 rfl (by decide) (by decide) rfl ?_
                                rintro _ T91 _ X91 ⟨hv2_91, zv2_91, rfl, N91q, Kq91, p91_0, p91_1, p91_2, p91_3, p91_4, p91_5⟩
                                exact hHE _ _ _ (X91.mono (by decide : 24 ≤ 64) (by decide : 92 ≤ 320)) rfl (Fr.app N89 N91q) (Nat.le_trans Zp89 Kq91.1) (O90.keep Kq91 (allS g_so_35 all0)) (.ref ob73) ob81 ob87 (own_sp j16 j14 (0 : Int32))  (by simp [own_x, hz32, hc501, h72])
                              · have fkn : fF11 Z T89.heap ob73 (.ref ku) := hkn ▸ f_256
                                refine o_cV (argsL := [(.ref so_35), (.ref s26), (.long j16)]) (rest := []) X89 B hZ hown (wd_255 hw) (wd_256 hw) (wd_258 hw) (wd_257 hw) (wd_259 hw) (wd_224 hw) (by decide) p89_0 0 (rmSpk1 l Z a0 hw [] ob87 am_89 ob81 tab_85 kt_85 nd_85 (.ref ob73) x28_391 so_33 vb_33 kb_33 so_35 gz vb_35 kb_35 d29 (0 : Int32) (0 : Int32) ob73 j14 ob38 ku ed_48 ke_48 ob42 ob26 vb_28 kb_28 ([(own_lo x18_123), (own_lo x18_123), (own_lo x18_123)]) s26 vb26 kb26 nz LN j16 T89.heap n0 Zp89 p89_0 p89_1 p89_2 ne_am_89_so_35 O90 S_COMPACT_STRINGS hgz f_223 f_226 f_227 f_228 f_229 f_230 g_so_35 h_d29 (own_hc0 _) f_231 f_233 f_235 f_237 f_239 f_241 f_243 f_245 f_224 f_247 f_249 f_225 (Ne.symm ne_so_33_so_35) rfl (if_pos hcc) S_UNTOLD f_251 fkn f_261 f_266 (p48_0.keep K89) (p48_1.keep K89 (ninS (Ne.symm ne_so_33_ob38) nin0)) (p48_2.keep K89 (ninS (Ne.symm ne_so_33_ob38) nin0)) (p48_3.keep K89 (ninS (Ne.symm ne_so_33_ob38) nin0)) (p48_4.keep K89 (ninS (Ne.symm ne_so_33_ed_48) nin0)) ((F30_8.keep K48).keep K89) ((F30_9.keep K48 nin0).keep K89 (ninS ne_s26_so_33 nin0)) ((F30_10.keep K48 nin0).keep K89 (ninS ne_s26_so_33 nin0)) ((F30_11.keep K48 nin0).keep K89 (ninS ne_vb26_so_33 nin0)) (own_nm3 hN) ((p46_0.keep Kq48).keep K89) ((p46_1.keep Kq48 (ninS (Ne.symm ne_ob38_ob42) nin0)).keep K89 (ninS (Ne.symm ne_so_33_ob42) nin0)) ((F30_4.keep K48).keep K89) ((F30_5.keep K48 nin0).keep K89 (ninS ne_ob26_so_33 nin0)) ((F30_6.keep K48 nin0).keep K89 (ninS ne_ob26_so_33 nin0)) ((F30_7.keep K48 nin0).keep K89 (ninS ne_vb_28_so_33 nin0)) F30_13 (Ne.symm ne_ob26_so_35) (Ne.symm ne_s26_so_35)) (by decide) (by decide) (lenOf pd_44 rfl) rfl rfl rfl at_596 rfl (by decide) (by decide) rfl ?_
                                rintro _ T93 _ X93 ⟨hv2_93, zv2_93, rfl, N93q, Kq93, p93_0, p93_1, p93_2, p93_3, p93_4, p93_5⟩
                                exact hHE _ _ _ (X93.mono (by decide : 25 ≤ 64) (by decide : 96 ≤ 320)) rfl (Fr.app N89 N93q) (Nat.le_trans Zp89 Kq93.1) (O90.keep Kq93 (allS g_so_35 all0)) (.ref ob73) ob81 ob87 (own_sp j16 j14 (1 : Int32))  (by simp [own_x, hz32, h72, hc473])
                            · have hz32 : z32 = 0 := h_z32.trans (if_neg hcc)
                              refine o_cV (argsL := [(.ref so_35), (.ref s26), (.long j16)]) (rest := []) X89 B hZ hown (wd_255 hw) (wd_256 hw) (wd_258 hw) (wd_257 hw) (wd_259 hw) (wd_224 hw) (by decide) p89_0 0 (rmSpkN l Z a0 hw [] ob87 am_89 ob81 tab_85 kt_85 nd_85 (.ref ob73) x28_391 so_33 vb_33 kb_33 so_35 gz vb_35 kb_35 d29 (0 : Int32) (0 : Int32) s26 j16 T89.heap n0 Zp89 p89_0 p89_1 p89_2 ne_am_89_so_35 O90 S_COMPACT_STRINGS hgz f_223 f_226 f_227 f_228 f_229 f_230 g_so_35 h_d29 (own_hc0 _) f_231 f_233 f_235 f_237 f_239 f_241 f_243 f_245 f_224 f_247 f_249 f_225 (Ne.symm ne_so_33_so_35) rfl (if_neg hcc)) (by decide) (by decide) (lenOf pd_44 rfl) rfl rfl rfl at_596 rfl (by decide) (by decide) rfl ?_
                              rintro _ T95 _ X95 ⟨hv2_95, zv2_95, rfl, N95q, Kq95, p95_0, p95_1, p95_2, p95_3, p95_4, p95_5⟩
                              exact hHE _ _ _ (X95.mono (by decide : 24 ≤ 64) (by decide : 92 ≤ 320)) rfl (Fr.app N89 N95q) (Nat.le_trans Zp89 Kq95.1) (O90.keep Kq95 (allS g_so_35 all0)) (.ref ob73) ob81 ob87 (own_sp j16 (0 : Int64) (0 : Int32))  (by simp [own_x, hz32])
                          by_cases hc506 : x7_3 = (0 : Int32)
                          · refine o_ifN X48 B at_506 (XT.i0_ne_f hc506) ?_
                            refine o_gs X48 B hZ hown (wd_117 hw) Via.refl rfl (S_LEARNING.ext O49.2) at_509 ?_
                            intro T97 X97 e97
                            refine o_astore (L' := #[vi p0, vj j1, .second, vj j3, .second, vi p3, vi p4, vi x7_3, vi z8, vi z9, vi z10, vi z11, vi z12, vi x13_80, vj j14, .second, vj j16, .second, vi x18_123, vi x19_135, vi x20_147, vi x21_159, vr ob8, vr ob14, vr ob18, vr ob26, vr s26, vi z27, vi x28_391, vi d29, vr so_33, vr so_35, vi z32, vr ob38, .val .null, vr kl, .unset, .unset, .unset, .unset, .unset, .unset, .unset, .unset, .unset]) X97 B at_512 rfl rfl ?_
                            refine o_goto X97 B 536 at_514 rfl ?_
                            exact hJ536_72 _ _ X97 N48 e97 _ (Or.inl ⟨ne_kl_ku, by rw [hc506]; decide⟩)
                          · refine o_ifY X48 B 517 at_506 (XT.i0_ne_t hc506) rfl ?_
                            refine o_iload X48 B at_517 rfl ?_
                            refine o_iconst X48 B at_519 ?_
                            by_cases hc520 : x7_3 = (1 : Int32)
                            · refine o_icN X48 B at_520 (XT.ii_ne_f hc520) ?_
                              refine o_gs X48 B hZ hown (wd_308 hw) Via.refl rfl (S_KNOWN.ext O49.2) at_523 ?_
                              intro T98 X98 e98
                              refine o_astore (L' := #[vi p0, vj j1, .second, vj j3, .second, vi p3, vi p4, vi x7_3, vi z8, vi z9, vi z10, vi z11, vi z12, vi x13_80, vj j14, .second, vj j16, .second, vi x18_123, vi x19_135, vi x20_147, vi x21_159, vr ob8, vr ob14, vr ob18, vr ob26, vr s26, vi z27, vi x28_391, vi d29, vr so_33, vr so_35, vi z32, vr ob38, .val .null, vr kk, .unset, .unset, .unset, .unset, .unset, .unset, .unset, .unset, .unset]) X98 B at_526 rfl rfl ?_
                              refine o_goto X98 B 536 at_528 rfl ?_
                              exact hJ536_72 _ _ X98 N48 e98 _ (Or.inl ⟨ne_kk_ku, by rw [hc520]; decide⟩)
                            · refine o_icY X48 B 531 at_520 (XT.ii_ne_t hc520) rfl ?_
                              refine o_gs X48 B hZ hown (wd_324 hw) Via.refl rfl (S_UNTOLD.ext O49.2) at_531 ?_
                              intro T99 X99 e99
                              refine o_astore (L' := #[vi p0, vj j1, .second, vj j3, .second, vi p3, vi p4, vi x7_3, vi z8, vi z9, vi z10, vi z11, vi z12, vi x13_80, vj j14, .second, vj j16, .second, vi x18_123, vi x19_135, vi x20_147, vi x21_159, vr ob8, vr ob14, vr ob18, vr ob26, vr s26, vi z27, vi x28_391, vi d29, vr so_33, vr so_35, vi z32, vr ob38, .val .null, vr ku, .unset, .unset, .unset, .unset, .unset, .unset, .unset, .unset, .unset]) X99 B at_534 rfl rfl ?_
                              exact hJ536_72 _ _ X99 N48 e99 _ (Or.inr ⟨rfl, own_two hx7_3 hc501 hc506 hc520⟩)
                      · refine o_ifN X48 B at_473 (XT.i0_eq_f hc473) ?_
                        refine o_aload X48 B at_476 rfl rfl ?_
                        refine o_new X48 B hZ hown (wd_68 hw) (wd_69 hw) (wd_70 hw) rfl at_478 (by decide) (by decide) ?_
                        intro T100 h100 ob100 g100 X100 e100 E100 A100 D100
                        have f_282 := f_57.keep Kq48
                        have ne_so_33_ob100 : so_33 ≠ ob100 := Nat.ne_of_lt (Nat.lt_of_lt_of_le f_282.lt (Nat.le_of_eq g100.symm))
                        have f_283 := f_60.keep Kq48 (ninS ne_vb_33_ob38 nin0)
                        have ne_vb_33_ob100 : vb_33 ≠ ob100 := Nat.ne_of_lt (Nat.lt_of_lt_of_le f_283.lt (Nat.le_of_eq g100.symm))
                        have f_284 := f_63.keep Kq48
                        have ne_so_35_ob100 : so_35 ≠ ob100 := Nat.ne_of_lt (Nat.lt_of_lt_of_le f_284.lt (Nat.le_of_eq g100.symm))
                        have f_285 := f_66.keep Kq48 (ninS ne_vb_35_ob38 nin0)
                        have ne_vb_35_ob100 : vb_35 ≠ ob100 := Nat.ne_of_lt (Nat.lt_of_lt_of_le f_285.lt (Nat.le_of_eq g100.symm))
                        have ne_ob38_ob100 : ob38 ≠ ob100 := Nat.ne_of_lt (Nat.lt_of_lt_of_le p48_0.lt (Nat.le_of_eq g100.symm))
                        have f_286 := p46_0.keep Kq48
                        have ne_ob42_ob100 : ob42 ≠ ob100 := Nat.ne_of_lt (Nat.lt_of_lt_of_le f_286.lt (Nat.le_of_eq g100.symm))
                        have ne_ed_48_ob100 : ed_48 ≠ ob100 := Nat.ne_of_lt (Nat.lt_of_lt_of_le p48_4.lt (Nat.le_of_eq g100.symm))
                        have g_ob100 : n0 ≤ ob100 := Nat.le_trans Zp48 (Nat.le_of_eq g100.symm)
                        have K100 := K48.ext E100
                        have F_name_ob100 : fF8 Z h100 ob100 .null := D100 (Or.inr (wd_81 hw)) (ty := (.object "java/lang/String")) (by decide)
                        have F_standing_ob100 : fF9 Z h100 ob100 .null := D100 (Or.inr (wd_83 hw)) (ty := (.object "com/example/brickwork/brickwork/wire/Protocol$Standing")) (by decide)
                        have F_layout_ob100 : fF10 Z h100 ob100 .null := D100 (Or.inr (wd_85 hw)) (ty := (.array .byte)) (by decide)
                        refine o_dup X100 B at_481 rfl ?_
                        show own_G p e below Φ T100 (mkF m 482 #[vi p0, vj j1, .second, vj j3, .second, vi p3, vi p4, vi x7_3, vi z8, vi z9, vi z10, vi z11, vi z12, vi x13_80, vj j14, .second, vj j16, .second, vi x18_123, vi x19_135, vi x20_147, vi x21_159, vr ob8, vr ob14, vr ob18, vr ob26, vr s26, vi z27, vi x28_391, vi d29, vr so_33, vr so_35, vi z32, vr ob38, .unset, .unset, .unset, .unset, .unset, .unset, .unset, .unset, .unset, .unset, .unset] [(.ref ob100), (.ref ob100), (.ref ob38)])
                        refine o_aload X100 B at_482 rfl rfl ?_
                        refine o_anull X100 B at_484 ?_
                        refine o_iconst X100 B at_485 ?_
                        refine o_np (aty := .byte) X100 B hZ (wd_19 hw) e100 at_486 (by decide) 0 (by decide) (by decide) (by decide) (by decide) ?_
                        intro T102 h102 ka102 ob102 g102 X102 e102 E102 V102'
                        have K102 := K100.ext E102
                        have Zp102 : n0 ≤ h102.size := Nat.le_trans (Nat.le_trans Zp48 E100.1) E102.1
                        refine o_cI (argsL := [(.ref ob14), .null, (.ref ob102)]) (rest := [(.ref ob100), (.ref ob38)]) X102 B hZ hown rfl (wd_71 hw) (wd_72 hw) (wd_73 hw) (wd_70 hw) (by decide) rfl 2 (rmLsin l Z a0 hw [] ob100 ob14 ob102 h102 n0 Zp102 (A100.ext E102) (F_name_ob100.ext E102) (F_standing_ob100.ext E102) (F_layout_ob100.ext E102) g_ob100) (by decide) (by decide) (lenOf pd_42 rfl) rfl rfl rfl at_488 e102 (by decide) (by decide) rfl ?_
                        rintro _ T104 _ X104 ⟨rfl, N104q, Kq104, p104_0, p104_1⟩
                        have K104 := K102.trans Kq104 (allS (Or.inr (Nat.le_trans K48.1 (Nat.le_of_eq g100.symm))) all0)
                        have Zp104 : n0 ≤ T104.heap.size := Nat.le_trans Zp102 Kq104.1
                        have f_296 := ((p48_0.ext E100).ext E102).keep Kq104
                        refine o_cV (argsL := [(.ref ob100)]) (rest := []) X104 B hZ hown (wd_86 hw) (wd_87 hw) (wd_89 hw) (wd_88 hw) (wd_90 hw) (wd_46 hw) (by decide) f_296 0 (rmAd1b l Z a0 hw [] ob38 ed_48 ke_48 ob42 ob100 T104.heap n0 Zp104 f_296 (((p48_1.ext E100).ext E102).keep Kq104 (ninS ne_ob38_ob100 nin0)) (((p48_2.ext E100).ext E102).keep Kq104 (ninS ne_ob38_ob100 nin0)) (((p48_3.ext E100).ext E102).keep Kq104 (ninS ne_ob38_ob100 nin0)) g_ob38 g_ed_48 (((p48_4.ext E100).ext E102).keep Kq104 (ninS ne_ed_48_ob100 nin0)) p48_5 p104_0) (by decide) (by decide) (lenOf pd_24 rfl) rfl rfl rfl at_491 rfl (by decide) (by decide) rfl ?_
                        rintro _ T106 _ X106 ⟨rfl, N106q, Kq106, p106_0, p106_1, p106_2, p106_3, p106_4⟩
                        have N106 := Fr.app (Fr.app N48 N104q) N106q
                        have K106 := K104.trans Kq106 (allS (Or.inr sz_ob38) (allS (Or.inr (Nat.le_trans K46.1 ns_ed_48)) all0))
                        have Zp106 : n0 ≤ T106.heap.size := Nat.le_trans Zp104 Kq106.1
                        have O107 := (((O49.ext E100).ext E102).keep Kq104 (allS g_ob100 all0)).keep Kq106 (allS g_ob38 (allS g_ed_48 all0))
                        refine o_pop X106 B at_494 rfl ?_
                        have f_323 := (((f_282.ext E100).ext E102).keep Kq104).keep Kq106
                        have f_330 := ((((((p33_1.keep Kq35 nin0).ext E38).keep Kq40 (ninS ne_so_33_ob38 nin0)).ext E42).ext E44).keep Kq46 (ninS ne_so_33_ob42 nin0)).keep Kq48 (ninS ne_so_33_ob38 nin0)
                        have f_334 := (((f_330.ext E100).ext E102).keep Kq104 (ninS ne_so_33_ob100 nin0)).keep Kq106 (ninS ne_so_33_ob38 (ninS ne_so_33_ed_48 nin0))
                        have f_341 := ((((((p33_2.keep Kq35 nin0).ext E38).keep Kq40 (ninS ne_so_33_ob38 nin0)).ext E42).ext E44).keep Kq46 (ninS ne_so_33_ob42 nin0)).keep Kq48 (ninS ne_so_33_ob38 nin0)
                        have f_345 := (((f_341.ext E100).ext E102).keep Kq104 (ninS ne_so_33_ob100 nin0)).keep Kq106 (ninS ne_so_33_ob38 (ninS ne_so_33_ed_48 nin0))
                        have f_349 := (((f_283.ext E100).ext E102).keep Kq104 (ninS ne_vb_33_ob100 nin0)).keep Kq106 (ninS ne_vb_33_ob38 (ninS ne_vb_33_ed_48 nin0))
                        have f_356 := ((((((p33_4.keep Kq35 nin0).ext E38).keep Kq40 (ninS ne_so_33_ob38 nin0)).ext E42).ext E44).keep Kq46 (ninS ne_so_33_ob42 nin0)).keep Kq48 (ninS ne_so_33_ob38 nin0)
                        have f_360 := (((f_356.ext E100).ext E102).keep Kq104 (ninS ne_so_33_ob100 nin0)).keep Kq106 (ninS ne_so_33_ob38 (ninS ne_so_33_ed_48 nin0))
                        have f_367 := ((((((p33_5.keep Kq35 nin0).ext E38).keep Kq40 (ninS ne_so_33_ob38 nin0)).ext E42).ext E44).keep Kq46 (ninS ne_so_33_ob42 nin0)).keep Kq48 (ninS ne_so_33_ob38 nin0)
                        have f_371 := (((f_367.ext E100).ext E102).keep Kq104 (ninS ne_so_33_ob100 nin0)).keep Kq106 (ninS ne_so_33_ob38 (ninS ne_so_33_ed_48 nin0))
                        have f_375 := (((f_284.ext E100).ext E102).keep Kq104).keep Kq106
                        have f_383 := (((((((p35_1.ext E38).keep Kq40 (ninS ne_so_35_ob38 nin0)).ext E42).ext E44).keep Kq46 (ninS ne_so_35_ob42 nin0)).keep Kq48 (ninS ne_so_35_ob38 nin0)).ext E100).ext E102
                        have f_385 := (f_383.keep Kq104 (ninS ne_so_35_ob100 nin0)).keep Kq106 (ninS ne_so_35_ob38 (ninS ne_so_35_ed_48 nin0))
                        have f_393 := (((((((p35_2.ext E38).keep Kq40 (ninS ne_so_35_ob38 nin0)).ext E42).ext E44).keep Kq46 (ninS ne_so_35_ob42 nin0)).keep Kq48 (ninS ne_so_35_ob38 nin0)).ext E100).ext E102
                        have f_395 := (f_393.keep Kq104 (ninS ne_so_35_ob100 nin0)).keep Kq106 (ninS ne_so_35_ob38 (ninS ne_so_35_ed_48 nin0))
                        have f_399 := (((f_285.ext E100).ext E102).keep Kq104 (ninS ne_vb_35_ob100 nin0)).keep Kq106 (ninS ne_vb_35_ob38 (ninS ne_vb_35_ed_48 nin0))
                        have f_407 := (((((((p35_4.ext E38).keep Kq40 (ninS ne_so_35_ob38 nin0)).ext E42).ext E44).keep Kq46 (ninS ne_so_35_ob42 nin0)).keep Kq48 (ninS ne_so_35_ob38 nin0)).ext E100).ext E102
                        have f_409 := (f_407.keep Kq104 (ninS ne_so_35_ob100 nin0)).keep Kq106 (ninS ne_so_35_ob38 (ninS ne_so_35_ed_48 nin0))
                        have f_417 := (((((((p35_5.ext E38).keep Kq40 (ninS ne_so_35_ob38 nin0)).ext E42).ext E44).keep Kq46 (ninS ne_so_35_ob42 nin0)).keep Kq48 (ninS ne_so_35_ob38 nin0)).ext E100).ext E102
                        have f_419 := (f_417.keep Kq104 (ninS ne_so_35_ob100 nin0)).keep Kq106 (ninS ne_so_35_ob38 (ninS ne_so_35_ed_48 nin0))
                        have f_432 := ((((p46_1.keep Kq48 (ninS (Ne.symm ne_ob38_ob42) nin0)).ext E100).ext E102).keep Kq104 (ninS ne_ob42_ob100 nin0)).keep Kq106 (ninS (Ne.symm ne_ob38_ob42) (ninS ne_ob42_ed_48 nin0))
                        have K108 : Keep T106.heap T106.heap [so_33] := Keep.refl _ _
                        refine o_anull X106 B at_495 ?_
                        refine o_astore (L' := #[vi p0, vj j1, .second, vj j3, .second, vi p3, vi p4, vi x7_3, vi z8, vi z9, vi z10, vi z11, vi z12, vi x13_80, vj j14, .second, vj j16, .second, vi x18_123, vi x19_135, vi x20_147, vi x21_159, vr ob8, vr ob14, vr ob18, vr ob26, vr s26, vi z27, vi x28_391, vi d29, vr so_33, vr so_35, vi z32, vr ob38, .val .null, .unset, .unset, .unset, .unset, .unset, .unset, .unset, .unset, .unset, .unset]) X106 B at_496 rfl rfl ?_
                        refine o_iload X106 B at_498 rfl ?_
                        refine o_iconst X106 B at_500 ?_
                        by_cases hc501 : x7_3 = (3 : Int32)
                        · refine o_icY X106 B 558 at_501 (XT.ii_eq_t hc501) rfl ?_
                          refine o_new X106 B hZ hown (wd_135 hw) (wd_136 hw) (wd_137 hw) rfl at_558 (by decide) (by decide) ?_
                          intro T109 h109 ob109 g109 X109 e109 E109 A109 D109
                          have ne_so_33_ob109 : so_33 ≠ ob109 := Nat.ne_of_lt (Nat.lt_of_lt_of_le f_323.lt (Nat.le_of_eq g109.symm))
                          have ne_so_35_ob109 : so_35 ≠ ob109 := Nat.ne_of_lt (Nat.lt_of_lt_of_le f_375.lt (Nat.le_of_eq g109.symm))
                          have g_ob109 : n0 ≤ ob109 := Nat.le_trans Zp106 (Nat.le_of_eq g109.symm)
                          have sz_ob109 : T106.heap.size ≤ ob109 := Nat.le_trans K108.1 (Nat.le_of_eq g109.symm)
                          have K109 := K108.ext E109
                          have Zp109 : n0 ≤ h109.size := Nat.le_trans Zp106 E109.1
                          have F_loadFactor_ob109 : fF19 Z h109 ob109 (.float 0) := D109 (Or.inr (wd_150 hw)) (ty := .float) (by decide)
                          have F_table_ob109 : fF15 Z h109 ob109 .null := D109 (Or.inl (wd_183 hw)) (ty := (.array (.object "java/util/HashMap$Node"))) (by decide)
                          have F_threshold_ob109 : fF16 Z h109 ob109 (.int (0 : Int32)) := D109 (Or.inl (wd_190 hw)) (ty := .int) (by decide)
                          have F_modCount_ob109 : fF18 Z h109 ob109 (.int (0 : Int32)) := D109 (Or.inl (wd_214 hw)) (ty := .int) (by decide)
                          have F_size_ob109 : fF17 Z h109 ob109 (.int (0 : Int32)) := D109 (Or.inl (wd_216 hw)) (ty := .int) (by decide)
                          refine o_dup X109 B at_561 rfl ?_
                          refine o_cI (argsL := []) (rest := [(.ref ob109)]) X109 B hZ hown rfl (wd_138 hw) (wd_139 hw) (wd_140 hw) (wd_137 hw) (by decide) rfl 1 (rmHmin l Z a0 hw [] ob109 h109 n0 Zp109 A109 F_table_ob109 F_threshold_ob109 F_size_ob109 F_modCount_ob109 F_loadFactor_ob109 g_ob109) (by decide) (by decide) (lenOf pd_7 rfl) rfl rfl rfl at_562 e109 (by decide) (by decide) rfl ?_
                          rintro _ T111 _ X111 ⟨rfl, N111q, Kq111, p111_0, p111_1, p111_2, p111_3, p111_4⟩
                          have K111 := K109.trans Kq111 (allS (Or.inr sz_ob109) all0)
                          have Zp111 : n0 ≤ T111.heap.size := Nat.le_trans Zp109 Kq111.1
                          have O112 := (O107.ext E109).keep Kq111 (allS g_ob109 all0)
                          refine o_astore (L' := #[vi p0, vj j1, .second, vj j3, .second, vi p3, vi p4, vi x7_3, vi z8, vi z9, vi z10, vi z11, vi z12, vi x13_80, vj j14, .second, vj j16, .second, vi x18_123, vi x19_135, vi x20_147, vi x21_159, vr ob8, vr ob14, vr ob18, vr ob26, vr s26, vi z27, vi x28_391, vi d29, vr so_33, vr so_35, vi z32, vr ob38, .val .null, vr ob109, .unset, .unset, .unset, .unset, .unset, .unset, .unset, .unset, .unset]) X111 B at_565 rfl rfl ?_
                          refine o_aload X111 B at_567 rfl rfl ?_
                          refine o_aload X111 B at_569 rfl rfl ?_
                          refine o_aload X111 B at_571 rfl rfl ?_
                          refine o_cV (argsL := [(.ref so_33), .null]) (rest := []) X111 B hZ hown (wd_151 hw) (wd_152 hw) (wd_154 hw) (wd_153 hw) (wd_155 hw) (wd_137 hw) (by decide) p111_0 0 (rmPut l Z a0 hw [] ob109 .null so_33 gz vb_33 kb_33 x28_391 (0 : Int32) (0 : Int32) T111.heap n0 Zp111 O112 S_COMPACT_STRINGS hgz (f_323.keep K111) ((f_334.ext E109).keep Kq111 (ninS ne_so_33_ob109 nin0)) ((f_345.ext E109).keep Kq111 (ninS ne_so_33_ob109 nin0)) (f_349.keep K111 (ninS (Ne.symm ne_so_33_vb_33) nin0)) ((f_360.ext E109).keep Kq111 (ninS ne_so_33_ob109 nin0)) ((f_371.ext E109).keep Kq111 (ninS ne_so_33_ob109 nin0)) g_so_33 hr28 (own_hc0 _) p111_0 p111_1 p111_2 p111_3 p111_4 g_ob109 rfl) (by decide) (by decide) (lenOf pd_43 rfl) rfl rfl rfl at_573 rfl (by decide) (by decide) rfl ?_
                          rintro _ T113 _ X113 ⟨tab_113, ns_tab_113, kt_113, nd_113, ns_nd_113, rfl, N113q, Kq113, p113_0, p113_1, p113_2, p113_3, p113_4, p113_5, p113_6, p113_7, p113_8, p113_9⟩
                          have K113 := K111.trans Kq113 (allS (Or.inr sz_ob109) (allS (Or.inl (List.mem_of_getElem? (i := 0) rfl)) all0))
                          have Zp113 : n0 ≤ T113.heap.size := Nat.le_trans Zp111 Kq113.1
                          show own_G p e below Φ T113 (mkF m 576 #[vi p0, vj j1, .second, vj j3, .second, vi p3, vi p4, vi x7_3, vi z8, vi z9, vi z10, vi z11, vi z12, vi x13_80, vj j14, .second, vj j16, .second, vi x18_123, vi x19_135, vi x20_147, vi x21_159, vr ob8, vr ob14, vr ob18, vr ob26, vr s26, vi z27, vi x28_391, vi d29, vr so_33, vr so_35, vi z32, vr ob38, .val .null, vr ob109, .unset, .unset, .unset, .unset, .unset, .unset, .unset, .unset, .unset] [.null])
                          refine o_pop X113 B at_576 rfl ?_
                          refine o_new X113 B hZ hown (wd_222 hw) (wd_223 hw) (wd_224 hw) rfl at_577 (by decide) (by decide) ?_
                          intro T115 h115 ob115 g115 X115 e115 E115 A115 D115
                          have ne_so_33_ob115 : so_33 ≠ ob115 := Nat.ne_of_lt (Nat.lt_of_lt_of_le p113_8.lt (Nat.le_of_eq g115.symm))
                          have ne_ob109_ob115 : ob109 ≠ ob115 := Nat.ne_of_lt (Nat.lt_of_lt_of_le p113_0.lt (Nat.le_of_eq g115.symm))
                          have ne_tab_113_ob115 : tab_113 ≠ ob115 := Nat.ne_of_lt (Nat.lt_of_lt_of_le p113_2.lt (Nat.le_of_eq g115.symm))
                          have ne_nd_113_ob115 : nd_113 ≠ ob115 := Nat.ne_of_lt (Nat.lt_of_lt_of_le p113_3.lt (Nat.le_of_eq g115.symm))
                          have g_ob115 : n0 ≤ ob115 := Nat.le_trans Zp113 (Nat.le_of_eq g115.symm)
                          have K115 := K113.ext E115
                          have Zp115 : n0 ≤ h115.size := Nat.le_trans Zp113 E115.1
                          have F_answers_ob115 : fF24 Z h115 ob115 .null := D115 (Or.inr (wd_254 hw)) (ty := (.object "java/util/Map")) (by decide)
                          refine o_dup X115 B at_580 rfl ?_
                          refine o_aload X115 B at_581 rfl rfl ?_
                          have f_448 := p113_0.ext E115
                          refine o_cI (argsL := [(.ref ob109)]) (rest := [(.ref ob115)]) X115 B hZ hown rfl (wd_225 hw) (wd_226 hw) (wd_227 hw) (wd_224 hw) (by decide) rfl 1 (rmCtin l Z a0 hw [] ob115 ob109 mh mu h115 n0 Zp115 A115 F_answers_ob115 g_ob115 f_448 hmh hmu) (by decide) (by decide) (lenOf pd_21 rfl) rfl rfl rfl at_583 e115 (by decide) (by decide) rfl ?_
                          rintro _ T117 _ X117 ⟨am_117, rfl, N117q, Kq117, p117_0, p117_1, p117_2, p117_3⟩
                          have N117 := Fr.app (Fr.app (Fr.app N106 N111q) N113q) N117q
                          have K117 := K115.trans Kq117 (allS (Or.inr (Nat.le_trans K113.1 (Nat.le_of_eq g115.symm))) all0)
                          have Zp117 : n0 ≤ T117.heap.size := Nat.le_trans Zp115 Kq117.1
                          have O118 := ((O112.keep Kq113 (allS g_ob109 (allS g_so_33 all0))).ext E115).keep Kq117 (allS g_ob115 all0)
                          have f_449 := f_375.keep K117
                          have ne_am_117_so_35 : am_117 ≠ so_35 := p117_3.elim (fun q => q ▸ (Ne.symm ne_so_35_ob109)) (fun q => (Nat.ne_of_lt (Nat.lt_of_lt_of_le (f_375.keep K115).lt q)).symm)
                          refine o_astore (L' := #[vi p0, vj j1, .second, vj j3, .second, vi p3, vi p4, vi x7_3, vi z8, vi z9, vi z10, vi z11, vi z12, vi x13_80, vj j14, .second, vj j16, .second, vi x18_123, vi x19_135, vi x20_147, vi x21_159, vr ob8, vr ob14, vr ob18, vr ob26, vr s26, vi z27, vi x28_391, vi d29, vr so_33, vr so_35, vi z32, vr ob38, .val .null, vr ob109, vr ob115, .unset, .unset, .unset, .unset, .unset, .unset, .unset, .unset]) X117 B at_586 rfl rfl ?_
                          refine o_aload X117 B at_588 rfl rfl ?_
                          refine o_aload X117 B at_590 rfl rfl ?_
                          refine o_aload X117 B at_592 rfl rfl ?_
                          refine o_lload X117 B at_594 rfl ?_
                          have f_450 := f_323.keep K117
                          have f_451 := f_349.keep K117 (ninS (Ne.symm ne_so_33_vb_33) nin0)
                          have f_452 := f_385.keep K117 (ninS (Ne.symm ne_so_33_so_35) nin0)
                          have f_453 := f_395.keep K117 (ninS (Ne.symm ne_so_33_so_35) nin0)
                          have f_454 := f_399.keep K117 (ninS (Ne.symm ne_so_33_vb_35) nin0)
                          have f_455 := f_409.keep K117 (ninS (Ne.symm ne_so_33_so_35) nin0)
                          have f_456 := f_419.keep K117 (ninS (Ne.symm ne_so_33_so_35) nin0)
                          have f_457 := f_448.keep Kq117
                          have f_459 := (p113_1.ext E115).keep Kq117 (ninS ne_ob109_ob115 nin0)
                          have f_461 := (p113_2.ext E115).keep Kq117 (ninS ne_tab_113_ob115 nin0)
                          have f_463 := (p113_3.ext E115).keep Kq117
                          have f_465 := (p113_4.ext E115).keep Kq117 (ninS ne_nd_113_ob115 nin0)
                          have f_467 := (p113_5.ext E115).keep Kq117 (ninS ne_nd_113_ob115 nin0)
                          have f_469 := (p113_6.ext E115).keep Kq117 (ninS ne_nd_113_ob115 nin0)
                          have f_471 := (p113_7.ext E115).keep Kq117 (ninS ne_nd_113_ob115 nin0)
                          have f_473 := (p113_8.ext E115).keep Kq117 (ninS ne_so_33_ob115 nin0)
                          have f_475 := (p113_9.ext E115).keep Kq117 (ninS ne_so_33_ob115 nin0)
                          by_cases hcc : x28_391 = d29
                          · have hz32 : z32 = 1 := h_z32.trans (if_pos hcc)
                            refine o_cV (argsL := [(.ref so_35), (.ref s26), (.long j16)]) (rest := []) X117 B hZ hown (wd_255 hw) (wd_256 hw) (wd_258 hw) (wd_257 hw) (wd_259 hw) (wd_224 hw) (by decide) p117_0 0 (rmSpkN l Z a0 hw [] ob115 am_117 ob109 tab_113 kt_113 nd_113 .null x28_391 so_33 vb_33 kb_33 so_35 gz vb_35 kb_35 d29 (0 : Int32) (0 : Int32) s26 j16 T117.heap n0 Zp117 p117_0 p117_1 p117_2 ne_am_117_so_35 O118 S_COMPACT_STRINGS hgz f_449 f_452 f_453 f_454 f_455 f_456 g_so_35 h_d29 (own_hc0 _) f_457 f_459 f_461 f_463 f_465 f_467 f_469 f_471 f_450 f_473 f_475 f_451 (Ne.symm ne_so_33_so_35) rfl (if_pos hcc)) (by decide) (by decide) (lenOf pd_44 rfl) rfl rfl rfl at_596 rfl (by decide) (by decide) rfl ?_
                            rintro _ T119 _ X119 ⟨hv2_119, zv2_119, rfl, N119q, Kq119, p119_0, p119_1, p119_2, p119_3, p119_4, p119_5⟩
                            exact hHE _ _ _ (X119.mono (by decide : 24 ≤ 64) (by decide : 88 ≤ 320)) rfl (Fr.app N117 N119q) (Nat.le_trans Zp117 Kq119.1) (O118.keep Kq119 (allS g_so_35 all0)) .null ob109 ob115 (own_sp j16 (0 : Int64) (0 : Int32))  (by simp [own_x, hz32, hc501])
                          · have hz32 : z32 = 0 := h_z32.trans (if_neg hcc)
                            refine o_cV (argsL := [(.ref so_35), (.ref s26), (.long j16)]) (rest := []) X117 B hZ hown (wd_255 hw) (wd_256 hw) (wd_258 hw) (wd_257 hw) (wd_259 hw) (wd_224 hw) (by decide) p117_0 0 (rmSpkN l Z a0 hw [] ob115 am_117 ob109 tab_113 kt_113 nd_113 .null x28_391 so_33 vb_33 kb_33 so_35 gz vb_35 kb_35 d29 (0 : Int32) (0 : Int32) s26 j16 T117.heap n0 Zp117 p117_0 p117_1 p117_2 ne_am_117_so_35 O118 S_COMPACT_STRINGS hgz f_449 f_452 f_453 f_454 f_455 f_456 g_so_35 h_d29 (own_hc0 _) f_457 f_459 f_461 f_463 f_465 f_467 f_469 f_471 f_450 f_473 f_475 f_451 (Ne.symm ne_so_33_so_35) rfl (if_neg hcc)) (by decide) (by decide) (lenOf pd_44 rfl) rfl rfl rfl at_596 rfl (by decide) (by decide) rfl ?_
                            rintro _ T121 _ X121 ⟨hv2_121, zv2_121, rfl, N121q, Kq121, p121_0, p121_1, p121_2, p121_3, p121_4, p121_5⟩
                            exact hHE _ _ _ (X121.mono (by decide : 24 ≤ 64) (by decide : 88 ≤ 320)) rfl (Fr.app N117 N121q) (Nat.le_trans Zp117 Kq121.1) (O118.keep Kq121 (allS g_so_35 all0)) .null ob109 ob115 (own_sp j16 (0 : Int64) (0 : Int32))  (by simp [own_x, hz32])
                        · refine o_icN X106 B at_501 (XT.ii_eq_f hc501) ?_
                          refine o_iload X106 B at_504 rfl ?_
                          have hJ536_123 : ∀ (T' : State) (l' : List Loc), own_AlL X106 T' l' 19 55 → Fr n0 l' → T'.heap = T106.heap → ∀ (kn : Addr), ((kn ≠ ku ∧ ¬ x7_3 = 2) ∨ (kn = ku ∧ x7_3 = 2)) → own_G p e below Φ T' (mkF m 536 #[vi p0, vj j1, .second, vj j3, .second, vi p3, vi p4, vi x7_3, vi z8, vi z9, vi z10, vi z11, vi z12, vi x13_80, vj j14, .second, vj j16, .second, vi x18_123, vi x19_135, vi x20_147, vi x21_159, vr ob8, vr ob14, vr ob18, vr ob26, vr s26, vi z27, vi x28_391, vi d29, vr so_33, vr so_35, vi z32, vr ob38, .val .null, vr kn, .unset, .unset, .unset, .unset, .unset, .unset, .unset, .unset, .unset] []) := by
                            intro T123 l123 X123' N123 e123 kn h_kn
                            have X123 : Stand _ _ _ _ _ _ _ _ _ _ T123 _ _ _ := X123'
                            refine o_new X123 B hZ hown (wd_120 hw) (wd_121 hw) (wd_122 hw) e123 at_536 (by decide) (by decide) ?_
                            intro T124 h124 ob124 g124 X124 e124 E124 A124 D124
                            have ne_so_33_ob124 : so_33 ≠ ob124 := Nat.ne_of_lt (Nat.lt_of_lt_of_le f_323.lt (Nat.le_of_eq g124.symm))
                            have g_ob124 : n0 ≤ ob124 := Nat.le_trans Zp106 (Nat.le_of_eq g124.symm)
                            have K124 := K108.ext E124
                            have Zp124 : n0 ≤ h124.size := Nat.le_trans Zp106 E124.1
                            have F_knowledge_ob124 : fF11 Z h124 ob124 .null := D124 (Or.inr (wd_128 hw)) (ty := (.object "com/example/brickwork/brickwork/wire/Protocol$Knowledge")) (by decide)
                            have F_directory_ob124 : fF12 Z h124 ob124 (.long (0 : Int64)) := D124 (Or.inr (wd_130 hw)) (ty := .long) (by decide)
                            have F_tables_ob124 : fF13 Z h124 ob124 .null := D124 (Or.inr (wd_132 hw)) (ty := (.object "java/util/List")) (by decide)
                            have F_destroyed_ob124 : fF14 Z h124 ob124 .null := D124 (Or.inr (wd_134 hw)) (ty := (.object "java/util/List")) (by decide)
                            refine o_dup X124 B at_539 rfl ?_
                            refine o_aload X124 B at_540 rfl rfl ?_
                            refine o_lload X124 B at_542 rfl ?_
                            refine o_aload X124 B at_544 rfl rfl ?_
                            refine o_new X124 B hZ hown (wd_44 hw) (wd_45 hw) (wd_46 hw) e124 at_546 (by decide) (by decide) ?_
                            intro T126 h126 ob126 g126 X126 e126 E126 A126 D126
                            have ne_so_33_ob126 : so_33 ≠ ob126 := Nat.ne_of_lt (Nat.lt_of_lt_of_le (f_323.keep K124).lt (Nat.le_of_eq g126.symm))
                            have ne_ob124_ob126 : ob124 ≠ ob126 := Nat.ne_of_lt (Nat.lt_of_lt_of_le A124.lt (Nat.le_of_eq g126.symm))
                            have g_ob126 : n0 ≤ ob126 := Nat.le_trans Zp124 (Nat.le_of_eq g126.symm)
                            have K126 := K124.ext E126
                            have Zp126 : n0 ≤ h126.size := Nat.le_trans Zp124 E126.1
                            have O127 := (O107.ext E124).ext E126
                            have F_modCount_ob126 : fF5 Z h126 ob126 (.int (0 : Int32)) := D126 (Or.inl (wd_64 hw)) (ty := .int) (by decide)
                            have F_elementData_ob126 : fF7 Z h126 ob126 .null := D126 (Or.inl (wd_67 hw)) (ty := (.array (.object "java/lang/Object"))) (by decide)
                            have F_size_ob126 : fF6 Z h126 ob126 (.int (0 : Int32)) := D126 (Or.inl (wd_94 hw)) (ty := .int) (by decide)
                            show own_G p e below Φ T126 (mkF m 549 #[vi p0, vj j1, .second, vj j3, .second, vi p3, vi p4, vi x7_3, vi z8, vi z9, vi z10, vi z11, vi z12, vi x13_80, vj j14, .second, vj j16, .second, vi x18_123, vi x19_135, vi x20_147, vi x21_159, vr ob8, vr ob14, vr ob18, vr ob26, vr s26, vi z27, vi x28_391, vi d29, vr so_33, vr so_35, vi z32, vr ob38, .val .null, vr kn, .unset, .unset, .unset, .unset, .unset, .unset, .unset, .unset, .unset] [(.ref ob126), (.ref ob38), (.long j14), (.ref kn), (.ref ob124), (.ref ob124)])
                            refine o_dup X126 B at_549 rfl ?_
                            refine o_cI (argsL := []) (rest := [(.ref ob126), (.ref ob38), (.long j14), (.ref kn), (.ref ob124), (.ref ob124)]) X126 B hZ hown rfl (wd_47 hw) (wd_48 hw) (wd_49 hw) (wd_46 hw) (by decide) rfl 7 (rmAlin l Z a0 hw [] ob126 de (.int (0 : Int32)) .null h126 n0 Zp126 O127 S_DEFAULTCAPACITY_EMPTY_ELEMENTDATA A126 F_modCount_ob126 F_size_ob126 F_elementData_ob126 g_ob126) (by decide) (by decide) (lenOf pd_7 rfl) rfl rfl rfl at_550 e126 (by decide) (by decide) rfl ?_
                            rintro _ T128 _ X128 ⟨rfl, N128q, Kq128, p128_0, p128_1, p128_2, p128_3⟩
                            have K128 := K126.trans Kq128 (allS (Or.inr (Nat.le_trans K124.1 (Nat.le_of_eq g126.symm))) all0)
                            have Zp128 : n0 ≤ T128.heap.size := Nat.le_trans Zp126 Kq128.1
                            refine o_cI (argsL := [(.ref kn), (.long j14), (.ref ob38), (.ref ob126)]) (rest := [(.ref ob124)]) X128 B hZ hown rfl (wd_123 hw) (wd_124 hw) (wd_125 hw) (wd_122 hw) (by decide) rfl 1 (rmTbin l Z a0 hw [] ob124 kn j14 ob38 ob126 T128.heap n0 Zp128 ((A124.ext E126).keep Kq128) ((F_knowledge_ob124.ext E126).keep Kq128 (ninS ne_ob124_ob126 nin0)) ((F_directory_ob124.ext E126).keep Kq128 (ninS ne_ob124_ob126 nin0)) ((F_tables_ob124.ext E126).keep Kq128 (ninS ne_ob124_ob126 nin0)) ((F_destroyed_ob124.ext E126).keep Kq128 (ninS ne_ob124_ob126 nin0)) g_ob124) (by decide) (by decide) (lenOf pd_45 rfl) rfl rfl rfl at_553 rfl (by decide) (by decide) rfl ?_
                            rintro _ T130 _ X130 ⟨rfl, N130q, Kq130, p130_0, p130_1, p130_2, p130_3⟩
                            have K130 := K128.trans Kq130 (allS (Or.inr (Nat.le_trans K108.1 (Nat.le_of_eq g124.symm))) all0)
                            have Zp130 : n0 ≤ T130.heap.size := Nat.le_trans Zp128 Kq130.1
                            refine o_astore (L' := #[vi p0, vj j1, .second, vj j3, .second, vi p3, vi p4, vi x7_3, vi z8, vi z9, vi z10, vi z11, vi z12, vi x13_80, vj j14, .second, vj j16, .second, vi x18_123, vi x19_135, vi x20_147, vi x21_159, vr ob8, vr ob14, vr ob18, vr ob26, vr s26, vi z27, vi x28_391, vi d29, vr so_33, vr so_35, vi z32, vr ob38, vr ob124, vr kn, .unset, .unset, .unset, .unset, .unset, .unset, .unset, .unset, .unset]) X130 B at_556 rfl rfl ?_
                            refine o_new X130 B hZ hown (wd_135 hw) (wd_136 hw) (wd_137 hw) rfl at_558 (by decide) (by decide) ?_
                            intro T132 h132 ob132 g132 X132 e132 E132 A132 D132
                            have ne_so_33_ob132 : so_33 ≠ ob132 := Nat.ne_of_lt (Nat.lt_of_lt_of_le (f_323.keep K130).lt (Nat.le_of_eq g132.symm))
                            have ne_so_35_ob132 : so_35 ≠ ob132 := Nat.ne_of_lt (Nat.lt_of_lt_of_le (f_375.keep K130).lt (Nat.le_of_eq g132.symm))
                            have ne_ob124_ob132 : ob124 ≠ ob132 := Nat.ne_of_lt (Nat.lt_of_lt_of_le p130_0.lt (Nat.le_of_eq g132.symm))
                            have g_ob132 : n0 ≤ ob132 := Nat.le_trans Zp130 (Nat.le_of_eq g132.symm)
                            have sz_ob132 : T106.heap.size ≤ ob132 := Nat.le_trans K130.1 (Nat.le_of_eq g132.symm)
                            have K132 := K130.ext E132
                            have Zp132 : n0 ≤ h132.size := Nat.le_trans Zp130 E132.1
                            have F_loadFactor_ob132 : fF19 Z h132 ob132 (.float 0) := D132 (Or.inr (wd_150 hw)) (ty := .float) (by decide)
                            have F_table_ob132 : fF15 Z h132 ob132 .null := D132 (Or.inl (wd_183 hw)) (ty := (.array (.object "java/util/HashMap$Node"))) (by decide)
                            have F_threshold_ob132 : fF16 Z h132 ob132 (.int (0 : Int32)) := D132 (Or.inl (wd_190 hw)) (ty := .int) (by decide)
                            have F_modCount_ob132 : fF18 Z h132 ob132 (.int (0 : Int32)) := D132 (Or.inl (wd_214 hw)) (ty := .int) (by decide)
                            have F_size_ob132 : fF17 Z h132 ob132 (.int (0 : Int32)) := D132 (Or.inl (wd_216 hw)) (ty := .int) (by decide)
                            refine o_dup X132 B at_561 rfl ?_
                            refine o_cI (argsL := []) (rest := [(.ref ob132)]) X132 B hZ hown rfl (wd_138 hw) (wd_139 hw) (wd_140 hw) (wd_137 hw) (by decide) rfl 1 (rmHmin l Z a0 hw [] ob132 h132 n0 Zp132 A132 F_table_ob132 F_threshold_ob132 F_size_ob132 F_modCount_ob132 F_loadFactor_ob132 g_ob132) (by decide) (by decide) (lenOf pd_7 rfl) rfl rfl rfl at_562 e132 (by decide) (by decide) rfl ?_
                            rintro _ T134 _ X134 ⟨rfl, N134q, Kq134, p134_0, p134_1, p134_2, p134_3, p134_4⟩
                            have K134 := K132.trans Kq134 (allS (Or.inr sz_ob132) all0)
                            have Zp134 : n0 ≤ T134.heap.size := Nat.le_trans Zp132 Kq134.1
                            have O135 := (((O127.keep Kq128 (allS g_ob126 all0)).keep Kq130 (allS g_ob124 all0)).ext E132).keep Kq134 (allS g_ob132 all0)
                            refine o_astore (L' := #[vi p0, vj j1, .second, vj j3, .second, vi p3, vi p4, vi x7_3, vi z8, vi z9, vi z10, vi z11, vi z12, vi x13_80, vj j14, .second, vj j16, .second, vi x18_123, vi x19_135, vi x20_147, vi x21_159, vr ob8, vr ob14, vr ob18, vr ob26, vr s26, vi z27, vi x28_391, vi d29, vr so_33, vr so_35, vi z32, vr ob38, vr ob124, vr ob132, .unset, .unset, .unset, .unset, .unset, .unset, .unset, .unset, .unset]) X134 B at_565 rfl rfl ?_
                            refine o_aload X134 B at_567 rfl rfl ?_
                            refine o_aload X134 B at_569 rfl rfl ?_
                            refine o_aload X134 B at_571 rfl rfl ?_
                            refine o_cV (argsL := [(.ref so_33), (.ref ob124)]) (rest := []) X134 B hZ hown (wd_151 hw) (wd_152 hw) (wd_154 hw) (wd_153 hw) (wd_155 hw) (wd_137 hw) (by decide) p134_0 0 (rmPut l Z a0 hw [] ob132 (.ref ob124) so_33 gz vb_33 kb_33 x28_391 (0 : Int32) (0 : Int32) T134.heap n0 Zp134 O135 S_COMPACT_STRINGS hgz (f_323.keep K134) ((((((f_334.ext E124).ext E126).keep Kq128 (ninS ne_so_33_ob126 nin0)).keep Kq130 (ninS ne_so_33_ob124 nin0)).ext E132).keep Kq134 (ninS ne_so_33_ob132 nin0)) ((((((f_345.ext E124).ext E126).keep Kq128 (ninS ne_so_33_ob126 nin0)).keep Kq130 (ninS ne_so_33_ob124 nin0)).ext E132).keep Kq134 (ninS ne_so_33_ob132 nin0)) (f_349.keep K134 (ninS (Ne.symm ne_so_33_vb_33) nin0)) ((((((f_360.ext E124).ext E126).keep Kq128 (ninS ne_so_33_ob126 nin0)).keep Kq130 (ninS ne_so_33_ob124 nin0)).ext E132).keep Kq134 (ninS ne_so_33_ob132 nin0)) ((((((f_371.ext E124).ext E126).keep Kq128 (ninS ne_so_33_ob126 nin0)).keep Kq130 (ninS ne_so_33_ob124 nin0)).ext E132).keep Kq134 (ninS ne_so_33_ob132 nin0)) g_so_33 hr28 (own_hc0 _) p134_0 p134_1 p134_2 p134_3 p134_4 g_ob132 rfl) (by decide) (by decide) (lenOf pd_43 rfl) rfl rfl rfl at_573 rfl (by decide) (by decide) rfl ?_
                            rintro _ T136 _ X136 ⟨tab_136, ns_tab_136, kt_136, nd_136, ns_nd_136, rfl, N136q, Kq136, p136_0, p136_1, p136_2, p136_3, p136_4, p136_5, p136_6, p136_7, p136_8, p136_9⟩
                            have K136 := K134.trans Kq136 (allS (Or.inr sz_ob132) (allS (Or.inl (List.mem_of_getElem? (i := 0) rfl)) all0))
                            have Zp136 : n0 ≤ T136.heap.size := Nat.le_trans Zp134 Kq136.1
                            refine o_pop X136 B at_576 rfl ?_
                            refine o_new X136 B hZ hown (wd_222 hw) (wd_223 hw) (wd_224 hw) rfl at_577 (by decide) (by decide) ?_
                            intro T138 h138 ob138 g138 X138 e138 E138 A138 D138
                            have ne_so_33_ob138 : so_33 ≠ ob138 := Nat.ne_of_lt (Nat.lt_of_lt_of_le p136_8.lt (Nat.le_of_eq g138.symm))
                            have f_517 := ((p130_0.ext E132).keep Kq134).keep Kq136
                            have ne_ob124_ob138 : ob124 ≠ ob138 := Nat.ne_of_lt (Nat.lt_of_lt_of_le f_517.lt (Nat.le_of_eq g138.symm))
                            have ne_ob132_ob138 : ob132 ≠ ob138 := Nat.ne_of_lt (Nat.lt_of_lt_of_le p136_0.lt (Nat.le_of_eq g138.symm))
                            have ne_tab_136_ob138 : tab_136 ≠ ob138 := Nat.ne_of_lt (Nat.lt_of_lt_of_le p136_2.lt (Nat.le_of_eq g138.symm))
                            have ne_nd_136_ob138 : nd_136 ≠ ob138 := Nat.ne_of_lt (Nat.lt_of_lt_of_le p136_3.lt (Nat.le_of_eq g138.symm))
                            have g_ob138 : n0 ≤ ob138 := Nat.le_trans Zp136 (Nat.le_of_eq g138.symm)
                            have K138 := K136.ext E138
                            have Zp138 : n0 ≤ h138.size := Nat.le_trans Zp136 E138.1
                            have F_answers_ob138 : fF24 Z h138 ob138 .null := D138 (Or.inr (wd_254 hw)) (ty := (.object "java/util/Map")) (by decide)
                            refine o_dup X138 B at_580 rfl ?_
                            refine o_aload X138 B at_581 rfl rfl ?_
                            have f_519 := p136_0.ext E138
                            refine o_cI (argsL := [(.ref ob132)]) (rest := [(.ref ob138)]) X138 B hZ hown rfl (wd_225 hw) (wd_226 hw) (wd_227 hw) (wd_224 hw) (by decide) rfl 1 (rmCtin l Z a0 hw [] ob138 ob132 mh mu h138 n0 Zp138 A138 F_answers_ob138 g_ob138 f_519 hmh hmu) (by decide) (by decide) (lenOf pd_21 rfl) rfl rfl rfl at_583 e138 (by decide) (by decide) rfl ?_
                            rintro _ T140 _ X140 ⟨am_140, rfl, N140q, Kq140, p140_0, p140_1, p140_2, p140_3⟩
                            have N140 := Fr.app (Fr.app (Fr.app (Fr.app (Fr.app N123 N128q) N130q) N134q) N136q) N140q
                            have K140 := K138.trans Kq140 (allS (Or.inr (Nat.le_trans K136.1 (Nat.le_of_eq g138.symm))) all0)
                            have Zp140 : n0 ≤ T140.heap.size := Nat.le_trans Zp138 Kq140.1
                            have O141 := ((O135.keep Kq136 (allS g_ob132 (allS g_so_33 all0))).ext E138).keep Kq140 (allS g_ob138 all0)
                            have f_520 := f_375.keep K140
                            have ne_am_140_so_35 : am_140 ≠ so_35 := p140_3.elim (fun q => q ▸ (Ne.symm ne_so_35_ob132)) (fun q => (Nat.ne_of_lt (Nat.lt_of_lt_of_le (f_375.keep K138).lt q)).symm)
                            refine o_astore (L' := #[vi p0, vj j1, .second, vj j3, .second, vi p3, vi p4, vi x7_3, vi z8, vi z9, vi z10, vi z11, vi z12, vi x13_80, vj j14, .second, vj j16, .second, vi x18_123, vi x19_135, vi x20_147, vi x21_159, vr ob8, vr ob14, vr ob18, vr ob26, vr s26, vi z27, vi x28_391, vi d29, vr so_33, vr so_35, vi z32, vr ob38, vr ob124, vr ob132, vr ob138, .unset, .unset, .unset, .unset, .unset, .unset, .unset, .unset]) X140 B at_586 rfl rfl ?_
                            refine o_aload X140 B at_588 rfl rfl ?_
                            refine o_aload X140 B at_590 rfl rfl ?_
                            show own_G p e below Φ T140 (mkF m 592 #[vi p0, vj j1, .second, vj j3, .second, vi p3, vi p4, vi x7_3, vi z8, vi z9, vi z10, vi z11, vi z12, vi x13_80, vj j14, .second, vj j16, .second, vi x18_123, vi x19_135, vi x20_147, vi x21_159, vr ob8, vr ob14, vr ob18, vr ob26, vr s26, vi z27, vi x28_391, vi d29, vr so_33, vr so_35, vi z32, vr ob38, vr ob124, vr ob132, vr ob138, .unset, .unset, .unset, .unset, .unset, .unset, .unset, .unset] [(.ref so_35), (.ref ob138)])
                            refine o_aload X140 B at_592 rfl rfl ?_
                            refine o_lload X140 B at_594 rfl ?_
                            have f_521 := f_323.keep K140
                            have f_522 := f_349.keep K140 (ninS (Ne.symm ne_so_33_vb_33) nin0)
                            have f_523 := f_385.keep K140 (ninS (Ne.symm ne_so_33_so_35) nin0)
                            have f_524 := f_395.keep K140 (ninS (Ne.symm ne_so_33_so_35) nin0)
                            have f_525 := f_399.keep K140 (ninS (Ne.symm ne_so_33_vb_35) nin0)
                            have f_526 := f_409.keep K140 (ninS (Ne.symm ne_so_33_so_35) nin0)
                            have f_527 := f_419.keep K140 (ninS (Ne.symm ne_so_33_so_35) nin0)
                            have f_528 := f_519.keep Kq140
                            have f_530 := (p136_1.ext E138).keep Kq140 (ninS ne_ob132_ob138 nin0)
                            have f_532 := (p136_2.ext E138).keep Kq140 (ninS ne_tab_136_ob138 nin0)
                            have f_534 := (p136_3.ext E138).keep Kq140
                            have f_536 := (p136_4.ext E138).keep Kq140 (ninS ne_nd_136_ob138 nin0)
                            have f_538 := (p136_5.ext E138).keep Kq140 (ninS ne_nd_136_ob138 nin0)
                            have f_540 := (p136_6.ext E138).keep Kq140 (ninS ne_nd_136_ob138 nin0)
                            have f_542 := (p136_7.ext E138).keep Kq140 (ninS ne_nd_136_ob138 nin0)
                            have f_544 := (p136_8.ext E138).keep Kq140 (ninS ne_so_33_ob138 nin0)
                            have f_546 := (p136_9.ext E138).keep Kq140 (ninS ne_so_33_ob138 nin0)
                            by_cases hcc : x28_391 = d29
                            · have hz32 : z32 = 1 := h_z32.trans (if_pos hcc)
                              have f_548 := (f_517.ext E138).keep Kq140
                              have f_553 := ((((p130_1.ext E132).keep Kq134 (ninS ne_ob124_ob132 nin0)).keep Kq136 (ninS ne_ob124_ob132 (ninS (Ne.symm ne_so_33_ob124) nin0))).ext E138).keep Kq140 (ninS ne_ob124_ob138 nin0)
                              have f_558 := ((((p130_2.ext E132).keep Kq134 (ninS ne_ob124_ob132 nin0)).keep Kq136 (ninS ne_ob124_ob132 (ninS (Ne.symm ne_so_33_ob124) nin0))).ext E138).keep Kq140 (ninS ne_ob124_ob138 nin0)
                              have f_563 := ((((p130_3.ext E132).keep Kq134 (ninS ne_ob124_ob132 nin0)).keep Kq136 (ninS ne_ob124_ob132 (ninS (Ne.symm ne_so_33_ob124) nin0))).ext E138).keep Kq140 (ninS ne_ob124_ob138 nin0)
                              rcases h_kn with ⟨hkn, h72⟩ | ⟨hkn, h72⟩
                              · refine o_cV (argsL := [(.ref so_35), (.ref s26), (.long j16)]) (rest := []) X140 B hZ hown (wd_255 hw) (wd_256 hw) (wd_258 hw) (wd_257 hw) (wd_259 hw) (wd_224 hw) (by decide) p140_0 0 (rmSpkF l Z a0 hw [] ob138 am_140 ob132 tab_136 kt_136 nd_136 (.ref ob124) x28_391 so_33 vb_33 kb_33 so_35 gz vb_35 kb_35 d29 (0 : Int32) (0 : Int32) ob124 j14 ob38 kn ku s26 j16 T140.heap n0 Zp140 p140_0 p140_1 p140_2 ne_am_140_so_35 O141 S_COMPACT_STRINGS hgz f_520 f_523 f_524 f_525 f_526 f_527 g_so_35 h_d29 (own_hc0 _) f_528 f_530 f_532 f_534 f_536 f_538 f_540 f_542 f_521 f_544 f_546 f_522 (Ne.symm ne_so_33_so_35) rfl (if_pos hcc) S_UNTOLD hkn f_548 f_553 f_558 f_563) (by decide) (by decide) (lenOf pd_44 rfl) rfl rfl rfl at_596 rfl (by decide) (by decide) rfl ?_
                                rintro _ T142 _ X142 ⟨hv2_142, zv2_142, rfl, N142q, Kq142, p142_0, p142_1, p142_2, p142_3, p142_4, p142_5⟩
                                exact hHE _ _ _ (X142.mono (by decide : 26 ≤ 64) (by decide : 95 ≤ 320)) rfl (Fr.app N140 N142q) (Nat.le_trans Zp140 Kq142.1) (O141.keep Kq142 (allS g_so_35 all0)) (.ref ob124) ob132 ob138 (own_sp j16 j14 (0 : Int32))  (by simp [own_x, hz32, hc501, h72])
                              · have fkn : fF11 Z T140.heap ob124 (.ref ku) := hkn ▸ f_553
                                have f_564 := (F30_0.keep K106).keep K140
                                have f_565 := (F30_1.keep K106 nin0).keep K140 (ninS ne_ob14_so_33 nin0)
                                have f_566 := (F30_2.keep K106 nin0).keep K140 (ninS ne_ob14_so_33 nin0)
                                have f_567 := (F30_3.keep K106 nin0).keep K140 (ninS ne_vb_16_so_33 nin0)
                                have f_568 := (F30_4.keep K106).keep K140
                                have f_569 := (F30_5.keep K106 nin0).keep K140 (ninS ne_ob26_so_33 nin0)
                                have f_570 := (F30_6.keep K106 nin0).keep K140 (ninS ne_ob26_so_33 nin0)
                                have f_571 := (F30_7.keep K106 nin0).keep K140 (ninS ne_vb_28_so_33 nin0)
                                have f_572 := (F30_8.keep K106).keep K140
                                have f_573 := (F30_9.keep K106 nin0).keep K140 (ninS ne_s26_so_33 nin0)
                                have f_574 := (F30_10.keep K106 nin0).keep K140 (ninS ne_s26_so_33 nin0)
                                have f_575 := (F30_11.keep K106 nin0).keep K140 (ninS ne_vb26_so_33 nin0)
                                have f_576 := p106_0.keep K140
                                have f_577 := ((((f_286.ext E100).ext E102).keep Kq104).keep Kq106).keep K140
                                have f_578 := f_432.keep K140 (ninS (Ne.symm ne_so_33_ob42) nin0)
                                have f_579 := (p104_0.keep Kq106).keep K140
                                have f_580 := (p104_1.keep Kq106 (ninS (Ne.symm ne_ob38_ob100) (ninS (Ne.symm ne_ed_48_ob100) nin0))).keep K140 (ninS (Ne.symm ne_so_33_ob100) nin0)
                                have f_581 := p106_1.keep K140 (ninS (Ne.symm ne_so_33_ob38) nin0)
                                have f_582 := p106_2.keep K140 (ninS (Ne.symm ne_so_33_ob38) nin0)
                                have f_583 := p106_3.keep K140 (ninS (Ne.symm ne_so_33_ob38) nin0)
                                have f_584 := p106_4.keep K140 (ninS (Ne.symm ne_so_33_ed_48) nin0)
                                rcases hN with ⟨hnz, hLN, hz⟩ | ⟨hnz, y3, y4, hLN, ⟨heq, hz⟩ | ⟨hne, hz⟩⟩
                                · skip
                                  refine o_cV (argsL := [(.ref so_35), (.ref s26), (.long j16)]) (rest := []) X140 B hZ hown (wd_255 hw) (wd_256 hw) (wd_258 hw) (wd_257 hw) (wd_259 hw) (wd_224 hw) (by decide) p140_0 0 (rmSpk2l l Z a0 hw [] ob138 am_140 ob132 tab_136 kt_136 nd_136 (.ref ob124) x28_391 so_33 vb_33 kb_33 so_35 gz vb_35 kb_35 d29 (0 : Int32) (0 : Int32) ob124 j14 ob38 ku ed_48 ke_48 ob42 ob26 vb_28 kb_28 ([(own_lo x18_123), (own_lo x18_123), (own_lo x18_123)]) s26 vb26 kb26 nz LN ob100 ob14 vb_16 kb_16 x18_123 x19_135 j16 T140.heap n0 Zp140 p140_0 p140_1 p140_2 ne_am_140_so_35 O141 S_COMPACT_STRINGS hgz f_520 f_523 f_524 f_525 f_526 f_527 g_so_35 h_d29 (own_hc0 _) f_528 f_530 f_532 f_534 f_536 f_538 f_540 f_542 f_521 f_544 f_546 f_522 (Ne.symm ne_so_33_so_35) rfl (if_pos hcc) S_UNTOLD f_548 fkn f_558 f_563 f_576 f_581 f_582 f_583 f_584 f_572 f_573 f_574 f_575 (by rw [hnz]; decide) (by rw [hnz]; decide) f_577 f_578 f_568 f_569 f_570 f_571 F30_13 (Ne.symm ne_ob26_so_35) (Ne.symm ne_s26_so_35) f_579 f_580 f_564 f_565 f_566 f_567 F30_12 (Ne.symm ne_ob14_so_35)) (by decide) (by decide) (lenOf pd_44 rfl) rfl rfl rfl at_596 rfl (by decide) (by decide) rfl ?_
                                  rintro _ T144 _ X144 ⟨hv2_144, zv2_144, rfl, N144q, Kq144, p144_0, p144_1, p144_2, p144_3, p144_4, p144_5⟩
                                  exact hHE _ _ _ (X144.mono (by decide : 27 ≤ 64) (by decide : 99 ≤ 320)) rfl (Fr.app N140 N144q) (Nat.le_trans Zp140 Kq144.1) (O141.keep Kq144 (allS g_so_35 all0)) (.ref ob124) ob132 ob138 (own_sp j16 j14 (1 : Int32))  (by simp [own_x, hz32, h72, hc473, hz])
                                · have Vn : Arv Z T140.heap vb26 kb26 .byte (2 : Int32) [(.int (own_lo y3)), (.int (own_lo y4))] (.int (0 : Int32)) := by have q := f_575; rw [hnz, hLN] at q; exact q
                                  refine o_cV (argsL := [(.ref so_35), (.ref s26), (.long j16)]) (rest := []) X140 B hZ hown (wd_255 hw) (wd_256 hw) (wd_258 hw) (wd_257 hw) (wd_259 hw) (wd_224 hw) (by decide) p140_0 0 (rmSpk2e l Z a0 hw [] ob138 am_140 ob132 tab_136 kt_136 nd_136 (.ref ob124) x28_391 so_33 vb_33 kb_33 so_35 gz vb_35 kb_35 d29 (0 : Int32) (0 : Int32) ob124 j14 ob38 ku ed_48 ke_48 ob42 ob26 vb_28 kb_28 ([(own_lo x18_123), (own_lo x18_123), (own_lo x18_123)]) s26 vb26 kb26 ob100 ob14 vb_16 kb_16 x18_123 x19_135 y3 y4 j16 T140.heap n0 Zp140 p140_0 p140_1 p140_2 ne_am_140_so_35 O141 S_COMPACT_STRINGS hgz f_520 f_523 f_524 f_525 f_526 f_527 g_so_35 h_d29 (own_hc0 _) f_528 f_530 f_532 f_534 f_536 f_538 f_540 f_542 f_521 f_544 f_546 f_522 (Ne.symm ne_so_33_so_35) rfl (if_pos hcc) S_UNTOLD f_548 fkn f_558 f_563 f_576 f_581 f_582 f_583 f_584 f_572 f_573 f_574 Vn f_577 f_578 f_568 f_569 f_570 f_571 F30_13 (Ne.symm ne_ob26_so_35) (Ne.symm ne_s26_so_35) f_579 f_580 f_564 f_565 f_566 f_567 F30_12 (Ne.symm ne_ob14_so_35) heq.1 heq.2) (by decide) (by decide) (lenOf pd_44 rfl) rfl rfl rfl at_596 rfl (by decide) (by decide) rfl ?_
                                  rintro _ T146 _ X146 ⟨hv2_146, zv2_146, rfl, N146q, Kq146, p146_0, p146_1, p146_2, p146_3, p146_4, p146_5⟩
                                  exact hHE _ _ _ (X146.mono (by decide : 27 ≤ 64) (by decide : 99 ≤ 320)) rfl (Fr.app N140 N146q) (Nat.le_trans Zp140 Kq146.1) (O141.keep Kq146 (allS g_so_35 all0)) (.ref ob124) ob132 ob138 (own_sp j16 j14 (0 : Int32))  (by simp [own_x, hz32, h72, hc473, hz])
                                · have Vn : Arv Z T140.heap vb26 kb26 .byte (2 : Int32) [(.int (own_lo y3)), (.int (own_lo y4))] (.int (0 : Int32)) := by have q := f_575; rw [hnz, hLN] at q; exact q
                                  refine o_cV (argsL := [(.ref so_35), (.ref s26), (.long j16)]) (rest := []) X140 B hZ hown (wd_255 hw) (wd_256 hw) (wd_258 hw) (wd_257 hw) (wd_259 hw) (wd_224 hw) (by decide) p140_0 0 (rmSpk2n l Z a0 hw [] ob138 am_140 ob132 tab_136 kt_136 nd_136 (.ref ob124) x28_391 so_33 vb_33 kb_33 so_35 gz vb_35 kb_35 d29 (0 : Int32) (0 : Int32) ob124 j14 ob38 ku ed_48 ke_48 ob42 ob26 vb_28 kb_28 ([(own_lo x18_123), (own_lo x18_123), (own_lo x18_123)]) s26 vb26 kb26 ob100 ob14 vb_16 kb_16 x18_123 x19_135 y3 y4 j16 T140.heap n0 Zp140 p140_0 p140_1 p140_2 ne_am_140_so_35 O141 S_COMPACT_STRINGS hgz f_520 f_523 f_524 f_525 f_526 f_527 g_so_35 h_d29 (own_hc0 _) f_528 f_530 f_532 f_534 f_536 f_538 f_540 f_542 f_521 f_544 f_546 f_522 (Ne.symm ne_so_33_so_35) rfl (if_pos hcc) S_UNTOLD f_548 fkn f_558 f_563 f_576 f_581 f_582 f_583 f_584 f_572 f_573 f_574 Vn f_577 f_578 f_568 f_569 f_570 f_571 F30_13 (Ne.symm ne_ob26_so_35) (Ne.symm ne_s26_so_35) f_579 f_580 f_564 f_565 f_566 f_567 F30_12 (Ne.symm ne_ob14_so_35) hne) (by decide) (by decide) (lenOf pd_44 rfl) rfl rfl rfl at_596 rfl (by decide) (by decide) rfl ?_
                                  rintro _ T148 _ X148 ⟨hv2_148, zv2_148, rfl, N148q, Kq148, p148_0, p148_1, p148_2, p148_3, p148_4, p148_5⟩
                                  exact hHE _ _ _ (X148.mono (by decide : 27 ≤ 64) (by decide : 99 ≤ 320)) rfl (Fr.app N140 N148q) (Nat.le_trans Zp140 Kq148.1) (O141.keep Kq148 (allS g_so_35 all0)) (.ref ob124) ob132 ob138 (own_sp j16 j14 (1 : Int32))  (by simp [own_x, hz32, h72, hc473, hz])
                            · have hz32 : z32 = 0 := h_z32.trans (if_neg hcc)
                              refine o_cV (argsL := [(.ref so_35), (.ref s26), (.long j16)]) (rest := []) X140 B hZ hown (wd_255 hw) (wd_256 hw) (wd_258 hw) (wd_257 hw) (wd_259 hw) (wd_224 hw) (by decide) p140_0 0 (rmSpkN l Z a0 hw [] ob138 am_140 ob132 tab_136 kt_136 nd_136 (.ref ob124) x28_391 so_33 vb_33 kb_33 so_35 gz vb_35 kb_35 d29 (0 : Int32) (0 : Int32) s26 j16 T140.heap n0 Zp140 p140_0 p140_1 p140_2 ne_am_140_so_35 O141 S_COMPACT_STRINGS hgz f_520 f_523 f_524 f_525 f_526 f_527 g_so_35 h_d29 (own_hc0 _) f_528 f_530 f_532 f_534 f_536 f_538 f_540 f_542 f_521 f_544 f_546 f_522 (Ne.symm ne_so_33_so_35) rfl (if_neg hcc)) (by decide) (by decide) (lenOf pd_44 rfl) rfl rfl rfl at_596 rfl (by decide) (by decide) rfl ?_
                              rintro _ T150 _ X150 ⟨hv2_150, zv2_150, rfl, N150q, Kq150, p150_0, p150_1, p150_2, p150_3, p150_4, p150_5⟩
                              exact hHE _ _ _ (X150.mono (by decide : 26 ≤ 64) (by decide : 95 ≤ 320)) rfl (Fr.app N140 N150q) (Nat.le_trans Zp140 Kq150.1) (O141.keep Kq150 (allS g_so_35 all0)) (.ref ob124) ob132 ob138 (own_sp j16 (0 : Int64) (0 : Int32))  (by simp [own_x, hz32])
                          by_cases hc506 : x7_3 = (0 : Int32)
                          · refine o_ifN X106 B at_506 (XT.i0_ne_f hc506) ?_
                            refine o_gs X106 B hZ hown (wd_117 hw) Via.refl rfl (S_LEARNING.ext O107.2) at_509 ?_
                            intro T152 X152 e152
                            refine o_astore (L' := #[vi p0, vj j1, .second, vj j3, .second, vi p3, vi p4, vi x7_3, vi z8, vi z9, vi z10, vi z11, vi z12, vi x13_80, vj j14, .second, vj j16, .second, vi x18_123, vi x19_135, vi x20_147, vi x21_159, vr ob8, vr ob14, vr ob18, vr ob26, vr s26, vi z27, vi x28_391, vi d29, vr so_33, vr so_35, vi z32, vr ob38, .val .null, vr kl, .unset, .unset, .unset, .unset, .unset, .unset, .unset, .unset, .unset]) X152 B at_512 rfl rfl ?_
                            refine o_goto X152 B 536 at_514 rfl ?_
                            exact hJ536_123 _ _ X152 N106 e152 _ (Or.inl ⟨ne_kl_ku, by rw [hc506]; decide⟩)
                          · refine o_ifY X106 B 517 at_506 (XT.i0_ne_t hc506) rfl ?_
                            refine o_iload X106 B at_517 rfl ?_
                            refine o_iconst X106 B at_519 ?_
                            by_cases hc520 : x7_3 = (1 : Int32)
                            · refine o_icN X106 B at_520 (XT.ii_ne_f hc520) ?_
                              refine o_gs X106 B hZ hown (wd_308 hw) Via.refl rfl (S_KNOWN.ext O107.2) at_523 ?_
                              intro T153 X153 e153
                              refine o_astore (L' := #[vi p0, vj j1, .second, vj j3, .second, vi p3, vi p4, vi x7_3, vi z8, vi z9, vi z10, vi z11, vi z12, vi x13_80, vj j14, .second, vj j16, .second, vi x18_123, vi x19_135, vi x20_147, vi x21_159, vr ob8, vr ob14, vr ob18, vr ob26, vr s26, vi z27, vi x28_391, vi d29, vr so_33, vr so_35, vi z32, vr ob38, .val .null, vr kk, .unset, .unset, .unset, .unset, .unset, .unset, .unset, .unset, .unset]) X153 B at_526 rfl rfl ?_
                              refine o_goto X153 B 536 at_528 rfl ?_
                              exact hJ536_123 _ _ X153 N106 e153 _ (Or.inl ⟨ne_kk_ku, by rw [hc520]; decide⟩)
                            · refine o_icY X106 B 531 at_520 (XT.ii_ne_t hc520) rfl ?_
                              refine o_gs X106 B hZ hown (wd_324 hw) Via.refl rfl (S_UNTOLD.ext O107.2) at_531 ?_
                              intro T154 X154 e154
                              refine o_astore (L' := #[vi p0, vj j1, .second, vj j3, .second, vi p3, vi p4, vi x7_3, vi z8, vi z9, vi z10, vi z11, vi z12, vi x13_80, vj j14, .second, vj j16, .second, vi x18_123, vi x19_135, vi x20_147, vi x21_159, vr ob8, vr ob14, vr ob18, vr ob26, vr s26, vi z27, vi x28_391, vi d29, vr so_33, vr so_35, vi z32, vr ob38, .val .null, vr ku, .unset, .unset, .unset, .unset, .unset, .unset, .unset, .unset, .unset]) X154 B at_534 rfl rfl ?_
                              exact hJ536_123 _ _ X154 N106 e154 _ (Or.inr ⟨rfl, own_two hx7_3 hc501 hc506 hc520⟩)
                    by_cases hc433 : x28_391 = d29
                    · refine o_icN X35 B at_433 (XT.ii_ne_f hc433) ?_
                      show own_G p e below Φ T35 (mkF m 436 #[vi p0, vj j1, .second, vj j3, .second, vi p3, vi p4, vi x7_3, vi z8, vi z9, vi z10, vi z11, vi z12, vi x13_80, vj j14, .second, vj j16, .second, vi x18_123, vi x19_135, vi x20_147, vi x21_159, vr ob8, vr ob14, vr ob18, vr ob26, vr s26, vi z27, vi x28_391, vi d29, vr so_33, vr so_35, .unset, .unset, .unset, .unset, .unset, .unset, .unset, .unset, .unset, .unset, .unset, .unset, .unset] [])
                      refine o_iconst X35 B at_436 ?_
                      refine o_goto X35 B 441 at_437 rfl ?_
                      exact hJ441_37 _ _ X35 N35 rfl _ (by simp [hc433])
                    · refine o_icY X35 B 440 at_433 (XT.ii_ne_t hc433) rfl ?_
                      show own_G p e below Φ T35 (mkF m 440 #[vi p0, vj j1, .second, vj j3, .second, vi p3, vi p4, vi x7_3, vi z8, vi z9, vi z10, vi z11, vi z12, vi x13_80, vj j14, .second, vj j16, .second, vi x18_123, vi x19_135, vi x20_147, vi x21_159, vr ob8, vr ob14, vr ob18, vr ob26, vr s26, vi z27, vi x28_391, vi d29, vr so_33, vr so_35, .unset, .unset, .unset, .unset, .unset, .unset, .unset, .unset, .unset, .unset, .unset, .unset, .unset] [])
                      refine o_iconst X35 B at_440 ?_
                      exact hJ441_37 _ _ X35 N35 rfl _ (by simp [hc433])
                  by_cases hc395 : z9 = (0 : Int32)
                  · refine o_ifY X30 B 403 at_395 (XT.i0_eq_t hc395) rfl ?_
                    refine o_iload X30 B at_403 rfl ?_
                    refine o_bipush X30 B at_405 ?_
                    refine o_iushr X30 B at_407 ?_
                    refine o_sipush X30 B at_408 ?_
                    refine o_iand X30 B at_411 ?_
                    refine o_i2c X30 B at_412 ?_
                    exact hJ413_32 _ _ X30 N30 e30 _ (own_c255 rfl)
                  · refine o_ifN X30 B at_395 (XT.i0_eq_f hc395) ?_
                    refine o_iload X30 B at_398 rfl ?_
                    refine o_goto X30 B 413 at_400 rfl ?_
                    exact hJ413_32 _ _ X30 N30 e30 _ hr28
                refine o_iload X28 B at_218 rfl ?_
                by_cases hc220 : x13_80 = (0 : Int32)
                · refine o_ifN X28 B at_220 (XT.i0_ne_f hc220) ?_
                  refine o_iconst X28 B at_223 ?_
                  refine o_np (aty := .char) X28 B hZ (wd_0 hw) rfl at_224 (by decide) 2 (by decide) (by decide) (by decide) (by decide) ?_
                  intro T155 h155 ka155 ob155 g155 X155 e155 E155 V155'
                  have f_586 := (f_11.ext E26).keep Kq28 (ninS ne_de_ob26 nin0)
                  have ne_de_ob155 : de ≠ ob155 := Nat.ne_of_lt (Nat.lt_of_lt_of_le f_586.lt (Nat.le_of_eq g155.symm))
                  have f_590 := (f_19.ext E26).keep Kq28
                  have ne_ob14_ob155 : ob14 ≠ ob155 := Nat.ne_of_lt (Nat.lt_of_lt_of_le f_590.lt (Nat.le_of_eq g155.symm))
                  have f_592 := (f_23.ext E26).keep Kq28 (ninS ne_vb_16_ob26 nin0)
                  have ne_vb_16_ob155 : vb_16 ≠ ob155 := Nat.ne_of_lt (Nat.lt_of_lt_of_le f_592.lt (Nat.le_of_eq g155.symm))
                  have ne_ob26_ob155 : ob26 ≠ ob155 := Nat.ne_of_lt (Nat.lt_of_lt_of_le p28_0.lt (Nat.le_of_eq g155.symm))
                  have ne_vb_28_ob155 : vb_28 ≠ ob155 := Nat.ne_of_lt (Nat.lt_of_lt_of_le p28_3.lt (Nat.le_of_eq g155.symm))
                  have g_ob155 : n0 ≤ ob155 := Nat.le_trans Zp28 (Nat.le_of_eq g155.symm)
                  have V155 : Arv Z h155 ob155 ka155 .char (2 : Int32) [(.int (0 : Int32)), (.int (0 : Int32))] (.int (0 : Int32)) := V155'
                  refine o_dup X155 B at_226 rfl ?_
                  refine o_iconst X155 B at_227 ?_
                  refine o_iload X155 B at_228 rfl ?_
                  refine o_cst X155 B hZ e155 V155 ⟨by decide, by decide⟩ 0 rfl (Nat.le_of_ble_eq_true rfl) at_230 ?_
                  intro T157 h157 X157 e157 W157 V157'
                  rw [own_narc8 hr18] at V157'
                  have V157 : Arv Z h157 ob155 ka155 .char (2 : Int32) [(.int x18_123), (.int (0 : Int32))] (.int (0 : Int32)) := V157'
                  refine o_dup X157 B at_231 rfl ?_
                  refine o_iconst X157 B at_232 ?_
                  refine o_iload X157 B at_233 rfl ?_
                  refine o_cst X157 B hZ e157 V157 ⟨by decide, by decide⟩ 1 rfl (Nat.le_of_ble_eq_true rfl) at_235 ?_
                  intro T159 h159 X159 e159 W159 V159'
                  rw [own_narc8 hr19] at V159'
                  have V159 : Arv Z h159 ob155 ka155 .char (2 : Int32) [(.int x18_123), (.int x19_135)] (.int (0 : Int32)) := V159'
                  have Zp159 : n0 ≤ h159.size := Nat.le_trans (Nat.le_trans (Nat.le_trans Zp28 E155.1) (Keep.of_wr W157).1) (Keep.of_wr W159).1
                  refine o_astore (L' := #[vi p0, vj j1, .second, vj j3, .second, vi p3, vi p4, vi x7_3, vi z8, vi z9, vi z10, vi z11, vi z12, vi x13_80, vj j14, .second, vj j16, .second, vi x18_123, vi x19_135, vi x20_147, vi x21_159, vr ob8, vr ob14, vr ob18, vr ob26, .unset, .unset, vr ob155, .unset, .unset, .unset, .unset, .unset, .unset, .unset, .unset, .unset, .unset, .unset, .unset, .unset, .unset, .unset, .unset]) X159 B at_236 rfl rfl ?_
                  refine o_new X159 B hZ hown (wd_1 hw) (wd_2 hw) (wd_3 hw) e159 at_238 (by decide) (by decide) ?_
                  intro T161 h161 ob161 g161 X161 e161 E161 A161 D161
                  have f_596 := ((f_586.ext E155).other W157 ne_de_ob155).other W159 ne_de_ob155
                  have ne_de_ob161 : de ≠ ob161 := Nat.ne_of_lt (Nat.lt_of_lt_of_le f_596.lt (Nat.le_of_eq g161.symm))
                  have f_599 := ((f_590.ext E155).wr W157).wr W159
                  have ne_ob14_ob161 : ob14 ≠ ob161 := Nat.ne_of_lt (Nat.lt_of_lt_of_le f_599.lt (Nat.le_of_eq g161.symm))
                  have f_602 := ((f_592.ext E155).other W157 ne_vb_16_ob155).other W159 ne_vb_16_ob155
                  have ne_vb_16_ob161 : vb_16 ≠ ob161 := Nat.ne_of_lt (Nat.lt_of_lt_of_le f_602.lt (Nat.le_of_eq g161.symm))
                  have f_605 := ((p28_0.ext E155).wr W157).wr W159
                  have ne_ob26_ob161 : ob26 ≠ ob161 := Nat.ne_of_lt (Nat.lt_of_lt_of_le f_605.lt (Nat.le_of_eq g161.symm))
                  have f_608 := ((p28_3.ext E155).other W157 ne_vb_28_ob155).other W159 ne_vb_28_ob155
                  have ne_vb_28_ob161 : vb_28 ≠ ob161 := Nat.ne_of_lt (Nat.lt_of_lt_of_le f_608.lt (Nat.le_of_eq g161.symm))
                  have g_ob161 : n0 ≤ ob161 := Nat.le_trans Zp159 (Nat.le_of_eq g161.symm)
                  have Zp161 : n0 ≤ h161.size := Nat.le_trans Zp159 E161.1
                  have O162 := (((O29.ext E155).wr W157 g_ob155).wr W159 g_ob155).ext E161
                  have F_coder_ob161 : fF2 Z h161 ob161 (.int (0 : Int32)) := D161 (Or.inr (wd_27 hw)) (ty := .byte) (by decide)
                  have F_value_ob161 : fF1 Z h161 ob161 .null := D161 (Or.inr (wd_29 hw)) (ty := (.array .byte)) (by decide)
                  refine o_dup X161 B at_241 rfl ?_
                  refine o_aload X161 B at_242 rfl rfl ?_
                  refine o_cI (argsL := [(.ref ob155)]) (rest := [(.ref ob161)]) X161 B hZ hown rfl (wd_4 hw) (wd_5 hw) (wd_6 hw) (wd_3 hw) (by decide) rfl 1 (rmIn1_2 l Z a0 hw [] ob161 gz ob155 ka155 x18_123 x19_135 (.int (0 : Int32)) h161 n0 Zp161 O162 S_COMPACT_STRINGS hgz A161 F_value_ob161 F_coder_ob161 g_ob161 (V159.ext E161) hr18.2 hr19.2) (by decide) (by decide) (lenOf pd_40 rfl) rfl rfl rfl at_244 e161 (by decide) (by decide) rfl ?_
                  rintro _ T163 _ X163 ⟨vb_163, ns_vb_163, kb_163, rfl, N163q, Kq163, p163_0, p163_1, p163_2, p163_3⟩
                  show own_G p e below Φ T163 (mkF m 247 #[vi p0, vj j1, .second, vj j3, .second, vi p3, vi p4, vi x7_3, vi z8, vi z9, vi z10, vi z11, vi z12, vi x13_80, vj j14, .second, vj j16, .second, vi x18_123, vi x19_135, vi x20_147, vi x21_159, vr ob8, vr ob14, vr ob18, vr ob26, .unset, .unset, vr ob155, .unset, .unset, .unset, .unset, .unset, .unset, .unset, .unset, .unset, .unset, .unset, .unset, .unset, .unset, .unset, .unset] [(.ref ob161)])
                  refine o_astore (L' := #[vi p0, vj j1, .second, vj j3, .second, vi p3, vi p4, vi x7_3, vi z8, vi z9, vi z10, vi z11, vi z12, vi x13_80, vj j14, .second, vj j16, .second, vi x18_123, vi x19_135, vi x20_147, vi x21_159, vr ob8, vr ob14, vr ob18, vr ob26, vr ob161, .unset, vr ob155, .unset, .unset, .unset, .unset, .unset, .unset, .unset, .unset, .unset, .unset, .unset, .unset, .unset, .unset, .unset, .unset]) X163 B at_247 rfl rfl ?_
                  refine o_iconst X163 B at_249 ?_
                  refine o_istore (L' := #[vi p0, vj j1, .second, vj j3, .second, vi p3, vi p4, vi x7_3, vi z8, vi z9, vi z10, vi z11, vi z12, vi x13_80, vj j14, .second, vj j16, .second, vi x18_123, vi x19_135, vi x20_147, vi x21_159, vr ob8, vr ob14, vr ob18, vr ob26, vr ob161, vi 1, vr ob155, .unset, .unset, .unset, .unset, .unset, .unset, .unset, .unset, .unset, .unset, .unset, .unset, .unset, .unset, .unset, .unset]) X163 B at_250 rfl ?_
                  refine o_goto X163 B 384 at_252 rfl ?_
                  have f_617 := (((((p16_2.ext E18).other W20 (Or.inl ne_ob14_ob18)).other W22 (Or.inl ne_ob14_ob18)).other W24 (Or.inl ne_ob14_ob18)).ext E26).keep Kq28 (ninS ne_ob14_ob26 nin0)
                  have f_628 := (((((p16_1.ext E18).other W20 (Or.inl ne_ob14_ob18)).other W22 (Or.inl ne_ob14_ob18)).other W24 (Or.inl ne_ob14_ob18)).ext E26).keep Kq28 (ninS ne_ob14_ob26 nin0)
                  exact hHA _ _ _ (X163.mono (by decide : 9 ≤ 9) (by decide : 26 ≤ 26)) rfl (Fr.app (Fr.snoc X159 (Fr.snoc X157 N28 g_ob155) g_ob155) N163q) (Nat.le_trans Zp161 Kq163.1) (O162.keep Kq163 (allS g_ob161 all0)) ob161 vb_163 kb_163 (2 : Int32) ([(own_lo x18_123), (own_lo x19_135)]) ob155 (1 : Int32) ((f_599.ext E161).keep Kq163) (((((f_617.ext E155).other W157 (Or.inl ne_ob14_ob155)).other W159 (Or.inl ne_ob14_ob155)).ext E161).keep Kq163 (ninS ne_ob14_ob161 nin0)) (((((f_628.ext E155).other W157 (Or.inl ne_ob14_ob155)).other W159 (Or.inl ne_ob14_ob155)).ext E161).keep Kq163 (ninS ne_ob14_ob161 nin0)) ((f_602.ext E161).keep Kq163 (ninS ne_vb_16_ob161 nin0)) ((f_605.ext E161).keep Kq163) (((((p28_2.ext E155).other W157 (Or.inl ne_ob26_ob155)).other W159 (Or.inl ne_ob26_ob155)).ext E161).keep Kq163 (ninS ne_ob26_ob161 nin0)) (((((p28_1.ext E155).other W157 (Or.inl ne_ob26_ob155)).other W159 (Or.inl ne_ob26_ob155)).ext E161).keep Kq163 (ninS ne_ob26_ob161 nin0)) ((f_608.ext E161).keep Kq163 (ninS ne_vb_28_ob161 nin0)) p163_0 p163_2 p163_1 p163_3 ne_ob14_ob161 ne_ob26_ob161 ((f_596.ext E161).keep Kq163 (ninS ne_de_ob161 nin0)) (Or.inr ⟨rfl, _, _, rfl, Or.inl ⟨⟨rfl, rfl⟩, rfl⟩⟩)
                · refine o_ifY X28 B 255 at_220 (XT.i0_ne_t hc220) rfl ?_
                  refine o_iload X28 B at_255 rfl ?_
                  refine o_iconst X28 B at_257 ?_
                  by_cases hc258 : x13_80 = (1 : Int32)
                  · refine o_icN X28 B at_258 (XT.ii_ne_f hc258) ?_
                    refine o_iconst X28 B at_261 ?_
                    refine o_np (aty := .char) X28 B hZ (wd_0 hw) rfl at_262 (by decide) 2 (by decide) (by decide) (by decide) (by decide) ?_
                    intro T165 h165 ka165 ob165 g165 X165 e165 E165 V165'
                    have f_653 := (f_11.ext E26).keep Kq28 (ninS ne_de_ob26 nin0)
                    have ne_de_ob165 : de ≠ ob165 := Nat.ne_of_lt (Nat.lt_of_lt_of_le f_653.lt (Nat.le_of_eq g165.symm))
                    have f_657 := (f_19.ext E26).keep Kq28
                    have ne_ob14_ob165 : ob14 ≠ ob165 := Nat.ne_of_lt (Nat.lt_of_lt_of_le f_657.lt (Nat.le_of_eq g165.symm))
                    have f_659 := (f_23.ext E26).keep Kq28 (ninS ne_vb_16_ob26 nin0)
                    have ne_vb_16_ob165 : vb_16 ≠ ob165 := Nat.ne_of_lt (Nat.lt_of_lt_of_le f_659.lt (Nat.le_of_eq g165.symm))
                    have ne_ob26_ob165 : ob26 ≠ ob165 := Nat.ne_of_lt (Nat.lt_of_lt_of_le p28_0.lt (Nat.le_of_eq g165.symm))
                    have ne_vb_28_ob165 : vb_28 ≠ ob165 := Nat.ne_of_lt (Nat.lt_of_lt_of_le p28_3.lt (Nat.le_of_eq g165.symm))
                    have g_ob165 : n0 ≤ ob165 := Nat.le_trans Zp28 (Nat.le_of_eq g165.symm)
                    have V165 : Arv Z h165 ob165 ka165 .char (2 : Int32) [(.int (0 : Int32)), (.int (0 : Int32))] (.int (0 : Int32)) := V165'
                    refine o_dup X165 B at_264 rfl ?_
                    refine o_iconst X165 B at_265 ?_
                    refine o_iload X165 B at_266 rfl ?_
                    refine o_cst X165 B hZ e165 V165 ⟨by decide, by decide⟩ 0 rfl (Nat.le_of_ble_eq_true rfl) at_268 ?_
                    intro T167 h167 X167 e167 W167 V167'
                    rw [own_narc8 hr18] at V167'
                    have V167 : Arv Z h167 ob165 ka165 .char (2 : Int32) [(.int x18_123), (.int (0 : Int32))] (.int (0 : Int32)) := V167'
                    refine o_dup X167 B at_269 rfl ?_
                    refine o_iconst X167 B at_270 ?_
                    refine o_iload X167 B at_271 rfl ?_
                    refine o_cst X167 B hZ e167 V167 ⟨by decide, by decide⟩ 1 rfl (Nat.le_of_ble_eq_true rfl) at_273 ?_
                    intro T169 h169 X169 e169 W169 V169'
                    rw [own_narc8 hr20] at V169'
                    have V169 : Arv Z h169 ob165 ka165 .char (2 : Int32) [(.int x18_123), (.int x20_147)] (.int (0 : Int32)) := V169'
                    have Zp169 : n0 ≤ h169.size := Nat.le_trans (Nat.le_trans (Nat.le_trans Zp28 E165.1) (Keep.of_wr W167).1) (Keep.of_wr W169).1
                    refine o_astore (L' := #[vi p0, vj j1, .second, vj j3, .second, vi p3, vi p4, vi x7_3, vi z8, vi z9, vi z10, vi z11, vi z12, vi x13_80, vj j14, .second, vj j16, .second, vi x18_123, vi x19_135, vi x20_147, vi x21_159, vr ob8, vr ob14, vr ob18, vr ob26, .unset, .unset, vr ob165, .unset, .unset, .unset, .unset, .unset, .unset, .unset, .unset, .unset, .unset, .unset, .unset, .unset, .unset, .unset, .unset]) X169 B at_274 rfl rfl ?_
                    refine o_new X169 B hZ hown (wd_1 hw) (wd_2 hw) (wd_3 hw) e169 at_276 (by decide) (by decide) ?_
                    intro T171 h171 ob171 g171 X171 e171 E171 A171 D171
                    have f_663 := ((f_653.ext E165).other W167 ne_de_ob165).other W169 ne_de_ob165
                    have ne_de_ob171 : de ≠ ob171 := Nat.ne_of_lt (Nat.lt_of_lt_of_le f_663.lt (Nat.le_of_eq g171.symm))
                    have f_666 := ((f_657.ext E165).wr W167).wr W169
                    have ne_ob14_ob171 : ob14 ≠ ob171 := Nat.ne_of_lt (Nat.lt_of_lt_of_le f_666.lt (Nat.le_of_eq g171.symm))
                    have f_669 := ((f_659.ext E165).other W167 ne_vb_16_ob165).other W169 ne_vb_16_ob165
                    have ne_vb_16_ob171 : vb_16 ≠ ob171 := Nat.ne_of_lt (Nat.lt_of_lt_of_le f_669.lt (Nat.le_of_eq g171.symm))
                    have f_672 := ((p28_0.ext E165).wr W167).wr W169
                    have ne_ob26_ob171 : ob26 ≠ ob171 := Nat.ne_of_lt (Nat.lt_of_lt_of_le f_672.lt (Nat.le_of_eq g171.symm))
                    have f_675 := ((p28_3.ext E165).other W167 ne_vb_28_ob165).other W169 ne_vb_28_ob165
                    have ne_vb_28_ob171 : vb_28 ≠ ob171 := Nat.ne_of_lt (Nat.lt_of_lt_of_le f_675.lt (Nat.le_of_eq g171.symm))
                    have g_ob171 : n0 ≤ ob171 := Nat.le_trans Zp169 (Nat.le_of_eq g171.symm)
                    have Zp171 : n0 ≤ h171.size := Nat.le_trans Zp169 E171.1
                    have O172 := (((O29.ext E165).wr W167 g_ob165).wr W169 g_ob165).ext E171
                    have F_coder_ob171 : fF2 Z h171 ob171 (.int (0 : Int32)) := D171 (Or.inr (wd_27 hw)) (ty := .byte) (by decide)
                    have F_value_ob171 : fF1 Z h171 ob171 .null := D171 (Or.inr (wd_29 hw)) (ty := (.array .byte)) (by decide)
                    show own_G p e below Φ T171 (mkF m 279 #[vi p0, vj j1, .second, vj j3, .second, vi p3, vi p4, vi x7_3, vi z8, vi z9, vi z10, vi z11, vi z12, vi x13_80, vj j14, .second, vj j16, .second, vi x18_123, vi x19_135, vi x20_147, vi x21_159, vr ob8, vr ob14, vr ob18, vr ob26, .unset, .unset, vr ob165, .unset, .unset, .unset, .unset, .unset, .unset, .unset, .unset, .unset, .unset, .unset, .unset, .unset, .unset, .unset, .unset] [(.ref ob171)])
                    refine o_dup X171 B at_279 rfl ?_
                    refine o_aload X171 B at_280 rfl rfl ?_
                    refine o_cI (argsL := [(.ref ob165)]) (rest := [(.ref ob171)]) X171 B hZ hown rfl (wd_4 hw) (wd_5 hw) (wd_6 hw) (wd_3 hw) (by decide) rfl 1 (rmIn1_2 l Z a0 hw [] ob171 gz ob165 ka165 x18_123 x20_147 (.int (0 : Int32)) h171 n0 Zp171 O172 S_COMPACT_STRINGS hgz A171 F_value_ob171 F_coder_ob171 g_ob171 (V169.ext E171) hr18.2 hr20.2) (by decide) (by decide) (lenOf pd_40 rfl) rfl rfl rfl at_282 e171 (by decide) (by decide) rfl ?_
                    rintro _ T173 _ X173 ⟨vb_173, ns_vb_173, kb_173, rfl, N173q, Kq173, p173_0, p173_1, p173_2, p173_3⟩
                    have N173 := Fr.app (Fr.snoc X169 (Fr.snoc X167 N28 g_ob165) g_ob165) N173q
                    have Zp173 : n0 ≤ T173.heap.size := Nat.le_trans Zp171 Kq173.1
                    have O174 := O172.keep Kq173 (allS g_ob171 all0)
                    refine o_astore (L' := #[vi p0, vj j1, .second, vj j3, .second, vi p3, vi p4, vi x7_3, vi z8, vi z9, vi z10, vi z11, vi z12, vi x13_80, vj j14, .second, vj j16, .second, vi x18_123, vi x19_135, vi x20_147, vi x21_159, vr ob8, vr ob14, vr ob18, vr ob26, vr ob171, .unset, vr ob165, .unset, .unset, .unset, .unset, .unset, .unset, .unset, .unset, .unset, .unset, .unset, .unset, .unset, .unset, .unset, .unset]) X173 B at_285 rfl rfl ?_
                    refine o_iload X173 B at_287 rfl ?_
                    refine o_iload X173 B at_289 rfl ?_
                    by_cases hc291 : x19_135 = x20_147
                    · refine o_icN X173 B at_291 (XT.ii_ne_f hc291) ?_
                      refine o_iconst X173 B at_294 ?_
                      refine o_goto X173 B 299 at_295 rfl ?_
                      refine o_istore (L' := #[vi p0, vj j1, .second, vj j3, .second, vi p3, vi p4, vi x7_3, vi z8, vi z9, vi z10, vi z11, vi z12, vi x13_80, vj j14, .second, vj j16, .second, vi x18_123, vi x19_135, vi x20_147, vi x21_159, vr ob8, vr ob14, vr ob18, vr ob26, vr ob171, vi 1, vr ob165, .unset, .unset, .unset, .unset, .unset, .unset, .unset, .unset, .unset, .unset, .unset, .unset, .unset, .unset, .unset, .unset]) X173 B at_299 rfl ?_
                      refine o_goto X173 B 384 at_301 rfl ?_
                      have f_684 := (((((p16_2.ext E18).other W20 (Or.inl ne_ob14_ob18)).other W22 (Or.inl ne_ob14_ob18)).other W24 (Or.inl ne_ob14_ob18)).ext E26).keep Kq28 (ninS ne_ob14_ob26 nin0)
                      have f_695 := (((((p16_1.ext E18).other W20 (Or.inl ne_ob14_ob18)).other W22 (Or.inl ne_ob14_ob18)).other W24 (Or.inl ne_ob14_ob18)).ext E26).keep Kq28 (ninS ne_ob14_ob26 nin0)
                      exact hHA _ _ _ (X173.mono (by decide : 9 ≤ 9) (by decide : 26 ≤ 26)) rfl N173 Zp173 O174 ob171 vb_173 kb_173 (2 : Int32) ([(own_lo x18_123), (own_lo x20_147)]) ob165 (1 : Int32) ((f_666.ext E171).keep Kq173) (((((f_684.ext E165).other W167 (Or.inl ne_ob14_ob165)).other W169 (Or.inl ne_ob14_ob165)).ext E171).keep Kq173 (ninS ne_ob14_ob171 nin0)) (((((f_695.ext E165).other W167 (Or.inl ne_ob14_ob165)).other W169 (Or.inl ne_ob14_ob165)).ext E171).keep Kq173 (ninS ne_ob14_ob171 nin0)) ((f_669.ext E171).keep Kq173 (ninS ne_vb_16_ob171 nin0)) ((f_672.ext E171).keep Kq173) (((((p28_2.ext E165).other W167 (Or.inl ne_ob26_ob165)).other W169 (Or.inl ne_ob26_ob165)).ext E171).keep Kq173 (ninS ne_ob26_ob171 nin0)) (((((p28_1.ext E165).other W167 (Or.inl ne_ob26_ob165)).other W169 (Or.inl ne_ob26_ob165)).ext E171).keep Kq173 (ninS ne_ob26_ob171 nin0)) ((f_675.ext E171).keep Kq173 (ninS ne_vb_28_ob171 nin0)) p173_0 p173_2 p173_1 p173_3 ne_ob14_ob171 ne_ob26_ob171 ((f_663.ext E171).keep Kq173 (ninS ne_de_ob171 nin0)) (Or.inr ⟨rfl, _, _, rfl, Or.inl ⟨⟨rfl, congrArg own_lo hc291⟩, rfl⟩⟩)
                    · refine o_icY X173 B 298 at_291 (XT.ii_ne_t hc291) rfl ?_
                      refine o_iconst X173 B at_298 ?_
                      refine o_istore (L' := #[vi p0, vj j1, .second, vj j3, .second, vi p3, vi p4, vi x7_3, vi z8, vi z9, vi z10, vi z11, vi z12, vi x13_80, vj j14, .second, vj j16, .second, vi x18_123, vi x19_135, vi x20_147, vi x21_159, vr ob8, vr ob14, vr ob18, vr ob26, vr ob171, vi 0, vr ob165, .unset, .unset, .unset, .unset, .unset, .unset, .unset, .unset, .unset, .unset, .unset, .unset, .unset, .unset, .unset, .unset]) X173 B at_299 rfl ?_
                      refine o_goto X173 B 384 at_301 rfl ?_
                      have f_726 := (((((p16_2.ext E18).other W20 (Or.inl ne_ob14_ob18)).other W22 (Or.inl ne_ob14_ob18)).other W24 (Or.inl ne_ob14_ob18)).ext E26).keep Kq28 (ninS ne_ob14_ob26 nin0)
                      have f_737 := (((((p16_1.ext E18).other W20 (Or.inl ne_ob14_ob18)).other W22 (Or.inl ne_ob14_ob18)).other W24 (Or.inl ne_ob14_ob18)).ext E26).keep Kq28 (ninS ne_ob14_ob26 nin0)
                      exact hHA _ _ _ (X173.mono (by decide : 9 ≤ 9) (by decide : 26 ≤ 26)) rfl N173 Zp173 O174 ob171 vb_173 kb_173 (2 : Int32) ([(own_lo x18_123), (own_lo x20_147)]) ob165 (0 : Int32) ((f_666.ext E171).keep Kq173) (((((f_726.ext E165).other W167 (Or.inl ne_ob14_ob165)).other W169 (Or.inl ne_ob14_ob165)).ext E171).keep Kq173 (ninS ne_ob14_ob171 nin0)) (((((f_737.ext E165).other W167 (Or.inl ne_ob14_ob165)).other W169 (Or.inl ne_ob14_ob165)).ext E171).keep Kq173 (ninS ne_ob14_ob171 nin0)) ((f_669.ext E171).keep Kq173 (ninS ne_vb_16_ob171 nin0)) ((f_672.ext E171).keep Kq173) (((((p28_2.ext E165).other W167 (Or.inl ne_ob26_ob165)).other W169 (Or.inl ne_ob26_ob165)).ext E171).keep Kq173 (ninS ne_ob26_ob171 nin0)) (((((p28_1.ext E165).other W167 (Or.inl ne_ob26_ob165)).other W169 (Or.inl ne_ob26_ob165)).ext E171).keep Kq173 (ninS ne_ob26_ob171 nin0)) ((f_675.ext E171).keep Kq173 (ninS ne_vb_28_ob171 nin0)) p173_0 p173_2 p173_1 p173_3 ne_ob14_ob171 ne_ob26_ob171 ((f_663.ext E171).keep Kq173 (ninS ne_de_ob171 nin0)) (Or.inr ⟨rfl, _, _, rfl, Or.inr ⟨fun q => hc291 (own_lo_inj hr19 hr20 q.2), rfl⟩⟩)
                  · refine o_icY X28 B 304 at_258 (XT.ii_ne_t hc258) rfl ?_
                    refine o_iload X28 B at_304 rfl ?_
                    refine o_iconst X28 B at_306 ?_
                    by_cases hc307 : x13_80 = (2 : Int32)
                    · refine o_icN X28 B at_307 (XT.ii_ne_f hc307) ?_
                      refine o_iconst X28 B at_310 ?_
                      refine o_np (aty := .char) X28 B hZ (wd_0 hw) rfl at_311 (by decide) 2 (by decide) (by decide) (by decide) (by decide) ?_
                      intro T175 h175 ka175 ob175 g175 X175 e175 E175 V175'
                      have f_762 := (f_11.ext E26).keep Kq28 (ninS ne_de_ob26 nin0)
                      have ne_de_ob175 : de ≠ ob175 := Nat.ne_of_lt (Nat.lt_of_lt_of_le f_762.lt (Nat.le_of_eq g175.symm))
                      have f_766 := (f_19.ext E26).keep Kq28
                      have ne_ob14_ob175 : ob14 ≠ ob175 := Nat.ne_of_lt (Nat.lt_of_lt_of_le f_766.lt (Nat.le_of_eq g175.symm))
                      have f_768 := (f_23.ext E26).keep Kq28 (ninS ne_vb_16_ob26 nin0)
                      have ne_vb_16_ob175 : vb_16 ≠ ob175 := Nat.ne_of_lt (Nat.lt_of_lt_of_le f_768.lt (Nat.le_of_eq g175.symm))
                      have ne_ob26_ob175 : ob26 ≠ ob175 := Nat.ne_of_lt (Nat.lt_of_lt_of_le p28_0.lt (Nat.le_of_eq g175.symm))
                      have ne_vb_28_ob175 : vb_28 ≠ ob175 := Nat.ne_of_lt (Nat.lt_of_lt_of_le p28_3.lt (Nat.le_of_eq g175.symm))
                      have g_ob175 : n0 ≤ ob175 := Nat.le_trans Zp28 (Nat.le_of_eq g175.symm)
                      have V175 : Arv Z h175 ob175 ka175 .char (2 : Int32) [(.int (0 : Int32)), (.int (0 : Int32))] (.int (0 : Int32)) := V175'
                      refine o_dup X175 B at_313 rfl ?_
                      refine o_iconst X175 B at_314 ?_
                      refine o_iload X175 B at_315 rfl ?_
                      refine o_cst X175 B hZ e175 V175 ⟨by decide, by decide⟩ 0 rfl (Nat.le_of_ble_eq_true rfl) at_317 ?_
                      intro T177 h177 X177 e177 W177 V177'
                      rw [own_narc8 hr20] at V177'
                      have V177 : Arv Z h177 ob175 ka175 .char (2 : Int32) [(.int x20_147), (.int (0 : Int32))] (.int (0 : Int32)) := V177'
                      refine o_dup X177 B at_318 rfl ?_
                      refine o_iconst X177 B at_319 ?_
                      refine o_iload X177 B at_320 rfl ?_
                      show own_G p e below Φ T177 (mkF m 322 #[vi p0, vj j1, .second, vj j3, .second, vi p3, vi p4, vi x7_3, vi z8, vi z9, vi z10, vi z11, vi z12, vi x13_80, vj j14, .second, vj j16, .second, vi x18_123, vi x19_135, vi x20_147, vi x21_159, vr ob8, vr ob14, vr ob18, vr ob26, .unset, .unset, .unset, .unset, .unset, .unset, .unset, .unset, .unset, .unset, .unset, .unset, .unset, .unset, .unset, .unset, .unset, .unset, .unset] [(.int x21_159), (.int (1 : Int32)), (.ref ob175), (.ref ob175)])
                      refine o_cst X177 B hZ e177 V177 ⟨by decide, by decide⟩ 1 rfl (Nat.le_of_ble_eq_true rfl) at_322 ?_
                      intro T179 h179 X179 e179 W179 V179'
                      rw [own_narc8 hr21] at V179'
                      have V179 : Arv Z h179 ob175 ka175 .char (2 : Int32) [(.int x20_147), (.int x21_159)] (.int (0 : Int32)) := V179'
                      have Zp179 : n0 ≤ h179.size := Nat.le_trans (Nat.le_trans (Nat.le_trans Zp28 E175.1) (Keep.of_wr W177).1) (Keep.of_wr W179).1
                      refine o_astore (L' := #[vi p0, vj j1, .second, vj j3, .second, vi p3, vi p4, vi x7_3, vi z8, vi z9, vi z10, vi z11, vi z12, vi x13_80, vj j14, .second, vj j16, .second, vi x18_123, vi x19_135, vi x20_147, vi x21_159, vr ob8, vr ob14, vr ob18, vr ob26, .unset, .unset, vr ob175, .unset, .unset, .unset, .unset, .unset, .unset, .unset, .unset, .unset, .unset, .unset, .unset, .unset, .unset, .unset, .unset]) X179 B at_323 rfl rfl ?_
                      refine o_new X179 B hZ hown (wd_1 hw) (wd_2 hw) (wd_3 hw) e179 at_325 (by decide) (by decide) ?_
                      intro T181 h181 ob181 g181 X181 e181 E181 A181 D181
                      have f_772 := ((f_762.ext E175).other W177 ne_de_ob175).other W179 ne_de_ob175
                      have ne_de_ob181 : de ≠ ob181 := Nat.ne_of_lt (Nat.lt_of_lt_of_le f_772.lt (Nat.le_of_eq g181.symm))
                      have f_775 := ((f_766.ext E175).wr W177).wr W179
                      have ne_ob14_ob181 : ob14 ≠ ob181 := Nat.ne_of_lt (Nat.lt_of_lt_of_le f_775.lt (Nat.le_of_eq g181.symm))
                      have f_778 := ((f_768.ext E175).other W177 ne_vb_16_ob175).other W179 ne_vb_16_ob175
                      have ne_vb_16_ob181 : vb_16 ≠ ob181 := Nat.ne_of_lt (Nat.lt_of_lt_of_le f_778.lt (Nat.le_of_eq g181.symm))
                      have f_781 := ((p28_0.ext E175).wr W177).wr W179
                      have ne_ob26_ob181 : ob26 ≠ ob181 := Nat.ne_of_lt (Nat.lt_of_lt_of_le f_781.lt (Nat.le_of_eq g181.symm))
                      have f_784 := ((p28_3.ext E175).other W177 ne_vb_28_ob175).other W179 ne_vb_28_ob175
                      have ne_vb_28_ob181 : vb_28 ≠ ob181 := Nat.ne_of_lt (Nat.lt_of_lt_of_le f_784.lt (Nat.le_of_eq g181.symm))
                      have g_ob181 : n0 ≤ ob181 := Nat.le_trans Zp179 (Nat.le_of_eq g181.symm)
                      have Zp181 : n0 ≤ h181.size := Nat.le_trans Zp179 E181.1
                      have O182 := (((O29.ext E175).wr W177 g_ob175).wr W179 g_ob175).ext E181
                      have F_coder_ob181 : fF2 Z h181 ob181 (.int (0 : Int32)) := D181 (Or.inr (wd_27 hw)) (ty := .byte) (by decide)
                      have F_value_ob181 : fF1 Z h181 ob181 .null := D181 (Or.inr (wd_29 hw)) (ty := (.array .byte)) (by decide)
                      refine o_dup X181 B at_328 rfl ?_
                      refine o_aload X181 B at_329 rfl rfl ?_
                      refine o_cI (argsL := [(.ref ob175)]) (rest := [(.ref ob181)]) X181 B hZ hown rfl (wd_4 hw) (wd_5 hw) (wd_6 hw) (wd_3 hw) (by decide) rfl 1 (rmIn1_2 l Z a0 hw [] ob181 gz ob175 ka175 x20_147 x21_159 (.int (0 : Int32)) h181 n0 Zp181 O182 S_COMPACT_STRINGS hgz A181 F_value_ob181 F_coder_ob181 g_ob181 (V179.ext E181) hr20.2 hr21.2) (by decide) (by decide) (lenOf pd_40 rfl) rfl rfl rfl at_331 e181 (by decide) (by decide) rfl ?_
                      rintro _ T183 _ X183 ⟨vb_183, ns_vb_183, kb_183, rfl, N183q, Kq183, p183_0, p183_1, p183_2, p183_3⟩
                      have N183 := Fr.app (Fr.snoc X179 (Fr.snoc X177 N28 g_ob175) g_ob175) N183q
                      have Zp183 : n0 ≤ T183.heap.size := Nat.le_trans Zp181 Kq183.1
                      have O184 := O182.keep Kq183 (allS g_ob181 all0)
                      refine o_astore (L' := #[vi p0, vj j1, .second, vj j3, .second, vi p3, vi p4, vi x7_3, vi z8, vi z9, vi z10, vi z11, vi z12, vi x13_80, vj j14, .second, vj j16, .second, vi x18_123, vi x19_135, vi x20_147, vi x21_159, vr ob8, vr ob14, vr ob18, vr ob26, vr ob181, .unset, vr ob175, .unset, .unset, .unset, .unset, .unset, .unset, .unset, .unset, .unset, .unset, .unset, .unset, .unset, .unset, .unset, .unset]) X183 B at_334 rfl rfl ?_
                      refine o_iload X183 B at_336 rfl ?_
                      refine o_iload X183 B at_338 rfl ?_
                      by_cases hc340 : x18_123 = x20_147
                      · refine o_icN X183 B at_340 (XT.ii_ne_f hc340) ?_
                        refine o_iload X183 B at_343 rfl ?_
                        refine o_iload X183 B at_345 rfl ?_
                        by_cases hc347 : x19_135 = x21_159
                        · refine o_icN X183 B at_347 (XT.ii_ne_f hc347) ?_
                          refine o_iconst X183 B at_350 ?_
                          refine o_goto X183 B 355 at_351 rfl ?_
                          refine o_istore (L' := #[vi p0, vj j1, .second, vj j3, .second, vi p3, vi p4, vi x7_3, vi z8, vi z9, vi z10, vi z11, vi z12, vi x13_80, vj j14, .second, vj j16, .second, vi x18_123, vi x19_135, vi x20_147, vi x21_159, vr ob8, vr ob14, vr ob18, vr ob26, vr ob181, vi 1, vr ob175, .unset, .unset, .unset, .unset, .unset, .unset, .unset, .unset, .unset, .unset, .unset, .unset, .unset, .unset, .unset, .unset]) X183 B at_355 rfl ?_
                          refine o_goto X183 B 384 at_357 rfl ?_
                          have f_793 := (((((p16_2.ext E18).other W20 (Or.inl ne_ob14_ob18)).other W22 (Or.inl ne_ob14_ob18)).other W24 (Or.inl ne_ob14_ob18)).ext E26).keep Kq28 (ninS ne_ob14_ob26 nin0)
                          have f_804 := (((((p16_1.ext E18).other W20 (Or.inl ne_ob14_ob18)).other W22 (Or.inl ne_ob14_ob18)).other W24 (Or.inl ne_ob14_ob18)).ext E26).keep Kq28 (ninS ne_ob14_ob26 nin0)
                          exact hHA _ _ _ (X183.mono (by decide : 9 ≤ 9) (by decide : 26 ≤ 26)) rfl N183 Zp183 O184 ob181 vb_183 kb_183 (2 : Int32) ([(own_lo x20_147), (own_lo x21_159)]) ob175 (1 : Int32) ((f_775.ext E181).keep Kq183) (((((f_793.ext E175).other W177 (Or.inl ne_ob14_ob175)).other W179 (Or.inl ne_ob14_ob175)).ext E181).keep Kq183 (ninS ne_ob14_ob181 nin0)) (((((f_804.ext E175).other W177 (Or.inl ne_ob14_ob175)).other W179 (Or.inl ne_ob14_ob175)).ext E181).keep Kq183 (ninS ne_ob14_ob181 nin0)) ((f_778.ext E181).keep Kq183 (ninS ne_vb_16_ob181 nin0)) ((f_781.ext E181).keep Kq183) (((((p28_2.ext E175).other W177 (Or.inl ne_ob26_ob175)).other W179 (Or.inl ne_ob26_ob175)).ext E181).keep Kq183 (ninS ne_ob26_ob181 nin0)) (((((p28_1.ext E175).other W177 (Or.inl ne_ob26_ob175)).other W179 (Or.inl ne_ob26_ob175)).ext E181).keep Kq183 (ninS ne_ob26_ob181 nin0)) ((f_784.ext E181).keep Kq183 (ninS ne_vb_28_ob181 nin0)) p183_0 p183_2 p183_1 p183_3 ne_ob14_ob181 ne_ob26_ob181 ((f_772.ext E181).keep Kq183 (ninS ne_de_ob181 nin0)) (Or.inr ⟨rfl, _, _, rfl, Or.inl ⟨⟨congrArg own_lo hc340, congrArg own_lo hc347⟩, rfl⟩⟩)
                        · refine o_icY X183 B 354 at_347 (XT.ii_ne_t hc347) rfl ?_
                          refine o_iconst X183 B at_354 ?_
                          refine o_istore (L' := #[vi p0, vj j1, .second, vj j3, .second, vi p3, vi p4, vi x7_3, vi z8, vi z9, vi z10, vi z11, vi z12, vi x13_80, vj j14, .second, vj j16, .second, vi x18_123, vi x19_135, vi x20_147, vi x21_159, vr ob8, vr ob14, vr ob18, vr ob26, vr ob181, vi 0, vr ob175, .unset, .unset, .unset, .unset, .unset, .unset, .unset, .unset, .unset, .unset, .unset, .unset, .unset, .unset, .unset, .unset]) X183 B at_355 rfl ?_
                          refine o_goto X183 B 384 at_357 rfl ?_
                          have f_835 := (((((p16_2.ext E18).other W20 (Or.inl ne_ob14_ob18)).other W22 (Or.inl ne_ob14_ob18)).other W24 (Or.inl ne_ob14_ob18)).ext E26).keep Kq28 (ninS ne_ob14_ob26 nin0)
                          have f_846 := (((((p16_1.ext E18).other W20 (Or.inl ne_ob14_ob18)).other W22 (Or.inl ne_ob14_ob18)).other W24 (Or.inl ne_ob14_ob18)).ext E26).keep Kq28 (ninS ne_ob14_ob26 nin0)
                          exact hHA _ _ _ (X183.mono (by decide : 9 ≤ 9) (by decide : 26 ≤ 26)) rfl N183 Zp183 O184 ob181 vb_183 kb_183 (2 : Int32) ([(own_lo x20_147), (own_lo x21_159)]) ob175 (0 : Int32) ((f_775.ext E181).keep Kq183) (((((f_835.ext E175).other W177 (Or.inl ne_ob14_ob175)).other W179 (Or.inl ne_ob14_ob175)).ext E181).keep Kq183 (ninS ne_ob14_ob181 nin0)) (((((f_846.ext E175).other W177 (Or.inl ne_ob14_ob175)).other W179 (Or.inl ne_ob14_ob175)).ext E181).keep Kq183 (ninS ne_ob14_ob181 nin0)) ((f_778.ext E181).keep Kq183 (ninS ne_vb_16_ob181 nin0)) ((f_781.ext E181).keep Kq183) (((((p28_2.ext E175).other W177 (Or.inl ne_ob26_ob175)).other W179 (Or.inl ne_ob26_ob175)).ext E181).keep Kq183 (ninS ne_ob26_ob181 nin0)) (((((p28_1.ext E175).other W177 (Or.inl ne_ob26_ob175)).other W179 (Or.inl ne_ob26_ob175)).ext E181).keep Kq183 (ninS ne_ob26_ob181 nin0)) ((f_784.ext E181).keep Kq183 (ninS ne_vb_28_ob181 nin0)) p183_0 p183_2 p183_1 p183_3 ne_ob14_ob181 ne_ob26_ob181 ((f_772.ext E181).keep Kq183 (ninS ne_de_ob181 nin0)) (Or.inr ⟨rfl, _, _, rfl, Or.inr ⟨fun q => hc347 (own_lo_inj hr19 hr21 q.2), rfl⟩⟩)
                      · refine o_icY X183 B 354 at_340 (XT.ii_ne_t hc340) rfl ?_
                        refine o_iconst X183 B at_354 ?_
                        refine o_istore (L' := #[vi p0, vj j1, .second, vj j3, .second, vi p3, vi p4, vi x7_3, vi z8, vi z9, vi z10, vi z11, vi z12, vi x13_80, vj j14, .second, vj j16, .second, vi x18_123, vi x19_135, vi x20_147, vi x21_159, vr ob8, vr ob14, vr ob18, vr ob26, vr ob181, vi 0, vr ob175, .unset, .unset, .unset, .unset, .unset, .unset, .unset, .unset, .unset, .unset, .unset, .unset, .unset, .unset, .unset, .unset]) X183 B at_355 rfl ?_
                        refine o_goto X183 B 384 at_357 rfl ?_
                        have f_877 := (((((p16_2.ext E18).other W20 (Or.inl ne_ob14_ob18)).other W22 (Or.inl ne_ob14_ob18)).other W24 (Or.inl ne_ob14_ob18)).ext E26).keep Kq28 (ninS ne_ob14_ob26 nin0)
                        have f_888 := (((((p16_1.ext E18).other W20 (Or.inl ne_ob14_ob18)).other W22 (Or.inl ne_ob14_ob18)).other W24 (Or.inl ne_ob14_ob18)).ext E26).keep Kq28 (ninS ne_ob14_ob26 nin0)
                        exact hHA _ _ _ (X183.mono (by decide : 9 ≤ 9) (by decide : 26 ≤ 26)) rfl N183 Zp183 O184 ob181 vb_183 kb_183 (2 : Int32) ([(own_lo x20_147), (own_lo x21_159)]) ob175 (0 : Int32) ((f_775.ext E181).keep Kq183) (((((f_877.ext E175).other W177 (Or.inl ne_ob14_ob175)).other W179 (Or.inl ne_ob14_ob175)).ext E181).keep Kq183 (ninS ne_ob14_ob181 nin0)) (((((f_888.ext E175).other W177 (Or.inl ne_ob14_ob175)).other W179 (Or.inl ne_ob14_ob175)).ext E181).keep Kq183 (ninS ne_ob14_ob181 nin0)) ((f_778.ext E181).keep Kq183 (ninS ne_vb_16_ob181 nin0)) ((f_781.ext E181).keep Kq183) (((((p28_2.ext E175).other W177 (Or.inl ne_ob26_ob175)).other W179 (Or.inl ne_ob26_ob175)).ext E181).keep Kq183 (ninS ne_ob26_ob181 nin0)) (((((p28_1.ext E175).other W177 (Or.inl ne_ob26_ob175)).other W179 (Or.inl ne_ob26_ob175)).ext E181).keep Kq183 (ninS ne_ob26_ob181 nin0)) ((f_784.ext E181).keep Kq183 (ninS ne_vb_28_ob181 nin0)) p183_0 p183_2 p183_1 p183_3 ne_ob14_ob181 ne_ob26_ob181 ((f_772.ext E181).keep Kq183 (ninS ne_de_ob181 nin0)) (Or.inr ⟨rfl, _, _, rfl, Or.inr ⟨fun q => hc340 (own_lo_inj hr18 hr20 q.1), rfl⟩⟩)
                    · refine o_icY X28 B 360 at_307 (XT.ii_ne_t hc307) rfl ?_
                      refine o_iconst X28 B at_360 ?_
                      refine o_np (aty := .char) X28 B hZ (wd_0 hw) rfl at_361 (by decide) 1 (by decide) (by decide) (by decide) (by decide) ?_
                      intro T185 h185 ka185 ob185 g185 X185 e185 E185 V185'
                      have f_913 := (f_11.ext E26).keep Kq28 (ninS ne_de_ob26 nin0)
                      have ne_de_ob185 : de ≠ ob185 := Nat.ne_of_lt (Nat.lt_of_lt_of_le f_913.lt (Nat.le_of_eq g185.symm))
                      have f_917 := (f_19.ext E26).keep Kq28
                      have ne_ob14_ob185 : ob14 ≠ ob185 := Nat.ne_of_lt (Nat.lt_of_lt_of_le f_917.lt (Nat.le_of_eq g185.symm))
                      have f_919 := (f_23.ext E26).keep Kq28 (ninS ne_vb_16_ob26 nin0)
                      have ne_vb_16_ob185 : vb_16 ≠ ob185 := Nat.ne_of_lt (Nat.lt_of_lt_of_le f_919.lt (Nat.le_of_eq g185.symm))
                      have ne_ob26_ob185 : ob26 ≠ ob185 := Nat.ne_of_lt (Nat.lt_of_lt_of_le p28_0.lt (Nat.le_of_eq g185.symm))
                      have ne_vb_28_ob185 : vb_28 ≠ ob185 := Nat.ne_of_lt (Nat.lt_of_lt_of_le p28_3.lt (Nat.le_of_eq g185.symm))
                      have g_ob185 : n0 ≤ ob185 := Nat.le_trans Zp28 (Nat.le_of_eq g185.symm)
                      have V185 : Arv Z h185 ob185 ka185 .char (1 : Int32) [(.int (0 : Int32))] (.int (0 : Int32)) := V185'
                      refine o_dup X185 B at_363 rfl ?_
                      refine o_iconst X185 B at_364 ?_
                      refine o_iload X185 B at_365 rfl ?_
                      refine o_cst X185 B hZ e185 V185 ⟨by decide, by decide⟩ 0 rfl (Nat.le_of_ble_eq_true rfl) at_367 ?_
                      intro T187 h187 X187 e187 W187 V187'
                      rw [own_narc8 hr18] at V187'
                      have V187 : Arv Z h187 ob185 ka185 .char (1 : Int32) [(.int x18_123)] (.int (0 : Int32)) := V187'
                      have Zp187 : n0 ≤ h187.size := Nat.le_trans (Nat.le_trans Zp28 E185.1) (Keep.of_wr W187).1
                      refine o_astore (L' := #[vi p0, vj j1, .second, vj j3, .second, vi p3, vi p4, vi x7_3, vi z8, vi z9, vi z10, vi z11, vi z12, vi x13_80, vj j14, .second, vj j16, .second, vi x18_123, vi x19_135, vi x20_147, vi x21_159, vr ob8, vr ob14, vr ob18, vr ob26, .unset, .unset, vr ob185, .unset, .unset, .unset, .unset, .unset, .unset, .unset, .unset, .unset, .unset, .unset, .unset, .unset, .unset, .unset, .unset]) X187 B at_368 rfl rfl ?_
                      refine o_new X187 B hZ hown (wd_1 hw) (wd_2 hw) (wd_3 hw) e187 at_370 (by decide) (by decide) ?_
                      intro T189 h189 ob189 g189 X189 e189 E189 A189 D189
                      have f_922 := (f_913.ext E185).other W187 ne_de_ob185
                      have ne_de_ob189 : de ≠ ob189 := Nat.ne_of_lt (Nat.lt_of_lt_of_le f_922.lt (Nat.le_of_eq g189.symm))
                      have f_924 := (f_917.ext E185).wr W187
                      have ne_ob14_ob189 : ob14 ≠ ob189 := Nat.ne_of_lt (Nat.lt_of_lt_of_le f_924.lt (Nat.le_of_eq g189.symm))
                      have f_926 := (f_919.ext E185).other W187 ne_vb_16_ob185
                      have ne_vb_16_ob189 : vb_16 ≠ ob189 := Nat.ne_of_lt (Nat.lt_of_lt_of_le f_926.lt (Nat.le_of_eq g189.symm))
                      have f_928 := (p28_0.ext E185).wr W187
                      have ne_ob26_ob189 : ob26 ≠ ob189 := Nat.ne_of_lt (Nat.lt_of_lt_of_le f_928.lt (Nat.le_of_eq g189.symm))
                      have f_930 := (p28_3.ext E185).other W187 ne_vb_28_ob185
                      have ne_vb_28_ob189 : vb_28 ≠ ob189 := Nat.ne_of_lt (Nat.lt_of_lt_of_le f_930.lt (Nat.le_of_eq g189.symm))
                      have g_ob189 : n0 ≤ ob189 := Nat.le_trans Zp187 (Nat.le_of_eq g189.symm)
                      have Zp189 : n0 ≤ h189.size := Nat.le_trans Zp187 E189.1
                      have O190 := ((O29.ext E185).wr W187 g_ob185).ext E189
                      have F_coder_ob189 : fF2 Z h189 ob189 (.int (0 : Int32)) := D189 (Or.inr (wd_27 hw)) (ty := .byte) (by decide)
                      have F_value_ob189 : fF1 Z h189 ob189 .null := D189 (Or.inr (wd_29 hw)) (ty := (.array .byte)) (by decide)
                      refine o_dup X189 B at_373 rfl ?_
                      show own_G p e below Φ T189 (mkF m 374 #[vi p0, vj j1, .second, vj j3, .second, vi p3, vi p4, vi x7_3, vi z8, vi z9, vi z10, vi z11, vi z12, vi x13_80, vj j14, .second, vj j16, .second, vi x18_123, vi x19_135, vi x20_147, vi x21_159, vr ob8, vr ob14, vr ob18, vr ob26, .unset, .unset, vr ob185, .unset, .unset, .unset, .unset, .unset, .unset, .unset, .unset, .unset, .unset, .unset, .unset, .unset, .unset, .unset, .unset] [(.ref ob189), (.ref ob189)])
                      refine o_aload X189 B at_374 rfl rfl ?_
                      refine o_cI (argsL := [(.ref ob185)]) (rest := [(.ref ob189)]) X189 B hZ hown rfl (wd_4 hw) (wd_5 hw) (wd_6 hw) (wd_3 hw) (by decide) rfl 1 (rmIn1_1 l Z a0 hw [] ob189 gz ob185 ka185 x18_123 (.int (0 : Int32)) h189 n0 Zp189 O190 S_COMPACT_STRINGS hgz A189 F_value_ob189 F_coder_ob189 g_ob189 (V187.ext E189) hr18.2) (by decide) (by decide) (lenOf pd_40 rfl) rfl rfl rfl at_376 e189 (by decide) (by decide) rfl ?_
                      rintro _ T191 _ X191 ⟨vb_191, ns_vb_191, kb_191, rfl, N191q, Kq191, p191_0, p191_1, p191_2, p191_3⟩
                      refine o_astore (L' := #[vi p0, vj j1, .second, vj j3, .second, vi p3, vi p4, vi x7_3, vi z8, vi z9, vi z10, vi z11, vi z12, vi x13_80, vj j14, .second, vj j16, .second, vi x18_123, vi x19_135, vi x20_147, vi x21_159, vr ob8, vr ob14, vr ob18, vr ob26, vr ob189, .unset, vr ob185, .unset, .unset, .unset, .unset, .unset, .unset, .unset, .unset, .unset, .unset, .unset, .unset, .unset, .unset, .unset, .unset]) X191 B at_379 rfl rfl ?_
                      refine o_iconst X191 B at_381 ?_
                      refine o_istore (L' := #[vi p0, vj j1, .second, vj j3, .second, vi p3, vi p4, vi x7_3, vi z8, vi z9, vi z10, vi z11, vi z12, vi x13_80, vj j14, .second, vj j16, .second, vi x18_123, vi x19_135, vi x20_147, vi x21_159, vr ob8, vr ob14, vr ob18, vr ob26, vr ob189, vi 0, vr ob185, .unset, .unset, .unset, .unset, .unset, .unset, .unset, .unset, .unset, .unset, .unset, .unset, .unset, .unset, .unset, .unset]) X191 B at_382 rfl ?_
                      have f_939 := (((((p16_2.ext E18).other W20 (Or.inl ne_ob14_ob18)).other W22 (Or.inl ne_ob14_ob18)).other W24 (Or.inl ne_ob14_ob18)).ext E26).keep Kq28 (ninS ne_ob14_ob26 nin0)
                      have f_949 := (((((p16_1.ext E18).other W20 (Or.inl ne_ob14_ob18)).other W22 (Or.inl ne_ob14_ob18)).other W24 (Or.inl ne_ob14_ob18)).ext E26).keep Kq28 (ninS ne_ob14_ob26 nin0)
                      exact hHA _ _ _ (X191.mono (by decide : 9 ≤ 9) (by decide : 24 ≤ 26)) rfl (Fr.app (Fr.snoc X187 N28 g_ob185) N191q) (Nat.le_trans Zp189 Kq191.1) (O190.keep Kq191 (allS g_ob189 all0)) ob189 vb_191 kb_191 (1 : Int32) ([(own_lo x18_123)]) ob185 (0 : Int32) ((f_924.ext E189).keep Kq191) ((((f_939.ext E185).other W187 (Or.inl ne_ob14_ob185)).ext E189).keep Kq191 (ninS ne_ob14_ob189 nin0)) ((((f_949.ext E185).other W187 (Or.inl ne_ob14_ob185)).ext E189).keep Kq191 (ninS ne_ob14_ob189 nin0)) ((f_926.ext E189).keep Kq191 (ninS ne_vb_16_ob189 nin0)) ((f_928.ext E189).keep Kq191) ((((p28_2.ext E185).other W187 (Or.inl ne_ob26_ob185)).ext E189).keep Kq191 (ninS ne_ob26_ob189 nin0)) ((((p28_1.ext E185).other W187 (Or.inl ne_ob26_ob185)).ext E189).keep Kq191 (ninS ne_ob26_ob189 nin0)) ((f_930.ext E189).keep Kq191 (ninS ne_vb_28_ob189 nin0)) p191_0 p191_2 p191_1 p191_3 ne_ob14_ob189 ne_ob26_ob189 ((f_922.ext E189).keep Kq191 (ninS ne_de_ob189 nin0)) (Or.inl ⟨rfl, ⟨_, rfl⟩, rfl⟩)
              by_cases hc96 : z10 = (0 : Int32)
              · refine o_ifY X6 B 103 at_96 (XT.i0_eq_t hc96) rfl ?_
                show own_G p e below Φ T6 (mkF m 103 #[vi p0, vj j1, .second, vj j3, .second, vi p3, vi p4, vi x7_3, vi z8, vi z9, vi z10, vi z11, vi z12, vi x13_80, vj j14, .second, .unset, .unset, .unset, .unset, .unset, .unset, .unset, .unset, .unset, .unset, .unset, .unset, .unset, .unset, .unset, .unset, .unset, .unset, .unset, .unset, .unset, .unset, .unset, .unset, .unset, .unset, .unset, .unset, .unset] [])
                refine o_iload X6 B at_103 rfl ?_
                by_cases hc105 : z12 = (0 : Int32)
                · refine o_ifY X6 B 113 at_105 (XT.i0_eq_t hc105) rfl ?_
                  refine o_lloadN X6 B at_113 rfl ?_
                  exact hJ114_7 _ _ X6 N6 e6 _ 
                · refine o_ifN X6 B at_105 (XT.i0_eq_f hc105) ?_
                  refine o_lload X6 B at_108 rfl ?_
                  refine o_goto X6 B 114 at_110 rfl ?_
                  exact hJ114_7 _ _ X6 N6 e6 _ 
              · refine o_ifN X6 B at_96 (XT.i0_eq_f hc96) ?_
                show own_G p e below Φ T6 (mkF m 99 #[vi p0, vj j1, .second, vj j3, .second, vi p3, vi p4, vi x7_3, vi z8, vi z9, vi z10, vi z11, vi z12, vi x13_80, vj j14, .second, .unset, .unset, .unset, .unset, .unset, .unset, .unset, .unset, .unset, .unset, .unset, .unset, .unset, .unset, .unset, .unset, .unset, .unset, .unset, .unset, .unset, .unset, .unset, .unset, .unset, .unset, .unset, .unset, .unset] [])
                refine o_lconst X6 B (0 : Int64) at_99 rfl ?_
                refine o_goto X6 B 114 at_100 rfl ?_
                exact hJ114_7 _ _ X6 N6 e6 _ 
            by_cases hc84 : z11 = (0 : Int32)
            · refine o_ifY X5 B 91 at_84 (XT.i0_eq_t hc84) rfl ?_
              refine o_lloadN X5 B at_91 rfl ?_
              exact hJ92_6 _ _ X5 N5 e5 _ 
            · refine o_ifN X5 B at_84 (XT.i0_eq_f hc84) ?_
              refine o_lconst X5 B (0 : Int64) at_87 rfl ?_
              refine o_goto X5 B 92 at_88 rfl ?_
              exact hJ92_6 _ _ X5 N5 e5 _ 
          by_cases hc64 : (p0 &&& (64 : Int32)) = (0 : Int32)
          · refine o_ifY X4 B 71 at_64 (XT.i0_eq_t hc64) rfl ?_
            refine o_iconst X4 B at_71 ?_
            exact hJ72_5 _ _ X4 N4 e4 _ 
          · refine o_ifN X4 B at_64 (XT.i0_eq_f hc64) ?_
            refine o_iconst X4 B at_67 ?_
            refine o_goto X4 B 72 at_68 rfl ?_
            exact hJ72_5 _ _ X4 N4 e4 _ 
        by_cases hc50 : (p0 &&& (32 : Int32)) = (0 : Int32)
        · refine o_ifY X3 B 57 at_50 (XT.i0_eq_t hc50) rfl ?_
          refine o_iconst X3 B at_57 ?_
          exact hJ58_4 _ _ X3 N3 e3 _ 
        · refine o_ifN X3 B at_50 (XT.i0_eq_f hc50) ?_
          refine o_iconst X3 B at_53 ?_
          refine o_goto X3 B 58 at_54 rfl ?_
          exact hJ58_4 _ _ X3 N3 e3 _ 
      by_cases hc36 : (p0 &&& (16 : Int32)) = (0 : Int32)
      · refine o_ifY X2 B 43 at_36 (XT.i0_eq_t hc36) rfl ?_
        refine o_iconst X2 B at_43 ?_
        exact hJ44_3 _ _ X2 N2 e2 _ 
      · refine o_ifN X2 B at_36 (XT.i0_eq_f hc36) ?_
        refine o_iconst X2 B at_39 ?_
        refine o_goto X2 B 44 at_40 rfl ?_
        exact hJ44_3 _ _ X2 N2 e2 _ 
    by_cases hc22 : (p0 &&& (8 : Int32)) = (0 : Int32)
    · refine o_ifY X1 B 29 at_22 (XT.i0_eq_t hc22) rfl ?_
      refine o_iconst X1 B at_29 ?_
      exact hJ30_2 _ _ X1 N1 e1 _ 
    · refine o_ifN X1 B at_22 (XT.i0_eq_f hc22) ?_
      refine o_iconst X1 B at_25 ?_
      refine o_goto X1 B 30 at_26 rfl ?_
      exact hJ30_2 _ _ X1 N1 e1 _ 
  by_cases hc8 : (p0 &&& (4 : Int32)) = (0 : Int32)
  · refine o_ifY X0 B 15 at_8 (XT.i0_eq_t hc8) rfl ?_
    refine o_iconst X0 B at_15 ?_
    exact hJ16_1 _ _ X0 N0 e0 _ 
  · refine o_ifN X0 B at_8 (XT.i0_eq_f hc8) ?_
    refine o_iconst X0 B at_11 ?_
    refine o_goto X0 B 16 at_12 rfl ?_
    exact hJ16_1 _ _ X0 N0 e0 _ 
theorem own_fe {args : Array Value} {s : State} {t u : Term} {C n d : String} (h : t.eval args s none [] s = u.eval args s none [] s) : (Term.field t C n d).eval args s none [] s = (Term.field u C n d).eval args s none [] s := by simp only [Term.eval, h]
theorem own_kne {args : Array Value} {s : State} {t u : Term} {C n d : String} {a b : Addr} {x y : Int32} (e1 : t.eval args s none [] s = some (.ref a)) (e2 : u.eval args s none [] s = some (.ref b)) (h3 : (Jvm.Cond.eq (Jvm.Term.field t C n d) (Jvm.Term.int x)).value args s none s [] = some true) (h4 : (Jvm.Cond.eq (Jvm.Term.field u C n d) (Jvm.Term.int y)).value args s none s [] = some true) (hne : x ≠ y) : a ≠ b := fun q => by
  subst q
  obtain ⟨v, a1, a2⟩ := Cond.eq_worth h3
  obtain ⟨w, b1, b2⟩ := Cond.eq_worth h4
  rw [own_fe (e1.trans e2.symm)] at a1
  cases a1.symm.trans b1
  have q : (some (Value.int x) : Option Value) = some (Value.int y) := (Term.int_eval (x)).symm.trans (a2.trans (b2.symm.trans (Term.int_eval (y))))
  exact hne (Value.int.inj (Option.some.inj q))
theorem own_empty {args : Array Value} {s : State} {t : Term} {ty : FieldType} {de : Addr} (e1 : t.eval args s none [] s = some (.ref de)) (h1 : (Jvm.Cond.arrayOf t ty).value args s none s [] = some true) (h2 : (Jvm.Cond.eq (Jvm.Term.length t) (Jvm.Term.int (0 : Int32))).value args s none s [] = some true) : ∃ kd, Arv s s.heap de kd ty (0 : Int32) [] .null := by
  obtain ⟨c, A⟩ := Arr.start e1 h1
  obtain ⟨y, a1, a2⟩ := Cond.eq_worth h2
  obtain ⟨b, cell, q1, q2, q3, q4⟩ := Jvm.Lib.length_spec a1
  cases e1.symm.trans q1
  cases A.1.symm.trans (Jvm.Lib.arrayAt_spec q2).1
  subst q4
  have z : c.slots.size.toInt32 = 0 := Value.int.inj (Option.some.inj (a2.symm.trans (Term.int_eval (0))))
  have S : c.slots.size = 0 := by
    have e := len_toInt q3
    rw [z, show (0 : Int32).toInt = 0 from rfl] at e
    omega
  exact ⟨c.cls, c, A, rfl, S, by decide, fun i hi => absurd hi (by omega), fun i hi => absurd hi (by omega)⟩
theorem comes_1 {Post : Tables → Env → Array Value → State → Outcome → State → Prop} (hpost : ∀ tb e args s v u, (limb_1_1.after args s (.returned v) u = true ∧ limb_1_2.after args s (.returned v) u = true ∧ True) → FrameEnd s (.returned v) u (Jvm.fieldLocs frame_1_writes args s ++ Jvm.arrayLocs frame_1_arrays args s ++ Jvm.staticLocs frame_1_statics s) 64 320 → Post tb e args s (.returned v) u) :
    ArmFor flags0 classFile x code maxLocals ret World_1 tables_1 room_1 Calls_1 rest_1 Pre_1 Post := by
  intro l hfl _ _ p e ha hc hk s m args below hf hA hF happ hP
  obtain ⟨hcalls, hrest, hpre⟩ := hP
  obtain ⟨-, -, -, hnamed, -, -, -, hat⟩ := (Spec.applies_iff hf).mp happ
  obtain ⟨hg, hn⟩ := and_e (Cond.before_iff.mp (show (Jvm.Cond.and given_1 narrow_1).before args s = true from hpre))
  obtain ⟨g1, g2⟩ := and_e hg
  obtain ⟨g3, g4⟩ := and_e g2
  obtain ⟨g5, g6⟩ := and_e g4
  obtain ⟨g7, g8⟩ := and_e g6
  obtain ⟨g9, g10⟩ := and_e g8
  obtain ⟨w0, w1, w2, w3, w4, rfl⟩ : ∃ w0 w1 w2 w3 w4 : Value, args = #[w0, w1, w2, w3, w4] := by
    have hs : args.size = 5 := by simpa [Cond.value, given_1] using g1
    obtain ⟨L⟩ := args
    match L, hs with
    | [w0, w1, w2, w3, w4], _ => exact ⟨w0, w1, w2, w3, w4, rfl⟩
  have hw := fun d (hd : d ∈ tables_1) => atoms_spec (ws := Jvm.Cond.code x code maxLocals ret :: tables_1) hat d (List.mem_cons_of_mem _ hd)
  obtain ⟨i0, ei0⟩ := is_v g3
  obtain rfl : w0 = (.int i0) := Option.some.inj ei0
  obtain ⟨i1, ei1⟩ := isL_v g5
  obtain rfl : w1 = (.long i1) := Option.some.inj ei1
  obtain ⟨i2, ei2⟩ := isL_v g7
  obtain rfl : w2 = (.long i2) := Option.some.inj ei2
  obtain ⟨i3, ei3⟩ := is_v g9
  obtain rfl : w3 = (.int i3) := Option.some.inj ei3
  obtain ⟨i4, ei4⟩ := is_v g10
  obtain rfl : w4 = (.int i4) := Option.some.inj ei4
  obtain ⟨hsets, hown0⟩ := atoms_of _ (rest_1_c_eq ▸ (show rest_1_c.before _ s = true from hrest))
  have n3 := not_v (Cond.before_iff.mp (hsets _ (List.mem_of_getElem? (i := 2) rfl)))
  obtain ⟨gz, e6⟩ := is_v (Cond.before_iff.mp (hsets _ (List.mem_of_getElem? (i := 1) rfl)))
  have S1 : Sta s s.heap "java/lang/String" "COMPACT_STRINGS" "Z" (.int gz) := Sta.start e6 (Or.inl (hsets _ (List.mem_of_getElem? (i := 0) rfl)))
  have hgz : ¬ gz = (0 : Int32) := gotF (Cond.eq_ints e6 (Term.int_eval (0))) n3
  obtain ⟨de, _, _, _, e7, -⟩ := Cond.exactly_spec (hsets _ (List.mem_of_getElem? (i := 16) rfl))
  have S2 : Sta s s.heap "java/util/ArrayList" "DEFAULTCAPACITY_EMPTY_ELEMENTDATA" "[Ljava/lang/Object;" (.ref de) := Sta.start e7 (Or.inr ⟨(wd_46 hw), (hsets _ (List.mem_of_getElem? (i := 11) rfl))⟩)
  obtain ⟨kd, V1⟩ := own_empty e7 (Cond.before_iff.mp (hsets _ (List.mem_of_getElem? (i := 15) rfl))) (Cond.before_iff.mp (hsets _ (List.mem_of_getElem? (i := 17) rfl)))
  obtain ⟨u1, u2⟩ := and_e hn
  obtain ⟨u3, u4⟩ := and_e u2
  obtain ⟨u5, u6⟩ := and_e u4
  obtain ⟨u7, u8⟩ := and_e u6
  obtain ⟨u9, u10⟩ := and_e u8
  obtain ⟨kl, _, _, _, e_kl, -⟩ := Cond.exactly_spec (Cond.before_iff.mpr u1)
  obtain ⟨kk, _, _, _, e_kk, -⟩ := Cond.exactly_spec (Cond.before_iff.mpr u3)
  obtain ⟨ku, _, _, _, e_ku, -⟩ := Cond.exactly_spec (Cond.before_iff.mpr u5)
  have S3 : Sta s s.heap "com/example/brickwork/brickwork/wire/Protocol$Knowledge" "LEARNING" "Lcom/example/brickwork/brickwork/wire/Protocol$Knowledge;" (.ref kl) := Sta.start e_kl (Or.inr ⟨(wd_118 hw), (wd_119 hw)⟩)
  have S4 : Sta s s.heap "com/example/brickwork/brickwork/wire/Protocol$Knowledge" "KNOWN" "Lcom/example/brickwork/brickwork/wire/Protocol$Knowledge;" (.ref kk) := Sta.start e_kk (Or.inr ⟨(wd_118 hw), (wd_309 hw)⟩)
  have S5 : Sta s s.heap "com/example/brickwork/brickwork/wire/Protocol$Knowledge" "UNTOLD" "Lcom/example/brickwork/brickwork/wire/Protocol$Knowledge;" (.ref ku) := Sta.start e_ku (Or.inr ⟨(wd_118 hw), (wd_318 hw)⟩)
  have n1 := own_kne e_kl e_ku u10 u9 (by decide)
  have n2 := own_kne e_kk e_ku u7 u9 (by decide)
  have hm1 : Jvm.D.MirrorMade s "java/util/HashMap" := hcalls.1
  have hm2 : Jvm.D.MirrorMade s "java/util/Collections$UnmodifiableMap" := hcalls.2.1
  obtain ⟨c1, k1, mh, M1a, M1b, M1c⟩ := hm1
  obtain ⟨c2, k2, mu, M2a, M2b, M2c⟩ := hm2
  have M1 : own_Mir s "java/util/HashMap" mh := ⟨c1, k1, M1a, M1b, by first | exact M1c | exact M1c.1⟩
  have M2 : own_Mir s "java/util/Collections$UnmodifiableMap" mu := ⟨c2, k2, M2a, M2b, by first | exact M2c | exact M2c.1⟩
  obtain ⟨n, o, h1, h2, h3, _, L, rfl, ⟨rfl, N⟩, hq⟩ := rm0 l s _ hw tables_1 i0 i1 i2 i3 i4 gz de kd kl kk ku mh mu s.heap s.heap.size (Nat.le_refl _) (Old.start s) S1 hgz S2 V1 S3 S4 S5 n1 n2 M1 M2 p e ha hc hk s m _ below hf ((Spec.applies_iff_loose hf).mp happ).1 ⟨rfl, State.Warmed39.refl s, rfl⟩ trivial
  refine ⟨n, _, h1, h2, h3, hpost _ _ _ _ _ _ ⟨Cond.after_iff.mpr rfl, Cond.after_iff.mpr (eq_i res_at (Term.int_eval (1)) rfl), trivial⟩ ⟨hq.1, hq.2.1, (hq.2.2.sift fun y hy => Or.inr (N y hy)).mono (by decide) (by decide)⟩⟩
theorem main_1_1 : Claimed_1_1 := comes_1 fun _ _ _ _ _ _ h hF => ⟨h.1, hF⟩
theorem main_1_2 : Claimed_1_2 := comes_1 fun _ _ _ _ _ _ h hF => ⟨h.2.1, hF⟩
end Jvm.Pilot.@@N@@

namespace Jvm.Pilot.@@N@@
open Jvm Jvm.ClassFile Sem Op Lib Jvm.Free Jvm.Stand Jvm.Pilot.@@N@@.Jvm.D
/-! MADE BY PROGRAM (witnessworld.py) out of the Statement's table words and the real class files: 46 classes; the members and pool entries that the words name. The judged class is class 1, her method 1. -/
namespace start1
open Jvm.ClassFile
def u (s : String) : CpInfo := .utf8 (stringToUtf16 s)
/-- a pool by its gaps: so many unusable entries, then the entry; so many at the end -/
def gap : Nat → List CpInfo → List CpInfo
  | 0, r => r
  | n + 1, r => .unusable :: gap n r
def poolList (es : List (Nat × CpInfo)) (last : Nat) : List CpInfo := es.foldr (fun e r => gap e.1 (e.2 :: r)) (gap last [])
def pool (es : List (Nat × CpInfo)) (last : Nat) : Array CpInfo := ⟨poolList es last⟩
def fileOf (pool : Array CpInfo) (this : Nat) (attrs : Array Attribute := #[]) (ms : Array MethodInfo := #[]) (fl : Nat := 33) (sup : Nat := 0) (ifs : Array Nat := #[]) (fds : Array FieldInfo := #[]) : ClassFile where
  minorVersion := 0
  majorVersion := 65
  constantPool := pool
  accessFlags := fl
  thisClass := this
  superClass := sup
  interfaces := ifs
  fields := fds
  methods := ms
  attributes := attrs
def plain (name : String) (sup : Option ClassId) : Class where
  name := name
  kind := .ordinary
  loader := none
  accessFlags := 33
  super := sup
  interfaces := #[]
  cf := none
  fields := #[]
  methods := #[]
  instanceTypes := #[]
  staticTypes := #[]
  resolved := #[]
  callSites := []
  init := .initialized
  statics := none
  mirror := none

def pool0 : Array CpInfo := pool [(5, u "<init>"), (0, u "()V"), (1, .class_ 10), (1, u "java/lang/Object"), (0, u "getClass"), (0, u "()Ljava/lang/Class;"), (14, u "hashCode"), (0, u "()I"), (63, u "equals"), (0, u "(Ljava/lang/Object;)Z")] 30

def k0c0 : Code := { maxStack := 0, maxLocals := 1, code := object_method_1_code, exceptionTable := #[], attributes := #[] }
def k0m0 : Method := { name := "<init>", desc := "()V", sig := { parameters := [], returnType := none }, accessFlags := 1, code := some k0c0 }
def k0m1 : Method := { name := "getClass", desc := "()Ljava/lang/Class;", sig := { parameters := [], returnType := some (.object "java/lang/Class") }, accessFlags := 273, code := none }
def k0m2 : Method := { name := "hashCode", desc := "()I", sig := { parameters := [], returnType := some .int }, accessFlags := 257, code := none }
def k0c3 : Code := { maxStack := 2, maxLocals := 2, code := ⟨#[0x2a, 0x2b, 0xa6, 0x00, 0x07, 0x04, 0xa7, 0x00, 0x04, 0x03, 0xac]⟩, exceptionTable := #[], attributes := #[] }
def k0m3 : Method := { name := "equals", desc := "(Ljava/lang/Object;)Z", sig := { parameters := [(.object "java/lang/Object")], returnType := some .boolean }, accessFlags := 1, code := some k0c3 }
/-- java/lang/Object -/
def k0 : Class := { plain "java/lang/Object" none with
  accessFlags := 33
  interfaces := #[]
  cf := some (fileOf pool0 8 #[] #[{ accessFlags := 1, nameIndex := 5, descriptorIndex := 6, attributes := #[] }, { accessFlags := 273, nameIndex := 11, descriptorIndex := 12, attributes := #[] }, { accessFlags := 257, nameIndex := 27, descriptorIndex := 28, attributes := #[] }, { accessFlags := 1, nameIndex := 92, descriptorIndex := 93, attributes := #[] }] 33 0 #[] #[])
  fields := #[]
  methods := #[k0m0, k0m1, k0m2, k0m3]
  instanceTypes := #[]
  staticTypes := #[]
  resolved := Array.replicate 124 none
  statics := none }

def pool1 : Array CpInfo := pool [(2, .class_ 4), (0, .nameAndType 5 6), (0, u "java/lang/Object"), (0, u "<init>"), (0, u "()V"), (0, .class_ 8), (0, u "java/lang/String"), (0, .methodref 7 10), (0, .nameAndType 5 11), (0, u "([C)V"), (0, .methodref 7 13), (0, .nameAndType 14 15), (0, u "valueOf"), (0, u "(C)Ljava/lang/String;"), (0, .class_ 17), (0, u "java/util/ArrayList"), (0, .methodref 16 3), (0, .class_ 20), (0, u "com/example/brickwork/brickwork/wire/Protocol$Listed"), (0, .methodref 19 22), (0, .nameAndType 5 23), (0, u "(Ljava/lang/String;Lcom/example/brickwork/brickwork/wire/Protocol$Standing;[B)V"), (0, .methodref 16 25), (0, .nameAndType 26 27), (0, u "add"), (0, u "(Ljava/lang/Object;)Z"), (0, .fieldref 29 30), (0, .class_ 31), (0, .nameAndType 32 33), (0, u "com/example/brickwork/brickwork/wire/Protocol$Knowledge"), (0, u "LEARNING"), (0, u "Lcom/example/brickwork/brickwork/wire/Protocol$Knowledge;"), (0, .fieldref 29 35), (0, .nameAndType 36 33), (0, u "KNOWN"), (0, .fieldref 29 38), (0, .nameAndType 39 33), (0, u "UNTOLD"), (0, .class_ 41), (0, u "com/example/brickwork/brickwork/wire/Protocol$Tables"), (0, .methodref 40 43), (0, .nameAndType 5 44), (0, u "(Lcom/example/brickwork/brickwork/wire/Protocol$Knowledge;JLjava/util/List;Ljava/util/List;)V"), (0, .class_ 46), (0, u "java/util/HashMap"), (0, .methodref 45 3), (0, .methodref 45 49), (0, .nameAndType 50 51), (0, u "put"), (0, u "(Ljava/lang/Object;Ljava/lang/Object;)Ljava/lang/Object;"), (0, .class_ 53), (0, u "com/example/brickwork/brickwork/Catalogue"), (0, .methodref 52 55), (0, .nameAndType 5 56), (0, u "(Ljava/util/Map;)V"), (0, .methodref 52 58), (0, .nameAndType 59 60), (0, u "speaksFor"), (0, u "(Ljava/lang/String;Ljava/lang/String;J)Z"), (0, .class_ 62), (0, u "com/example/brickwork/brickwork/CatalogueSpeaksForPinLaw"), (2, u "law"), (0, u "(IJJII)Z")] 14

def k1m0 : Method := { name := "<init>", desc := "()V", sig := { parameters := [], returnType := none }, accessFlags := 2, code := none }
def k1c1 : Code := { maxStack := 8, maxLocals := 45, code := code, exceptionTable := #[], attributes := #[] }
def k1m1 : Method := { name := "law", desc := "(IJJII)Z", sig := { parameters := [.int, .long, .long, .int, .int], returnType := some .boolean }, accessFlags := 9, code := some k1c1 }
/-- com/example/brickwork/brickwork/CatalogueSpeaksForPinLaw -/
def k1 : Class := { plain "com/example/brickwork/brickwork/CatalogueSpeaksForPinLaw" (some 0) with
  accessFlags := 49
  interfaces := #[]
  cf := some (fileOf pool1 61 #[] #[{ accessFlags := 2, nameIndex := 5, descriptorIndex := 6, attributes := #[] }, { accessFlags := 9, nameIndex := 65, descriptorIndex := 66, attributes := #[] }] 49 2 #[] #[])
  fields := #[]
  methods := #[k1m0, k1m1]
  instanceTypes := #[]
  staticTypes := #[]
  resolved := Array.replicate 81 none
  statics := none }

def pool2 : Array CpInfo := pool [(1, .class_ 2), (0, u "java/io/Serializable"), (0, .class_ 4), (0, u "java/lang/Object")] 2

/-- java/io/Serializable -/
def k2 : Class := { plain "java/io/Serializable" (some 0) with
  accessFlags := 1537
  interfaces := #[]
  cf := some (fileOf pool2 1 #[] #[] 1537 3 #[] #[])
  fields := #[]
  methods := #[]
  instanceTypes := #[]
  staticTypes := #[]
  resolved := Array.replicate 7 none
  statics := none }

def pool3 : Array CpInfo := pool [(1, .class_ 2), (0, u "java/lang/Comparable"), (0, .class_ 4), (0, u "java/lang/Object")] 7

/-- java/lang/Comparable -/
def k3 : Class := { plain "java/lang/Comparable" (some 0) with
  accessFlags := 1537
  interfaces := #[]
  cf := some (fileOf pool3 1 #[] #[] 1537 3 #[] #[])
  fields := #[]
  methods := #[]
  instanceTypes := #[]
  staticTypes := #[]
  resolved := Array.replicate 12 none
  statics := none }

def pool4 : Array CpInfo := pool [(2, .class_ 4), (1, u "java/lang/CharSequence"), (42, .class_ 48), (0, u "java/lang/CharSequence$1CodePointIterator"), (10, .class_ 60), (0, u "java/lang/CharSequence$1CharIterator"), (5, .class_ 67), (0, u "java/lang/Object")] 63

/-- java/lang/CharSequence -/
def k4 : Class := { plain "java/lang/CharSequence" (some 0) with
  accessFlags := 1537
  interfaces := #[]
  cf := some (fileOf pool4 2 #[.nestMembers #[47, 59]] #[] 1537 66 #[] #[])
  fields := #[]
  methods := #[]
  instanceTypes := #[]
  staticTypes := #[]
  resolved := Array.replicate 131 none
  statics := none }

def pool5 : Array CpInfo := pool [(1, .class_ 2), (0, u "java/lang/constant/Constable"), (0, .class_ 4), (0, u "java/lang/Object")] 6

/-- java/lang/constant/Constable -/
def k5 : Class := { plain "java/lang/constant/Constable" (some 0) with
  accessFlags := 1537
  interfaces := #[]
  cf := some (fileOf pool5 1 #[] #[] 1537 3 #[] #[])
  fields := #[]
  methods := #[]
  instanceTypes := #[]
  staticTypes := #[]
  resolved := Array.replicate 11 none
  statics := none }

def pool6 : Array CpInfo := pool [(1, .class_ 2), (0, u "java/lang/constant/ConstantDesc"), (0, .class_ 4), (0, u "java/lang/Object")] 32

/-- java/lang/constant/ConstantDesc -/
def k6 : Class := { plain "java/lang/constant/ConstantDesc" (some 0) with
  accessFlags := 1537
  interfaces := #[]
  cf := some (fileOf pool6 1 #[] #[] 1537 3 #[] #[])
  fields := #[]
  methods := #[]
  instanceTypes := #[]
  staticTypes := #[]
  resolved := Array.replicate 37 none
  statics := none }

def pool7 : Array CpInfo := pool [(1, .methodref 2 3), (0, .class_ 4), (0, .nameAndType 5 6), (0, u "java/lang/Object"), (0, u "<init>"), (0, u "()V"), (2, .fieldref 10 11), (0, .class_ 12), (0, .nameAndType 13 14), (0, u "java/lang/String"), (0, u "value"), (0, u "[B"), (0, .fieldref 10 16), (0, .nameAndType 17 18), (0, u "coder"), (0, u "B"), (0, .fieldref 10 20), (0, .nameAndType 21 22), (0, u "hash"), (0, u "I"), (0, .fieldref 10 24), (0, .nameAndType 25 26), (0, u "hashIsZero"), (0, u "Z"), (0, .methodref 10 28), (0, .nameAndType 5 29), (0, u "([CIILjava/lang/Void;)V"), (8, .fieldref 10 39), (0, .nameAndType 40 26), (0, u "COMPACT_STRINGS"), (1, .class_ 44), (1, u "java/lang/StringUTF16"), (0, u "compress"), (1, .methodref 42 48), (0, .nameAndType 49 50), (0, u "coderFromArrayLen"), (0, u "([BI)B"), (2, u "toBytes"), (53, .class_ 109), (1, u "java/lang/StringLatin1"), (32, u "()Z"), (34, .methodref 42 178), (0, .nameAndType 45 179), (0, u "([CII)[B"), (29, .methodref 10 210), (0, .nameAndType 5 211), (0, u "([BB)V"), (122, u "()I"), (34, u "(C)Z"), (122, .methodref 10 493), (0, .nameAndType 494 142), (0, u "isLatin1"), (46, .methodref 107 542), (0, .nameAndType 543 544), (0, u "equals"), (0, u "([B[B)Z"), (28, u "(Ljava/lang/Object;)Z"), (1, .class_ 576), (0, u "java/lang/CharSequence"), (22, u "CASE_INSENSITIVE_ORDER"), (0, u "Ljava/util/Comparator;"), (27, .methodref 107 629), (0, .nameAndType 630 631), (0, u "hashCode"), (0, u "([B)I"), (150, u "valueOf"), (0, u "(C)Ljava/lang/String;"), (226, u "([C)V"), (4, .methodref 107 1016), (0, .nameAndType 1017 369), (0, u "canEncode"), (0, .methodref 107 1019), (0, .nameAndType 53 1020), (0, u "(C)[B"), (80, u "serialPersistentFields"), (0, u "[Ljava/io/ObjectStreamField;"), (0, .class_ 1104), (0, u "java/lang/String$CaseInsensitiveComparator"), (1, .class_ 1107), (0, u "java/io/Serializable"), (0, .class_ 1109), (0, u "java/lang/Comparable"), (0, .class_ 1111), (0, u "java/lang/constant/Constable"), (0, .class_ 1113), (0, u "java/lang/constant/ConstantDesc"), (2, u "serialVersionUID"), (0, u "J"), (3, u "REPL"), (0, u "C"), (2, u "LATIN1"), (1, u "UTF16")] 323

def k7m0 : Method := { name := "<init>", desc := "()V", sig := { parameters := [], returnType := none }, accessFlags := 1, code := none }
def k7c1 : Code := { maxStack := 5, maxLocals := 2, code := jdk_42_method_3_code, exceptionTable := #[], attributes := #[] }
def k7m1 : Method := { name := "<init>", desc := "([C)V", sig := { parameters := [(.array .char)], returnType := none }, accessFlags := 1, code := some k7c1 }
def k7c2 : Code := { maxStack := 2, maxLocals := 3, code := jdk_42_method_66_code, exceptionTable := #[], attributes := #[] }
def k7m2 : Method := { name := "equals", desc := "(Ljava/lang/Object;)Z", sig := { parameters := [(.object "java/lang/Object")], returnType := some .boolean }, accessFlags := 1, code := some k7c2 }
def k7c3 : Code := { maxStack := 2, maxLocals := 2, code := jdk_42_method_78_code, exceptionTable := #[], attributes := #[] }
def k7m3 : Method := { name := "hashCode", desc := "()I", sig := { parameters := [], returnType := some .int }, accessFlags := 1, code := some k7c3 }
def k7c4 : Code := { maxStack := 4, maxLocals := 1, code := jdk_42_method_139_code, exceptionTable := #[], attributes := #[] }
def k7m4 : Method := { name := "valueOf", desc := "(C)Ljava/lang/String;", sig := { parameters := [.char], returnType := some (.object "java/lang/String") }, accessFlags := 9, code := some k7c4 }
def k7c5 : Code := { maxStack := 4, maxLocals := 6, code := jdk_42_method_149_code, exceptionTable := #[], attributes := #[] }
def k7m5 : Method := { name := "<init>", desc := "([CIILjava/lang/Void;)V", sig := { parameters := [(.array .char), .int, .int, (.object "java/lang/Void")], returnType := none }, accessFlags := 2, code := some k7c5 }
def k7c6 : Code := { maxStack := 2, maxLocals := 3, code := jdk_42_method_151_code, exceptionTable := #[], attributes := #[] }
def k7m6 : Method := { name := "<init>", desc := "([BB)V", sig := { parameters := [(.array .byte), .byte], returnType := none }, accessFlags := 0, code := some k7c6 }
def k7c7 : Code := { maxStack := 1, maxLocals := 1, code := jdk_42_method_154_code, exceptionTable := #[], attributes := #[] }
def k7m7 : Method := { name := "isLatin1", desc := "()Z", sig := { parameters := [], returnType := some .boolean }, accessFlags := 0, code := some k7c7 }
/-- java/lang/String -/
def k7 : Class := { plain "java/lang/String" (some 0) with
  accessFlags := 49
  interfaces := #[2, 3, 4, 5, 6]
  cf := some (fileOf pool7 10 #[.nestMembers #[1103]] #[{ accessFlags := 1, nameIndex := 5, descriptorIndex := 6, attributes := #[] }, { accessFlags := 1, nameIndex := 5, descriptorIndex := 1010, attributes := #[] }, { accessFlags := 1, nameIndex := 543, descriptorIndex := 573, attributes := #[] }, { accessFlags := 1, nameIndex := 630, descriptorIndex := 334, attributes := #[] }, { accessFlags := 9, nameIndex := 782, descriptorIndex := 783, attributes := #[] }, { accessFlags := 2, nameIndex := 5, descriptorIndex := 29, attributes := #[] }, { accessFlags := 0, nameIndex := 5, descriptorIndex := 211, attributes := #[] }, { accessFlags := 0, nameIndex := 494, descriptorIndex := 142, attributes := #[] }] 49 2 #[1106, 1108, 575, 1110, 1112] #[{ accessFlags := 18, nameIndex := 13, descriptorIndex := 14, attributes := #[] }, { accessFlags := 18, nameIndex := 17, descriptorIndex := 18, attributes := #[] }, { accessFlags := 2, nameIndex := 21, descriptorIndex := 22, attributes := #[] }, { accessFlags := 2, nameIndex := 25, descriptorIndex := 26, attributes := #[] }, { accessFlags := 26, nameIndex := 1116, descriptorIndex := 1117, attributes := #[] }, { accessFlags := 24, nameIndex := 40, descriptorIndex := 26, attributes := #[] }, { accessFlags := 26, nameIndex := 1101, descriptorIndex := 1102, attributes := #[] }, { accessFlags := 26, nameIndex := 1121, descriptorIndex := 1122, attributes := #[] }, { accessFlags := 25, nameIndex := 599, descriptorIndex := 600, attributes := #[] }, { accessFlags := 24, nameIndex := 1125, descriptorIndex := 18, attributes := #[] }, { accessFlags := 24, nameIndex := 1127, descriptorIndex := 18, attributes := #[] }])
  fields := #[{ name := "value", type := (.array .byte), accessFlags := 18, slot := 0, constantValue := 0 }, { name := "coder", type := .byte, accessFlags := 18, slot := 1, constantValue := 0 }, { name := "hash", type := .int, accessFlags := 2, slot := 2, constantValue := 0 }, { name := "hashIsZero", type := .boolean, accessFlags := 2, slot := 3, constantValue := 0 }, { name := "serialVersionUID", type := .long, accessFlags := 26, slot := 0, constantValue := 0 }, { name := "COMPACT_STRINGS", type := .boolean, accessFlags := 24, slot := 1, constantValue := 0 }, { name := "serialPersistentFields", type := (.array (.object "java/io/ObjectStreamField")), accessFlags := 26, slot := 2, constantValue := 0 }, { name := "REPL", type := .char, accessFlags := 26, slot := 3, constantValue := 0 }, { name := "CASE_INSENSITIVE_ORDER", type := (.object "java/util/Comparator"), accessFlags := 25, slot := 4, constantValue := 0 }, { name := "LATIN1", type := .byte, accessFlags := 24, slot := 5, constantValue := 0 }, { name := "UTF16", type := .byte, accessFlags := 24, slot := 6, constantValue := 0 }]
  methods := #[k7m0, k7m1, k7m2, k7m3, k7m4, k7m5, k7m6, k7m7]
  instanceTypes := #[(.array .byte), .byte, .int, .boolean]
  staticTypes := #[.long, .boolean, (.array (.object "java/io/ObjectStreamField")), .char, (.object "java/util/Comparator"), .byte, .byte]
  resolved := Array.replicate 1451 none
  statics := some 0 }

def pool8 : Array CpInfo := pool [(6, .class_ 8), (1, u "java/lang/Object"), (0, u "<init>"), (0, u "()V"), (1, .class_ 14), (1, u "java/lang/StringUTF16"), (31, u "$assertionsDisabled"), (0, u "Z"), (13, u "HI_BYTE_SHIFT"), (0, u "I"), (2, u "LO_BYTE_SHIFT"), (49, .methodref 12 116), (0, .nameAndType 117 118), (0, u "compress"), (0, u "([CI[BII)I"), (3, u "([CII)[B"), (138, u "coderFromArrayLen"), (0, u "([BI)B"), (106, .class_ 371), (1, u "java/lang/StringUTF16$LinesSpliterator"), (58, u "MAX_LENGTH"), (196, .class_ 628), (0, u "java/lang/StringUTF16$CodePointsSpliterator"), (0, .class_ 630), (0, u "java/lang/StringUTF16$CharsSpliterator")] 4

def k8m0 : Method := { name := "<init>", desc := "()V", sig := { parameters := [], returnType := none }, accessFlags := 0, code := none }
def k8c1 : Code := { maxStack := 2, maxLocals := 2, code := jdk_52_method_15_code, exceptionTable := #[], attributes := #[] }
def k8m1 : Method := { name := "coderFromArrayLen", desc := "([BI)B", sig := { parameters := [(.array .byte), .int], returnType := some .byte }, accessFlags := 8, code := some k8c1 }
def k8c2 : Code := { maxStack := 5, maxLocals := 6, code := jdk_52_method_16_code, exceptionTable := #[], attributes := #[] }
def k8m2 : Method := { name := "compress", desc := "([CII)[B", sig := { parameters := [(.array .char), .int, .int], returnType := some (.array .byte) }, accessFlags := 9, code := some k8c2 }
def k8c3 : Code := { maxStack := 3, maxLocals := 7, code := jdk_52_method_21_code, exceptionTable := #[], attributes := #[] }
def k8m3 : Method := { name := "compress", desc := "([CI[BII)I", sig := { parameters := [(.array .char), .int, (.array .byte), .int, .int], returnType := some .int }, accessFlags := 9, code := some k8c3 }
/-- java/lang/StringUTF16 -/
def k8 : Class := { plain "java/lang/StringUTF16" (some 0) with
  accessFlags := 48
  interfaces := #[]
  cf := some (fileOf pool8 12 #[.nestMembers #[627, 629, 369]] #[{ accessFlags := 0, nameIndex := 9, descriptorIndex := 10, attributes := #[] }, { accessFlags := 8, nameIndex := 261, descriptorIndex := 262, attributes := #[] }, { accessFlags := 9, nameIndex := 117, descriptorIndex := 122, attributes := #[] }, { accessFlags := 9, nameIndex := 117, descriptorIndex := 118, attributes := #[] }] 48 6 #[] #[{ accessFlags := 26, nameIndex := 61, descriptorIndex := 62, attributes := #[] }, { accessFlags := 26, nameIndex := 65, descriptorIndex := 62, attributes := #[] }, { accessFlags := 24, nameIndex := 430, descriptorIndex := 62, attributes := #[] }, { accessFlags := 4120, nameIndex := 46, descriptorIndex := 47, attributes := #[] }])
  fields := #[{ name := "HI_BYTE_SHIFT", type := .int, accessFlags := 26, slot := 0, constantValue := 0 }, { name := "LO_BYTE_SHIFT", type := .int, accessFlags := 26, slot := 1, constantValue := 0 }, { name := "MAX_LENGTH", type := .int, accessFlags := 24, slot := 2, constantValue := 0 }, { name := "$assertionsDisabled", type := .boolean, accessFlags := 4120, slot := 3, constantValue := 0 }]
  methods := #[k8m0, k8m1, k8m2, k8m3]
  instanceTypes := #[]
  staticTypes := #[.int, .int, .int, .boolean]
  resolved := Array.replicate 635 none
  statics := none }

def pool9 : Array CpInfo := pool [(4, .class_ 6), (1, u "java/lang/Object"), (0, u "<init>"), (0, u "()V"), (5, .class_ 16), (1, u "java/lang/StringLatin1"), (40, u "([B)I"), (32, u "canEncode"), (14, u "(C)Z"), (15, u "$assertionsDisabled"), (0, u "Z"), (98, .class_ 223), (1, u "java/lang/StringLatin1$LinesSpliterator"), (57, u "equals"), (0, u "([B[B)Z"), (15, u "hashCode"), (81, u "toBytes"), (1, u "(C)[B"), (7, .class_ 391), (0, u "java/lang/StringLatin1$CharsSpliterator")] 3

def k9m0 : Method := { name := "<init>", desc := "()V", sig := { parameters := [], returnType := none }, accessFlags := 0, code := none }
def k9c1 : Code := { maxStack := 2, maxLocals := 1, code := jdk_43_method_3_code, exceptionTable := #[], attributes := #[] }
def k9m1 : Method := { name := "canEncode", desc := "(C)Z", sig := { parameters := [.char], returnType := some .boolean }, accessFlags := 9, code := some k9c1 }
def k9c2 : Code := { maxStack := 3, maxLocals := 3, code := jdk_43_method_13_code, exceptionTable := #[], attributes := #[] }
def k9m2 : Method := { name := "equals", desc := "([B[B)Z", sig := { parameters := [(.array .byte), (.array .byte)], returnType := some .boolean }, accessFlags := 9, code := some k9c2 }
def k9c3 : Code := { maxStack := 5, maxLocals := 1, code := jdk_43_method_21_code, exceptionTable := #[], attributes := #[] }
def k9m3 : Method := { name := "hashCode", desc := "([B)I", sig := { parameters := [(.array .byte)], returnType := some .int }, accessFlags := 9, code := some k9c3 }
def k9c4 : Code := { maxStack := 4, maxLocals := 1, code := jdk_43_method_46_code, exceptionTable := #[], attributes := #[] }
def k9m4 : Method := { name := "toBytes", desc := "(C)[B", sig := { parameters := [.char], returnType := some (.array .byte) }, accessFlags := 9, code := some k9c4 }
/-- java/lang/StringLatin1 -/
def k9 : Class := { plain "java/lang/StringLatin1" (some 0) with
  accessFlags := 48
  interfaces := #[]
  cf := some (fileOf pool9 14 #[.nestMembers #[390, 221]] #[{ accessFlags := 0, nameIndex := 7, descriptorIndex := 8, attributes := #[] }, { accessFlags := 9, nameIndex := 90, descriptorIndex := 105, attributes := #[] }, { accessFlags := 9, nameIndex := 281, descriptorIndex := 282, attributes := #[] }, { accessFlags := 9, nameIndex := 298, descriptorIndex := 57, attributes := #[] }, { accessFlags := 9, nameIndex := 380, descriptorIndex := 382, attributes := #[] }] 48 4 #[] #[{ accessFlags := 4120, nameIndex := 121, descriptorIndex := 122, attributes := #[] }])
  fields := #[{ name := "$assertionsDisabled", type := .boolean, accessFlags := 4120, slot := 0, constantValue := 0 }]
  methods := #[k9m0, k9m1, k9m2, k9m3, k9m4]
  instanceTypes := #[]
  staticTypes := #[.boolean]
  resolved := Array.replicate 395 none
  statics := none }

def pool10 : Array CpInfo := pool [(8, .class_ 10), (1, u "java/lang/Iterable"), (24, .class_ 36), (0, u "java/lang/Object")] 25

/-- java/lang/Iterable -/
def k10 : Class := { plain "java/lang/Iterable" (some 0) with
  accessFlags := 1537
  interfaces := #[]
  cf := some (fileOf pool10 8 #[] #[] 1537 35 #[] #[])
  fields := #[]
  methods := #[]
  instanceTypes := #[]
  staticTypes := #[]
  resolved := Array.replicate 62 none
  statics := none }

def pool11 : Array CpInfo := pool [(10, .class_ 12), (1, u "java/util/Collection"), (47, .class_ 61), (0, u "java/lang/Object"), (0, .class_ 63), (0, u "java/lang/Iterable")] 51

/-- java/util/Collection -/
def k11 : Class := { plain "java/util/Collection" (some 0) with
  accessFlags := 1537
  interfaces := #[10]
  cf := some (fileOf pool11 10 #[] #[] 1537 60 #[62] #[])
  fields := #[]
  methods := #[]
  instanceTypes := #[]
  staticTypes := #[]
  resolved := Array.replicate 115 none
  statics := none }

def pool12 : Array CpInfo := pool [(1, .methodref 2 3), (0, .class_ 4), (0, .nameAndType 5 6), (0, u "java/lang/Object"), (0, u "<init>"), (0, u "()V"), (1, .class_ 10), (1, u "java/util/AbstractCollection"), (66, .class_ 78), (0, u "java/util/Collection")] 81

def k12c0 : Code := { maxStack := 1, maxLocals := 1, code := jdk_22_method_1_code, exceptionTable := #[], attributes := #[] }
def k12m0 : Method := { name := "<init>", desc := "()V", sig := { parameters := [], returnType := none }, accessFlags := 4, code := some k12c0 }
/-- java/util/AbstractCollection -/
def k12 : Class := { plain "java/util/AbstractCollection" (some 0) with
  accessFlags := 1057
  interfaces := #[11]
  cf := some (fileOf pool12 8 #[] #[{ accessFlags := 4, nameIndex := 5, descriptorIndex := 6, attributes := #[] }] 1057 2 #[77] #[])
  fields := #[]
  methods := #[k12m0]
  instanceTypes := #[]
  staticTypes := #[]
  resolved := Array.replicate 160 none
  statics := none }

def pool13 : Array CpInfo := pool [(8, .class_ 10), (1, u "java/util/SequencedCollection"), (15, .class_ 27), (0, u "java/lang/Object"), (0, .class_ 29), (0, u "java/util/Collection")] 27

/-- java/util/SequencedCollection -/
def k13 : Class := { plain "java/util/SequencedCollection" (some 0) with
  accessFlags := 1537
  interfaces := #[11]
  cf := some (fileOf pool13 8 #[] #[] 1537 26 #[28] #[])
  fields := #[]
  methods := #[]
  instanceTypes := #[]
  staticTypes := #[]
  resolved := Array.replicate 57 none
  statics := none }

def pool14 : Array CpInfo := pool [(8, .class_ 10), (1, u "java/util/List"), (92, .class_ 104), (0, u "java/lang/Object"), (15, .class_ 121), (0, u "java/util/SequencedCollection"), (1, u "iterator"), (0, u "()Ljava/util/Iterator;")] 126

def k14m0 : Method := { name := "iterator", desc := "()Ljava/util/Iterator;", sig := { parameters := [], returnType := some (.object "java/util/Iterator") }, accessFlags := 1025, code := none }
/-- java/util/List -/
def k14 : Class := { plain "java/util/List" (some 0) with
  accessFlags := 1537
  interfaces := #[13]
  cf := some (fileOf pool14 8 #[] #[{ accessFlags := 1025, nameIndex := 123, descriptorIndex := 124, attributes := #[] }] 1537 103 #[120] #[])
  fields := #[]
  methods := #[k14m0]
  instanceTypes := #[]
  staticTypes := #[]
  resolved := Array.replicate 251 none
  statics := none }

def pool15 : Array CpInfo := pool [(1, .methodref 2 3), (0, .class_ 4), (0, .nameAndType 5 6), (0, u "java/util/AbstractCollection"), (0, u "<init>"), (0, u "()V"), (0, .fieldref 8 9), (0, .class_ 10), (0, .nameAndType 11 12), (0, u "java/util/AbstractList"), (0, u "modCount"), (0, u "I"), (64, .class_ 78), (0, u "java/util/AbstractList$Itr"), (3, .class_ 83), (0, u "java/util/AbstractList$ListItr"), (9, .class_ 94), (0, u "java/util/AbstractList$RandomAccessSubList"), (3, .class_ 99), (0, u "java/util/AbstractList$SubList"), (33, .class_ 134), (0, u "java/util/List"), (73, .class_ 209), (0, u "java/util/AbstractList$SubList$1"), (0, .class_ 211), (0, u "java/util/AbstractList$RandomAccessSpliterator")] 6

def k15c0 : Code := { maxStack := 2, maxLocals := 1, code := jdk_39_method_1_code, exceptionTable := #[], attributes := #[] }
def k15m0 : Method := { name := "<init>", desc := "()V", sig := { parameters := [], returnType := none }, accessFlags := 4, code := some k15c0 }
/-- java/util/AbstractList -/
def k15 : Class := { plain "java/util/AbstractList" (some 12) with
  accessFlags := 1057
  interfaces := #[14]
  cf := some (fileOf pool15 8 #[.nestMembers #[93, 98, 208, 210, 82, 77]] #[{ accessFlags := 4, nameIndex := 5, descriptorIndex := 6, attributes := #[] }] 1057 2 #[133] #[{ accessFlags := 132, nameIndex := 11, descriptorIndex := 12, attributes := #[] }])
  fields := #[{ name := "modCount", type := .int, accessFlags := 132, slot := 0, constantValue := 0 }]
  methods := #[k15m0]
  instanceTypes := #[.int]
  staticTypes := #[]
  resolved := Array.replicate 218 none
  statics := none }

def pool16 : Array CpInfo := pool [(1, .class_ 2), (0, u "java/util/RandomAccess"), (0, .class_ 4), (0, u "java/lang/Object")] 2

/-- java/util/RandomAccess -/
def k16 : Class := { plain "java/util/RandomAccess" (some 0) with
  accessFlags := 1537
  interfaces := #[]
  cf := some (fileOf pool16 1 #[] #[] 1537 3 #[] #[])
  fields := #[]
  methods := #[]
  instanceTypes := #[]
  staticTypes := #[]
  resolved := Array.replicate 7 none
  statics := none }

def pool17 : Array CpInfo := pool [(1, .class_ 2), (0, u "java/lang/Cloneable"), (0, .class_ 4), (0, u "java/lang/Object")] 2

/-- java/lang/Cloneable -/
def k17 : Class := { plain "java/lang/Cloneable" (some 0) with
  accessFlags := 1537
  interfaces := #[]
  cf := some (fileOf pool17 1 #[] #[] 1537 3 #[] #[])
  fields := #[]
  methods := #[]
  instanceTypes := #[]
  staticTypes := #[]
  resolved := Array.replicate 7 none
  statics := none }

def pool18 : Array CpInfo := pool [(1, .methodref 2 3), (0, .class_ 4), (0, .nameAndType 5 6), (0, u "java/util/AbstractList"), (0, u "<init>"), (0, u "()V"), (0, .class_ 8), (0, u "java/lang/Object"), (0, .fieldref 10 11), (0, .class_ 12), (0, .nameAndType 13 14), (0, u "java/util/ArrayList"), (0, u "elementData"), (0, u "[Ljava/lang/Object;"), (2, u "EMPTY_ELEMENTDATA"), (21, .fieldref 10 40), (0, .nameAndType 41 14), (0, u "DEFAULTCAPACITY_EMPTY_ELEMENTDATA"), (5, u "()[Ljava/lang/Object;"), (0, .fieldref 10 49), (0, .nameAndType 50 51), (0, u "size"), (0, u "I"), (11, .fieldref 10 64), (0, .nameAndType 65 51), (0, u "modCount"), (3, .methodref 10 70), (0, .nameAndType 71 72), (0, u "grow"), (0, u "(I)[Ljava/lang/Object;"), (6, .methodref 80 81), (0, .class_ 82), (0, .nameAndType 83 84), (0, u "java/lang/Math"), (0, u "max"), (0, u "(II)I"), (11, u "(Ljava/lang/Object;)Z"), (32, .methodref 10 130), (0, .nameAndType 71 47), (0, .methodref 10 132), (0, .nameAndType 133 134), (0, u "add"), (0, u "(Ljava/lang/Object;[Ljava/lang/Object;I)V"), (13, .class_ 149), (0, u "java/util/List"), (16, u "iterator"), (0, u "()Ljava/util/Iterator;"), (94, .class_ 263), (0, u "java/util/ArrayList$ListItr"), (3, .class_ 268), (0, u "java/util/ArrayList$Itr"), (0, .methodref 267 270), (0, .nameAndType 5 271), (0, u "(Ljava/util/ArrayList;)V"), (4, .class_ 277), (0, u "java/util/ArrayList$SubList"), (12, .class_ 291), (0, u "java/util/ArrayList$ArrayListSpliterator"), (37, .class_ 330), (0, u "java/util/RandomAccess"), (0, .class_ 332), (0, u "java/lang/Cloneable"), (0, .class_ 334), (0, u "java/io/Serializable"), (0, u "serialVersionUID"), (0, u "J"), (3, u "DEFAULT_CAPACITY"), (159, .class_ 501), (0, u "java/util/ArrayList$SubList$2"), (0, .class_ 503), (0, u "java/util/ArrayList$SubList$1")] 5

def k18c0 : Code := { maxStack := 2, maxLocals := 1, code := jdk_38_method_2_code, exceptionTable := #[], attributes := #[] }
def k18m0 : Method := { name := "<init>", desc := "()V", sig := { parameters := [], returnType := none }, accessFlags := 1, code := some k18c0 }
def k18c1 : Code := { maxStack := 4, maxLocals := 4, code := jdk_38_method_6_code, exceptionTable := #[], attributes := #[] }
def k18m1 : Method := { name := "grow", desc := "(I)[Ljava/lang/Object;", sig := { parameters := [.int], returnType := some (.array (.object "java/lang/Object")) }, accessFlags := 2, code := some k18c1 }
def k18c2 : Code := { maxStack := 3, maxLocals := 1, code := jdk_38_method_7_code, exceptionTable := #[], attributes := #[] }
def k18m2 : Method := { name := "grow", desc := "()[Ljava/lang/Object;", sig := { parameters := [], returnType := some (.array (.object "java/lang/Object")) }, accessFlags := 2, code := some k18c2 }
def k18c3 : Code := { maxStack := 3, maxLocals := 4, code := jdk_38_method_24_code, exceptionTable := #[], attributes := #[] }
def k18m3 : Method := { name := "add", desc := "(Ljava/lang/Object;[Ljava/lang/Object;I)V", sig := { parameters := [(.object "java/lang/Object"), (.array (.object "java/lang/Object")), .int], returnType := none }, accessFlags := 2, code := some k18c3 }
def k18c4 : Code := { maxStack := 4, maxLocals := 2, code := jdk_38_method_25_code, exceptionTable := #[], attributes := #[] }
def k18m4 : Method := { name := "add", desc := "(Ljava/lang/Object;)Z", sig := { parameters := [(.object "java/lang/Object")], returnType := some .boolean }, accessFlags := 1, code := some k18c4 }
def k18c5 : Code := { maxStack := 3, maxLocals := 1, code := jdk_38_method_55_code, exceptionTable := #[], attributes := #[] }
def k18m5 : Method := { name := "iterator", desc := "()Ljava/util/Iterator;", sig := { parameters := [], returnType := some (.object "java/util/Iterator") }, accessFlags := 1, code := some k18c5 }
/-- java/util/ArrayList -/
def k18 : Class := { plain "java/util/ArrayList" (some 15) with
  accessFlags := 33
  interfaces := #[14, 16, 17, 2]
  cf := some (fileOf pool18 10 #[.nestMembers #[290, 276, 500, 502, 262, 267]] #[{ accessFlags := 1, nameIndex := 5, descriptorIndex := 6, attributes := #[] }, { accessFlags := 2, nameIndex := 71, descriptorIndex := 72, attributes := #[] }, { accessFlags := 2, nameIndex := 71, descriptorIndex := 47, attributes := #[] }, { accessFlags := 2, nameIndex := 133, descriptorIndex := 134, attributes := #[] }, { accessFlags := 1, nameIndex := 133, descriptorIndex := 96, attributes := #[] }, { accessFlags := 1, nameIndex := 166, descriptorIndex := 167, attributes := #[] }] 33 2 #[148, 329, 331, 333] #[{ accessFlags := 26, nameIndex := 335, descriptorIndex := 336, attributes := #[] }, { accessFlags := 26, nameIndex := 340, descriptorIndex := 51, attributes := #[] }, { accessFlags := 26, nameIndex := 17, descriptorIndex := 14, attributes := #[] }, { accessFlags := 26, nameIndex := 41, descriptorIndex := 14, attributes := #[] }, { accessFlags := 128, nameIndex := 13, descriptorIndex := 14, attributes := #[] }, { accessFlags := 2, nameIndex := 50, descriptorIndex := 51, attributes := #[] }])
  fields := #[{ name := "serialVersionUID", type := .long, accessFlags := 26, slot := 0, constantValue := 0 }, { name := "DEFAULT_CAPACITY", type := .int, accessFlags := 26, slot := 1, constantValue := 0 }, { name := "EMPTY_ELEMENTDATA", type := (.array (.object "java/lang/Object")), accessFlags := 26, slot := 2, constantValue := 0 }, { name := "DEFAULTCAPACITY_EMPTY_ELEMENTDATA", type := (.array (.object "java/lang/Object")), accessFlags := 26, slot := 3, constantValue := 0 }, { name := "elementData", type := (.array (.object "java/lang/Object")), accessFlags := 128, slot := 1, constantValue := 0 }, { name := "size", type := .int, accessFlags := 2, slot := 2, constantValue := 0 }]
  methods := #[k18m0, k18m1, k18m2, k18m3, k18m4, k18m5]
  instanceTypes := #[.int, (.array (.object "java/lang/Object")), .int]
  staticTypes := #[.long, .int, (.array (.object "java/lang/Object")), (.array (.object "java/lang/Object"))]
  resolved := Array.replicate 509 none
  statics := some 1 }

def pool19 : Array CpInfo := pool [(1, .methodref 2 3), (0, .class_ 4), (0, .nameAndType 5 6), (0, u "java/lang/Object"), (0, u "<init>"), (0, u "()V"), (0, .class_ 8), (0, u "java/lang/Record")] 13

def k19c0 : Code := { maxStack := 1, maxLocals := 1, code := jdk_30_method_1_code, exceptionTable := #[], attributes := #[] }
def k19m0 : Method := { name := "<init>", desc := "()V", sig := { parameters := [], returnType := none }, accessFlags := 4, code := some k19c0 }
/-- java/lang/Record -/
def k19 : Class := { plain "java/lang/Record" (some 0) with
  accessFlags := 1057
  interfaces := #[]
  cf := some (fileOf pool19 7 #[] #[{ accessFlags := 4, nameIndex := 5, descriptorIndex := 6, attributes := #[] }] 1057 2 #[] #[])
  fields := #[]
  methods := #[k19m0]
  instanceTypes := #[]
  staticTypes := #[]
  resolved := Array.replicate 22 none
  statics := none }

def pool20 : Array CpInfo := pool [(1, .methodref 2 3), (0, .class_ 4), (0, .nameAndType 5 6), (0, u "java/lang/Record"), (0, u "<init>"), (0, u "()V"), (0, .fieldref 8 9), (0, .class_ 10), (0, .nameAndType 11 12), (0, u "com/example/brickwork/brickwork/wire/Protocol$Listed"), (0, u "name"), (0, u "Ljava/lang/String;"), (0, .fieldref 8 14), (0, .nameAndType 15 16), (0, u "standing"), (0, u "Lcom/example/brickwork/brickwork/wire/Protocol$Standing;"), (0, .fieldref 8 18), (0, .nameAndType 19 20), (0, u "layout"), (0, u "[B"), (12, u "(Ljava/lang/String;Lcom/example/brickwork/brickwork/wire/Protocol$Standing;[B)V"), (3, u "()Ljava/lang/String;"), (7, .class_ 46), (0, u "com/example/brickwork/brickwork/wire/Protocol")] 24

def k20c0 : Code := { maxStack := 2, maxLocals := 4, code := prog_162_method_1_code, exceptionTable := #[], attributes := #[] }
def k20m0 : Method := { name := "<init>", desc := "(Ljava/lang/String;Lcom/example/brickwork/brickwork/wire/Protocol$Standing;[B)V", sig := { parameters := [(.object "java/lang/String"), (.object "com/example/brickwork/brickwork/wire/Protocol$Standing"), (.array .byte)], returnType := none }, accessFlags := 1, code := some k20c0 }
def k20c1 : Code := { maxStack := 1, maxLocals := 1, code := prog_162_method_5_code, exceptionTable := #[], attributes := #[] }
def k20m1 : Method := { name := "name", desc := "()Ljava/lang/String;", sig := { parameters := [], returnType := some (.object "java/lang/String") }, accessFlags := 1, code := some k20c1 }
/-- com/example/brickwork/brickwork/wire/Protocol$Listed -/
def k20 : Class := { plain "com/example/brickwork/brickwork/wire/Protocol$Listed" (some 19) with
  accessFlags := 49
  interfaces := #[]
  cf := some (fileOf pool20 8 #[.nestHost 45] #[{ accessFlags := 1, nameIndex := 5, descriptorIndex := 33, attributes := #[] }, { accessFlags := 1, nameIndex := 11, descriptorIndex := 37, attributes := #[] }] 49 2 #[] #[{ accessFlags := 18, nameIndex := 11, descriptorIndex := 12, attributes := #[] }, { accessFlags := 18, nameIndex := 15, descriptorIndex := 16, attributes := #[] }, { accessFlags := 18, nameIndex := 19, descriptorIndex := 20, attributes := #[] }])
  fields := #[{ name := "name", type := (.object "java/lang/String"), accessFlags := 18, slot := 0, constantValue := 0 }, { name := "standing", type := (.object "com/example/brickwork/brickwork/wire/Protocol$Standing"), accessFlags := 18, slot := 1, constantValue := 0 }, { name := "layout", type := (.array .byte), accessFlags := 18, slot := 2, constantValue := 0 }]
  methods := #[k20m0, k20m1]
  instanceTypes := #[(.object "java/lang/String"), (.object "com/example/brickwork/brickwork/wire/Protocol$Standing"), (.array .byte)]
  staticTypes := #[]
  resolved := Array.replicate 71 none
  statics := none }

def pool21 : Array CpInfo := pool [(1, .class_ 2), (0, u "java/lang/Math"), (1, .class_ 6), (1, u "java/lang/Object"), (0, u "<init>"), (0, u "()V"), (89, .class_ 100), (1, u "java/lang/Math$RandomNumberGeneratorHolder"), (71, u "negativeZeroFloatBits"), (0, u "J"), (2, u "negativeZeroDoubleBits"), (21, u "max"), (46, u "$assertionsDisabled"), (0, u "Z"), (88, u "(II)I"), (2, u "twoToTheDoubleScaleDown"), (0, u "D"), (4, u "twoToTheDoubleScaleUp"), (9, u "E"), (3, u "PI"), (2, u "TAU"), (2, u "DEGREES_TO_RADIANS"), (0, u "RADIANS_TO_DEGREES")] 94

def k21m0 : Method := { name := "<init>", desc := "()V", sig := { parameters := [], returnType := none }, accessFlags := 2, code := none }
def k21c1 : Code := { maxStack := 2, maxLocals := 2, code := jdk_29_method_65_code, exceptionTable := #[], attributes := #[] }
def k21m1 : Method := { name := "max", desc := "(II)I", sig := { parameters := [.int, .int], returnType := some .int }, accessFlags := 9, code := some k21c1 }
/-- java/lang/Math -/
def k21 : Class := { plain "java/lang/Math" (some 0) with
  accessFlags := 49
  interfaces := #[]
  cf := some (fileOf pool21 1 #[.nestMembers #[98]] #[{ accessFlags := 2, nameIndex := 7, descriptorIndex := 8, attributes := #[] }, { accessFlags := 9, nameIndex := 198, descriptorIndex := 335, attributes := #[] }] 49 4 #[] #[{ accessFlags := 25, nameIndex := 354, descriptorIndex := 339, attributes := #[] }, { accessFlags := 25, nameIndex := 358, descriptorIndex := 339, attributes := #[] }, { accessFlags := 25, nameIndex := 361, descriptorIndex := 339, attributes := #[] }, { accessFlags := 26, nameIndex := 364, descriptorIndex := 339, attributes := #[] }, { accessFlags := 26, nameIndex := 365, descriptorIndex := 339, attributes := #[] }, { accessFlags := 26, nameIndex := 172, descriptorIndex := 173, attributes := #[] }, { accessFlags := 26, nameIndex := 176, descriptorIndex := 173, attributes := #[] }, { accessFlags := 8, nameIndex := 344, descriptorIndex := 339, attributes := #[] }, { accessFlags := 8, nameIndex := 338, descriptorIndex := 339, attributes := #[] }, { accessFlags := 4120, nameIndex := 245, descriptorIndex := 246, attributes := #[] }])
  fields := #[{ name := "E", type := .double, accessFlags := 25, slot := 0, constantValue := 0 }, { name := "PI", type := .double, accessFlags := 25, slot := 1, constantValue := 0 }, { name := "TAU", type := .double, accessFlags := 25, slot := 2, constantValue := 0 }, { name := "DEGREES_TO_RADIANS", type := .double, accessFlags := 26, slot := 3, constantValue := 0 }, { name := "RADIANS_TO_DEGREES", type := .double, accessFlags := 26, slot := 4, constantValue := 0 }, { name := "negativeZeroFloatBits", type := .long, accessFlags := 26, slot := 5, constantValue := 0 }, { name := "negativeZeroDoubleBits", type := .long, accessFlags := 26, slot := 6, constantValue := 0 }, { name := "twoToTheDoubleScaleUp", type := .double, accessFlags := 8, slot := 7, constantValue := 0 }, { name := "twoToTheDoubleScaleDown", type := .double, accessFlags := 8, slot := 8, constantValue := 0 }, { name := "$assertionsDisabled", type := .boolean, accessFlags := 4120, slot := 9, constantValue := 0 }]
  methods := #[k21m0, k21m1]
  instanceTypes := #[]
  staticTypes := #[.double, .double, .double, .double, .double, .long, .long, .double, .double, .boolean]
  resolved := Array.replicate 460 none
  statics := none }

def pool22 : Array CpInfo := pool [(2, .class_ 4), (1, u "java/lang/Enum"), (0, u "name"), (0, u "Ljava/lang/String;"), (2, u "ordinal"), (0, u "I"), (1, .class_ 14), (1, u "java/lang/Object"), (4, u "hash"), (86, .class_ 108), (1, u "java/lang/Enum$EnumDesc"), (2, .class_ 112), (0, u "java/lang/constant/Constable"), (0, .class_ 114), (0, u "java/lang/Comparable"), (0, .class_ 116), (0, u "java/io/Serializable")] 87

/-- java/lang/Enum -/
def k22 : Class := { plain "java/lang/Enum" (some 0) with
  accessFlags := 1057
  interfaces := #[5, 3, 2]
  cf := some (fileOf pool22 2 #[.nestMembers #[106]] #[] 1057 12 #[111, 113, 115] #[{ accessFlags := 18, nameIndex := 5, descriptorIndex := 6, attributes := #[] }, { accessFlags := 18, nameIndex := 9, descriptorIndex := 10, attributes := #[] }, { accessFlags := 2, nameIndex := 19, descriptorIndex := 10, attributes := #[] }])
  fields := #[{ name := "name", type := (.object "java/lang/String"), accessFlags := 18, slot := 0, constantValue := 0 }, { name := "ordinal", type := .int, accessFlags := 18, slot := 1, constantValue := 0 }, { name := "hash", type := .int, accessFlags := 2, slot := 2, constantValue := 0 }]
  methods := #[]
  instanceTypes := #[(.object "java/lang/String"), .int, .int]
  staticTypes := #[]
  resolved := Array.replicate 204 none
  statics := none }

def pool23 : Array CpInfo := pool [(1, .class_ 2), (0, u "com/example/brickwork/brickwork/wire/Protocol$Knowledge"), (2, u "LEARNING"), (0, u "Lcom/example/brickwork/brickwork/wire/Protocol$Knowledge;"), (2, u "KNOWN"), (2, u "UNTOLD"), (2, u "$VALUES"), (0, u "[Lcom/example/brickwork/brickwork/wire/Protocol$Knowledge;"), (6, .class_ 25), (1, u "java/lang/Enum"), (19, u "ALL"), (11, .class_ 58), (0, u "com/example/brickwork/brickwork/wire/Protocol")] 2

/-- com/example/brickwork/brickwork/wire/Protocol$Knowledge -/
def k23 : Class := { plain "com/example/brickwork/brickwork/wire/Protocol$Knowledge" (some 22) with
  accessFlags := 16433
  interfaces := #[]
  cf := some (fileOf pool23 1 #[.nestHost 57] #[] 16433 23 #[] #[{ accessFlags := 16409, nameIndex := 5, descriptorIndex := 6, attributes := #[] }, { accessFlags := 16409, nameIndex := 9, descriptorIndex := 6, attributes := #[] }, { accessFlags := 16409, nameIndex := 12, descriptorIndex := 6, attributes := #[] }, { accessFlags := 26, nameIndex := 45, descriptorIndex := 16, attributes := #[] }, { accessFlags := 4122, nameIndex := 15, descriptorIndex := 16, attributes := #[] }])
  fields := #[{ name := "LEARNING", type := (.object "com/example/brickwork/brickwork/wire/Protocol$Knowledge"), accessFlags := 16409, slot := 0, constantValue := 0 }, { name := "KNOWN", type := (.object "com/example/brickwork/brickwork/wire/Protocol$Knowledge"), accessFlags := 16409, slot := 1, constantValue := 0 }, { name := "UNTOLD", type := (.object "com/example/brickwork/brickwork/wire/Protocol$Knowledge"), accessFlags := 16409, slot := 2, constantValue := 0 }, { name := "ALL", type := (.array (.object "com/example/brickwork/brickwork/wire/Protocol$Knowledge")), accessFlags := 26, slot := 3, constantValue := 0 }, { name := "$VALUES", type := (.array (.object "com/example/brickwork/brickwork/wire/Protocol$Knowledge")), accessFlags := 4122, slot := 4, constantValue := 0 }]
  methods := #[]
  instanceTypes := #[(.object "java/lang/String"), .int, .int]
  staticTypes := #[(.object "com/example/brickwork/brickwork/wire/Protocol$Knowledge"), (.object "com/example/brickwork/brickwork/wire/Protocol$Knowledge"), (.object "com/example/brickwork/brickwork/wire/Protocol$Knowledge"), (.array (.object "com/example/brickwork/brickwork/wire/Protocol$Knowledge")), (.array (.object "com/example/brickwork/brickwork/wire/Protocol$Knowledge"))]
  resolved := Array.replicate 61 none
  statics := some 2 }

def pool24 : Array CpInfo := pool [(1, .methodref 2 3), (0, .class_ 4), (0, .nameAndType 5 6), (0, u "java/lang/Record"), (0, u "<init>"), (0, u "()V"), (0, .fieldref 8 9), (0, .class_ 10), (0, .nameAndType 11 12), (0, u "com/example/brickwork/brickwork/wire/Protocol$Tables"), (0, u "knowledge"), (0, u "Lcom/example/brickwork/brickwork/wire/Protocol$Knowledge;"), (0, .fieldref 8 14), (0, .nameAndType 15 16), (0, u "directory"), (0, u "J"), (0, .fieldref 8 18), (0, .nameAndType 19 20), (0, u "tables"), (0, u "Ljava/util/List;"), (0, .fieldref 8 22), (0, .nameAndType 23 20), (0, u "destroyed"), (2, u "(Lcom/example/brickwork/brickwork/wire/Protocol$Knowledge;JLjava/util/List;Ljava/util/List;)V"), (53, u "()Lcom/example/brickwork/brickwork/wire/Protocol$Knowledge;"), (0, u "()J"), (0, u "()Ljava/util/List;"), (5, .class_ 89), (0, u "com/example/brickwork/brickwork/wire/Protocol")] 27

def k24c0 : Code := { maxStack := 3, maxLocals := 6, code := prog_168_method_2_code, exceptionTable := #[], attributes := #[] }
def k24m0 : Method := { name := "<init>", desc := "(Lcom/example/brickwork/brickwork/wire/Protocol$Knowledge;JLjava/util/List;Ljava/util/List;)V", sig := { parameters := [(.object "com/example/brickwork/brickwork/wire/Protocol$Knowledge"), .long, (.object "java/util/List"), (.object "java/util/List")], returnType := none }, accessFlags := 1, code := some k24c0 }
def k24c1 : Code := { maxStack := 1, maxLocals := 1, code := prog_168_method_7_code, exceptionTable := #[], attributes := #[] }
def k24m1 : Method := { name := "knowledge", desc := "()Lcom/example/brickwork/brickwork/wire/Protocol$Knowledge;", sig := { parameters := [], returnType := some (.object "com/example/brickwork/brickwork/wire/Protocol$Knowledge") }, accessFlags := 1, code := some k24c1 }
def k24c2 : Code := { maxStack := 2, maxLocals := 1, code := prog_168_method_8_code, exceptionTable := #[], attributes := #[] }
def k24m2 : Method := { name := "directory", desc := "()J", sig := { parameters := [], returnType := some .long }, accessFlags := 1, code := some k24c2 }
def k24c3 : Code := { maxStack := 1, maxLocals := 1, code := prog_168_method_9_code, exceptionTable := #[], attributes := #[] }
def k24m3 : Method := { name := "tables", desc := "()Ljava/util/List;", sig := { parameters := [], returnType := some (.object "java/util/List") }, accessFlags := 1, code := some k24c3 }
/-- com/example/brickwork/brickwork/wire/Protocol$Tables -/
def k24 : Class := { plain "com/example/brickwork/brickwork/wire/Protocol$Tables" (some 19) with
  accessFlags := 49
  interfaces := #[]
  cf := some (fileOf pool24 8 #[.nestHost 88] #[{ accessFlags := 1, nameIndex := 5, descriptorIndex := 26, attributes := #[] }, { accessFlags := 1, nameIndex := 11, descriptorIndex := 80, attributes := #[] }, { accessFlags := 1, nameIndex := 15, descriptorIndex := 81, attributes := #[] }, { accessFlags := 1, nameIndex := 19, descriptorIndex := 82, attributes := #[] }] 49 2 #[] #[{ accessFlags := 18, nameIndex := 11, descriptorIndex := 12, attributes := #[] }, { accessFlags := 18, nameIndex := 15, descriptorIndex := 16, attributes := #[] }, { accessFlags := 18, nameIndex := 19, descriptorIndex := 20, attributes := #[] }, { accessFlags := 18, nameIndex := 23, descriptorIndex := 20, attributes := #[] }])
  fields := #[{ name := "knowledge", type := (.object "com/example/brickwork/brickwork/wire/Protocol$Knowledge"), accessFlags := 18, slot := 0, constantValue := 0 }, { name := "directory", type := .long, accessFlags := 18, slot := 1, constantValue := 0 }, { name := "tables", type := (.object "java/util/List"), accessFlags := 18, slot := 2, constantValue := 0 }, { name := "destroyed", type := (.object "java/util/List"), accessFlags := 18, slot := 3, constantValue := 0 }]
  methods := #[k24m0, k24m1, k24m2, k24m3]
  instanceTypes := #[(.object "com/example/brickwork/brickwork/wire/Protocol$Knowledge"), .long, (.object "java/util/List"), (.object "java/util/List")]
  staticTypes := #[]
  resolved := Array.replicate 117 none
  statics := none }

def pool25 : Array CpInfo := pool [(2, .class_ 4), (1, u "java/util/Map"), (0, u "get"), (0, u "(Ljava/lang/Object;)Ljava/lang/Object;"), (29, .class_ 37), (0, u "java/util/Map$Entry"), (55, .class_ 94), (0, u "java/lang/Object")] 168

def k25m0 : Method := { name := "get", desc := "(Ljava/lang/Object;)Ljava/lang/Object;", sig := { parameters := [(.object "java/lang/Object")], returnType := some (.object "java/lang/Object") }, accessFlags := 1025, code := none }
/-- java/util/Map -/
def k25 : Class := { plain "java/util/Map" (some 0) with
  accessFlags := 1537
  interfaces := #[]
  cf := some (fileOf pool25 2 #[.nestMembers #[36]] #[{ accessFlags := 1025, nameIndex := 5, descriptorIndex := 6, attributes := #[] }] 1537 93 #[] #[])
  fields := #[]
  methods := #[k25m0]
  instanceTypes := #[]
  staticTypes := #[]
  resolved := Array.replicate 263 none
  statics := none }

def pool26 : Array CpInfo := pool [(1, .methodref 2 3), (0, .class_ 4), (0, .nameAndType 5 6), (0, u "java/lang/Object"), (0, u "<init>"), (0, u "()V"), (1, .class_ 10), (1, u "java/util/AbstractMap"), (42, .class_ 54), (0, u "java/util/Map"), (9, u "keySet"), (0, u "Ljava/util/Set;"), (0, .class_ 67), (0, u "java/util/AbstractMap$1"), (5, u "values"), (0, u "Ljava/util/Collection;"), (0, .class_ 76), (0, u "java/util/AbstractMap$2"), (104, .class_ 182), (0, u "java/util/AbstractMap$ViewCollection"), (0, .class_ 184), (0, u "java/util/AbstractMap$SimpleImmutableEntry"), (0, .class_ 186), (0, u "java/util/AbstractMap$SimpleEntry"), (0, .class_ 188), (0, u "java/util/AbstractMap$2$1"), (0, .class_ 190), (0, u "java/util/AbstractMap$1$1")] 5

def k26c0 : Code := { maxStack := 1, maxLocals := 1, code := jdk_71_method_1_code, exceptionTable := #[], attributes := #[] }
def k26m0 : Method := { name := "<init>", desc := "()V", sig := { parameters := [], returnType := none }, accessFlags := 4, code := some k26c0 }
/-- java/util/AbstractMap -/
def k26 : Class := { plain "java/util/AbstractMap" (some 0) with
  accessFlags := 1057
  interfaces := #[25]
  cf := some (fileOf pool26 8 #[.nestMembers #[181, 183, 185, 75, 187, 66, 189]] #[{ accessFlags := 4, nameIndex := 5, descriptorIndex := 6, attributes := #[] }] 1057 2 #[53] #[{ accessFlags := 128, nameIndex := 64, descriptorIndex := 65, attributes := #[] }, { accessFlags := 128, nameIndex := 73, descriptorIndex := 74, attributes := #[] }])
  fields := #[{ name := "keySet", type := (.object "java/util/Set"), accessFlags := 128, slot := 0, constantValue := 0 }, { name := "values", type := (.object "java/util/Collection"), accessFlags := 128, slot := 1, constantValue := 0 }]
  methods := #[k26m0]
  instanceTypes := #[(.object "java/util/Set"), (.object "java/util/Collection")]
  staticTypes := #[]
  resolved := Array.replicate 196 none
  statics := none }

def pool27 : Array CpInfo := pool [(1, .methodref 2 3), (0, .class_ 4), (0, .nameAndType 5 6), (0, u "java/lang/Object"), (0, u "hashCode"), (0, u "()I"), (26, u "(Ljava/lang/Object;)I"), (6, .class_ 41), (0, u "java/util/HashMap"), (1, .methodref 44 45), (0, .class_ 46), (0, .nameAndType 47 48), (0, u "java/util/AbstractMap"), (0, u "<init>"), (0, u "()V"), (32, .fieldref 40 82), (0, .nameAndType 83 84), (0, u "loadFactor"), (0, u "F"), (3, .fieldref 40 89), (0, .nameAndType 90 91), (0, u "threshold"), (0, u "I"), (0, .float 1061158912), (8, .class_ 103), (1, u "java/util/Map"), (0, u "size"), (0, .fieldref 40 106), (0, .nameAndType 107 108), (0, u "table"), (0, u "[Ljava/util/HashMap$Node;"), (8, .methodref 40 118), (0, .nameAndType 119 120), (0, u "resize"), (0, u "()[Ljava/util/HashMap$Node;"), (2, u "entrySet"), (15, u "next"), (9, .methodref 40 150), (0, .nameAndType 151 33), (0, u "hash"), (0, .methodref 40 153), (0, .nameAndType 154 155), (0, u "putVal"), (0, u "(ILjava/lang/Object;Ljava/lang/Object;ZZ)Ljava/lang/Object;"), (0, .fieldref 40 157), (0, .nameAndType 104 91), (0, .methodref 40 159), (0, .nameAndType 160 161), (0, u "getNode"), (0, u "(Ljava/lang/Object;)Ljava/util/HashMap$Node;"), (0, .fieldref 163 164), (0, .class_ 165), (0, .nameAndType 166 167), (0, u "java/util/HashMap$Node"), (0, u "value"), (0, u "Ljava/lang/Object;"), (0, .fieldref 163 169), (0, .nameAndType 151 91), (0, .fieldref 163 171), (0, .nameAndType 172 167), (0, u "key"), (0, .methodref 2 174), (0, .nameAndType 175 176), (0, u "equals"), (0, u "(Ljava/lang/Object;)Z"), (0, .fieldref 163 178), (0, .nameAndType 139 179), (0, u "Ljava/util/HashMap$Node;"), (0, .class_ 181), (0, u "java/util/HashMap$TreeNode"), (4, .methodref 40 187), (0, .nameAndType 188 189), (0, u "newNode"), (0, u "(ILjava/lang/Object;Ljava/lang/Object;Ljava/util/HashMap$Node;)Ljava/util/HashMap$Node;"), (12, .fieldref 40 203), (0, .nameAndType 204 91), (0, u "modCount"), (0, .methodref 40 206), (0, .nameAndType 207 208), (0, u "afterNodeInsertion"), (0, u "(Z)V"), (33, u "Ljava/util/Set;"), (0, .class_ 244), (0, u "java/util/HashMap$KeySet"), (18, .class_ 264), (0, u "java/util/HashMap$Values"), (3, .class_ 269), (0, u "java/util/HashMap$EntrySet"), (9, u "(Ljava/lang/Object;)Ljava/lang/Object;"), (7, u "(Ljava/lang/Object;Ljava/lang/Object;)Ljava/lang/Object;"), (46, u "get"), (11, .class_ 348), (1, u "java/util/HashMap$UnsafeHolder"), (26, .methodref 163 376), (0, .nameAndType 47 377), (0, u "(ILjava/lang/Object;Ljava/lang/Object;Ljava/util/HashMap$Node;)V"), (14, .class_ 393), (0, u "java/lang/Cloneable"), (0, .class_ 395), (0, u "java/io/Serializable"), (0, u "serialVersionUID"), (0, u "J"), (3, u "DEFAULT_INITIAL_CAPACITY"), (1, u "MAXIMUM_CAPACITY"), (0, u "DEFAULT_LOAD_FACTOR"), (0, u "TREEIFY_THRESHOLD"), (1, u "UNTREEIFY_THRESHOLD"), (1, u "MIN_TREEIFY_CAPACITY"), (60, u "put"), (125, .class_ 597), (0, u "java/util/HashMap$EntrySpliterator"), (0, .class_ 599), (0, u "java/util/HashMap$ValueSpliterator"), (0, .class_ 601), (0, u "java/util/HashMap$KeySpliterator"), (0, .class_ 603), (0, u "java/util/HashMap$HashMapSpliterator"), (0, .class_ 605), (0, u "java/util/HashMap$EntryIterator"), (0, .class_ 607), (0, u "java/util/HashMap$ValueIterator"), (0, .class_ 609), (0, u "java/util/HashMap$KeyIterator"), (0, .class_ 611), (0, u "java/util/HashMap$HashIterator")] 17

def k27c0 : Code := { maxStack := 3, maxLocals := 2, code := jdk_69_method_1_code, exceptionTable := #[], attributes := #[] }
def k27m0 : Method := { name := "hash", desc := "(Ljava/lang/Object;)I", sig := { parameters := [(.object "java/lang/Object")], returnType := some .int }, accessFlags := 24, code := some k27c0 }
def k27c1 : Code := { maxStack := 2, maxLocals := 1, code := jdk_69_method_7_code, exceptionTable := #[], attributes := #[] }
def k27m1 : Method := { name := "<init>", desc := "()V", sig := { parameters := [], returnType := none }, accessFlags := 1, code := some k27c1 }
def k27c2 : Code := { maxStack := 2, maxLocals := 3, code := jdk_69_method_12_code, exceptionTable := #[], attributes := #[] }
def k27m2 : Method := { name := "get", desc := "(Ljava/lang/Object;)Ljava/lang/Object;", sig := { parameters := [(.object "java/lang/Object")], returnType := some (.object "java/lang/Object") }, accessFlags := 1, code := some k27c2 }
def k27c3 : Code := { maxStack := 4, maxLocals := 8, code := jdk_69_method_13_code, exceptionTable := #[], attributes := #[] }
def k27m3 : Method := { name := "getNode", desc := "(Ljava/lang/Object;)Ljava/util/HashMap$Node;", sig := { parameters := [(.object "java/lang/Object")], returnType := some (.object "java/util/HashMap$Node") }, accessFlags := 16, code := some k27c3 }
def k27c4 : Code := { maxStack := 6, maxLocals := 3, code := jdk_69_method_15_code, exceptionTable := #[], attributes := #[] }
def k27m4 : Method := { name := "put", desc := "(Ljava/lang/Object;Ljava/lang/Object;)Ljava/lang/Object;", sig := { parameters := [(.object "java/lang/Object"), (.object "java/lang/Object")], returnType := some (.object "java/lang/Object") }, accessFlags := 1, code := some k27c4 }
def k27c5 : Code := { maxStack := 7, maxLocals := 13, code := jdk_69_method_16_code, exceptionTable := #[], attributes := #[] }
def k27m5 : Method := { name := "putVal", desc := "(ILjava/lang/Object;Ljava/lang/Object;ZZ)Ljava/lang/Object;", sig := { parameters := [.int, (.object "java/lang/Object"), (.object "java/lang/Object"), .boolean, .boolean], returnType := some (.object "java/lang/Object") }, accessFlags := 16, code := some k27c5 }
def k27c6 : Code := { maxStack := 5, maxLocals := 14, code := jdk_69_method_17_code, exceptionTable := #[], attributes := #[] }
def k27m6 : Method := { name := "resize", desc := "()[Ljava/util/HashMap$Node;", sig := { parameters := [], returnType := some (.array (.object "java/util/HashMap$Node")) }, accessFlags := 16, code := some k27c6 }
def k27c7 : Code := { maxStack := 6, maxLocals := 5, code := jdk_69_method_46_code, exceptionTable := #[], attributes := #[] }
def k27m7 : Method := { name := "newNode", desc := "(ILjava/lang/Object;Ljava/lang/Object;Ljava/util/HashMap$Node;)Ljava/util/HashMap$Node;", sig := { parameters := [.int, (.object "java/lang/Object"), (.object "java/lang/Object"), (.object "java/util/HashMap$Node")], returnType := some (.object "java/util/HashMap$Node") }, accessFlags := 0, code := some k27c7 }
def k27c8 : Code := { maxStack := 0, maxLocals := 2, code := jdk_69_method_52_code, exceptionTable := #[], attributes := #[] }
def k27m8 : Method := { name := "afterNodeInsertion", desc := "(Z)V", sig := { parameters := [.boolean], returnType := none }, accessFlags := 0, code := some k27c8 }
/-- java/util/HashMap -/
def k27 : Class := { plain "java/util/HashMap" (some 26) with
  accessFlags := 33
  interfaces := #[25, 17, 2]
  cf := some (fileOf pool27 40 #[.nestMembers #[180, 596, 598, 600, 602, 604, 606, 608, 610, 346, 268, 263, 243, 163]] #[{ accessFlags := 24, nameIndex := 151, descriptorIndex := 33, attributes := #[] }, { accessFlags := 1, nameIndex := 47, descriptorIndex := 48, attributes := #[] }, { accessFlags := 1, nameIndex := 334, descriptorIndex := 279, attributes := #[] }, { accessFlags := 16, nameIndex := 160, descriptorIndex := 161, attributes := #[] }, { accessFlags := 1, nameIndex := 470, descriptorIndex := 287, attributes := #[] }, { accessFlags := 16, nameIndex := 154, descriptorIndex := 155, attributes := #[] }, { accessFlags := 16, nameIndex := 119, descriptorIndex := 120, attributes := #[] }, { accessFlags := 0, nameIndex := 188, descriptorIndex := 189, attributes := #[] }, { accessFlags := 0, nameIndex := 207, descriptorIndex := 208, attributes := #[] }] 33 44 #[101, 392, 394] #[{ accessFlags := 26, nameIndex := 396, descriptorIndex := 397, attributes := #[] }, { accessFlags := 24, nameIndex := 401, descriptorIndex := 91, attributes := #[] }, { accessFlags := 24, nameIndex := 403, descriptorIndex := 91, attributes := #[] }, { accessFlags := 24, nameIndex := 404, descriptorIndex := 84, attributes := #[] }, { accessFlags := 24, nameIndex := 405, descriptorIndex := 91, attributes := #[] }, { accessFlags := 24, nameIndex := 407, descriptorIndex := 91, attributes := #[] }, { accessFlags := 24, nameIndex := 409, descriptorIndex := 91, attributes := #[] }, { accessFlags := 128, nameIndex := 107, descriptorIndex := 108, attributes := #[] }, { accessFlags := 128, nameIndex := 123, descriptorIndex := 242, attributes := #[] }, { accessFlags := 128, nameIndex := 104, descriptorIndex := 91, attributes := #[] }, { accessFlags := 128, nameIndex := 204, descriptorIndex := 91, attributes := #[] }, { accessFlags := 0, nameIndex := 90, descriptorIndex := 91, attributes := #[] }, { accessFlags := 16, nameIndex := 83, descriptorIndex := 84, attributes := #[] }])
  fields := #[{ name := "serialVersionUID", type := .long, accessFlags := 26, slot := 0, constantValue := 0 }, { name := "DEFAULT_INITIAL_CAPACITY", type := .int, accessFlags := 24, slot := 1, constantValue := 0 }, { name := "MAXIMUM_CAPACITY", type := .int, accessFlags := 24, slot := 2, constantValue := 0 }, { name := "DEFAULT_LOAD_FACTOR", type := .float, accessFlags := 24, slot := 3, constantValue := 0 }, { name := "TREEIFY_THRESHOLD", type := .int, accessFlags := 24, slot := 4, constantValue := 0 }, { name := "UNTREEIFY_THRESHOLD", type := .int, accessFlags := 24, slot := 5, constantValue := 0 }, { name := "MIN_TREEIFY_CAPACITY", type := .int, accessFlags := 24, slot := 6, constantValue := 0 }, { name := "table", type := (.array (.object "java/util/HashMap$Node")), accessFlags := 128, slot := 2, constantValue := 0 }, { name := "entrySet", type := (.object "java/util/Set"), accessFlags := 128, slot := 3, constantValue := 0 }, { name := "size", type := .int, accessFlags := 128, slot := 4, constantValue := 0 }, { name := "modCount", type := .int, accessFlags := 128, slot := 5, constantValue := 0 }, { name := "threshold", type := .int, accessFlags := 0, slot := 6, constantValue := 0 }, { name := "loadFactor", type := .float, accessFlags := 16, slot := 7, constantValue := 0 }]
  methods := #[k27m0, k27m1, k27m2, k27m3, k27m4, k27m5, k27m6, k27m7, k27m8]
  instanceTypes := #[(.object "java/util/Set"), (.object "java/util/Collection"), (.array (.object "java/util/HashMap$Node")), (.object "java/util/Set"), .int, .int, .int, .float]
  staticTypes := #[.long, .int, .int, .float, .int, .int, .int]
  resolved := Array.replicate 629 none
  mirror := some 4
  statics := none }

def pool28 : Array CpInfo := pool [(23, .class_ 25), (1, u "java/util/Map$Entry"), (6, .class_ 34), (1, u "java/util/Map"), (34, .class_ 70), (0, u "java/lang/Object")] 107

/-- java/util/Map$Entry -/
def k28 : Class := { plain "java/util/Map$Entry" (some 0) with
  accessFlags := 1537
  interfaces := #[]
  cf := some (fileOf pool28 23 #[.nestHost 32] #[] 1537 69 #[] #[])
  fields := #[]
  methods := #[]
  instanceTypes := #[]
  staticTypes := #[]
  resolved := Array.replicate 178 none
  statics := none }

def pool29 : Array CpInfo := pool [(1, .methodref 2 3), (0, .class_ 4), (0, .nameAndType 5 6), (0, u "java/lang/Object"), (0, u "<init>"), (0, u "()V"), (0, .fieldref 8 9), (0, .class_ 10), (0, .nameAndType 11 12), (0, u "java/util/HashMap$Node"), (0, u "hash"), (0, u "I"), (0, .fieldref 8 14), (0, .nameAndType 15 16), (0, u "key"), (0, u "Ljava/lang/Object;"), (0, .fieldref 8 18), (0, .nameAndType 19 16), (0, u "value"), (0, .fieldref 8 21), (0, .nameAndType 22 23), (0, u "next"), (0, u "Ljava/util/HashMap$Node;"), (22, .class_ 47), (0, u "java/util/Map$Entry"), (15, u "(ILjava/lang/Object;Ljava/lang/Object;Ljava/util/HashMap$Node;)V"), (24, .class_ 89), (0, u "java/util/HashMap")] 5

def k29c0 : Code := { maxStack := 2, maxLocals := 5, code := jdk_70_method_1_code, exceptionTable := #[], attributes := #[] }
def k29m0 : Method := { name := "<init>", desc := "(ILjava/lang/Object;Ljava/lang/Object;Ljava/util/HashMap$Node;)V", sig := { parameters := [.int, (.object "java/lang/Object"), (.object "java/lang/Object"), (.object "java/util/HashMap$Node")], returnType := none }, accessFlags := 0, code := some k29c0 }
/-- java/util/HashMap$Node -/
def k29 : Class := { plain "java/util/HashMap$Node" (some 0) with
  accessFlags := 32
  interfaces := #[28]
  cf := some (fileOf pool29 8 #[.nestHost 88] #[{ accessFlags := 0, nameIndex := 5, descriptorIndex := 63, attributes := #[] }] 32 2 #[46] #[{ accessFlags := 16, nameIndex := 11, descriptorIndex := 12, attributes := #[] }, { accessFlags := 16, nameIndex := 15, descriptorIndex := 16, attributes := #[] }, { accessFlags := 0, nameIndex := 19, descriptorIndex := 16, attributes := #[] }, { accessFlags := 0, nameIndex := 22, descriptorIndex := 23, attributes := #[] }])
  fields := #[{ name := "hash", type := .int, accessFlags := 16, slot := 0, constantValue := 0 }, { name := "key", type := (.object "java/lang/Object"), accessFlags := 16, slot := 1, constantValue := 0 }, { name := "value", type := (.object "java/lang/Object"), accessFlags := 0, slot := 2, constantValue := 0 }, { name := "next", type := (.object "java/util/HashMap$Node"), accessFlags := 0, slot := 3, constantValue := 0 }]
  methods := #[k29m0]
  instanceTypes := #[.int, (.object "java/lang/Object"), (.object "java/lang/Object"), (.object "java/util/HashMap$Node")]
  staticTypes := #[]
  resolved := Array.replicate 95 none
  statics := none }

def pool30 : Array CpInfo := pool [(1, .methodref 2 3), (0, .class_ 4), (0, .nameAndType 5 6), (0, u "java/lang/Object"), (0, u "<init>"), (0, u "()V"), (0, .methodref 8 9), (0, .class_ 10), (0, .nameAndType 11 12), (0, u "java/util/Collections"), (0, u "unmodifiableMap"), (0, u "(Ljava/util/Map;)Ljava/util/Map;"), (0, .fieldref 14 15), (0, .class_ 16), (0, .nameAndType 17 18), (0, u "com/example/brickwork/brickwork/Catalogue"), (0, u "answers"), (0, u "Ljava/util/Map;"), (1, .class_ 22), (1, u "java/util/Map"), (8, .nameAndType 33 34), (1, u "iterator"), (0, u "()Ljava/util/Iterator;"), (0, .interfaceMethodref 36 37), (0, .class_ 38), (0, .nameAndType 39 40), (0, u "java/util/Iterator"), (0, u "hasNext"), (0, u "()Z"), (0, .interfaceMethodref 36 42), (0, .nameAndType 43 44), (0, u "next"), (0, u "()Ljava/lang/Object;"), (0, .class_ 46), (0, u "com/example/brickwork/brickwork/wire/Protocol$Tables"), (3, u "(Lcom/example/brickwork/brickwork/wire/Protocol$Tables;)Z"), (0, .methodref 14 52), (0, .nameAndType 53 50), (0, u "untold"), (6, u "()Ljava/util/List;"), (0, .interfaceMethodref 62 31), (0, .class_ 63), (0, u "java/util/List"), (0, .class_ 65), (0, u "com/example/brickwork/brickwork/wire/Protocol$Listed"), (0, .methodref 64 67), (0, .nameAndType 68 69), (0, u "name"), (0, u "()Ljava/lang/String;"), (8, .methodref 45 79), (0, .nameAndType 80 60), (0, u "tables"), (27, u "(Ljava/lang/Object;)Z"), (33, u "()J"), (3, .class_ 147), (0, u "java/lang/String"), (9, u "(Ljava/util/Map;)V"), (0, .interfaceMethodref 20 159), (0, .nameAndType 160 161), (0, u "get"), (0, u "(Ljava/lang/Object;)Ljava/lang/Object;"), (0, .methodref 45 163), (0, .nameAndType 164 142), (0, u "directory"), (0, .methodref 14 166), (0, .nameAndType 53 167), (0, u "(Ljava/lang/String;)Z"), (0, .methodref 14 169), (0, .nameAndType 170 171), (0, u "listing"), (0, u "(Ljava/lang/String;Ljava/lang/String;)Lcom/example/brickwork/brickwork/wire/Protocol$Listed;"), (0, .methodref 14 173), (0, .nameAndType 164 174), (0, u "(Ljava/lang/String;)J"), (0, .methodref 14 176), (0, .nameAndType 177 178), (0, u "speaksFor"), (0, u "(JJZ)Z"), (3, .methodref 14 183), (0, .nameAndType 184 185), (0, u "listed"), (0, u "(Ljava/lang/String;)Ljava/util/List;"), (0, .methodref 146 187), (0, .nameAndType 188 108), (0, u "equals"), (25, .methodref 45 215), (0, .nameAndType 216 217), (0, u "knowledge"), (0, u "()Lcom/example/brickwork/brickwork/wire/Protocol$Knowledge;"), (1, .class_ 221), (1, u "com/example/brickwork/brickwork/wire/Protocol$Knowledge"), (1, u "Lcom/example/brickwork/brickwork/wire/Protocol$Knowledge;"), (3, .fieldref 219 228), (0, .nameAndType 229 223), (0, u "UNTOLD"), (49, u "(Ljava/lang/String;Ljava/lang/String;J)Z")] 41

def k30c0 : Code := { maxStack := 2, maxLocals := 2, code := prog_19_method_1_code, exceptionTable := #[], attributes := #[] }
def k30m0 : Method := { name := "<init>", desc := "(Ljava/util/Map;)V", sig := { parameters := [(.object "java/util/Map")], returnType := none }, accessFlags := 1, code := some k30c0 }
def k30c1 : Code := { maxStack := 2, maxLocals := 2, code := prog_19_method_12_code, exceptionTable := #[], attributes := #[] }
def k30m1 : Method := { name := "untold", desc := "(Ljava/lang/String;)Z", sig := { parameters := [(.object "java/lang/String")], returnType := some .boolean }, accessFlags := 1, code := some k30c1 }
def k30c2 : Code := { maxStack := 2, maxLocals := 3, code := prog_19_method_13_code, exceptionTable := #[], attributes := #[] }
def k30m2 : Method := { name := "directory", desc := "(Ljava/lang/String;)J", sig := { parameters := [(.object "java/lang/String")], returnType := some .long }, accessFlags := 1, code := some k30c2 }
def k30c3 : Code := { maxStack := 5, maxLocals := 6, code := prog_19_method_14_code, exceptionTable := #[], attributes := #[] }
def k30m3 : Method := { name := "speaksFor", desc := "(Ljava/lang/String;Ljava/lang/String;J)Z", sig := { parameters := [(.object "java/lang/String"), (.object "java/lang/String"), .long], returnType := some .boolean }, accessFlags := 1, code := some k30c3 }
def k30c4 : Code := { maxStack := 4, maxLocals := 6, code := prog_19_method_15_code, exceptionTable := #[], attributes := #[] }
def k30m4 : Method := { name := "speaksFor", desc := "(JJZ)Z", sig := { parameters := [.long, .long, .boolean], returnType := some .boolean }, accessFlags := 9, code := some k30c4 }
def k30c5 : Code := { maxStack := 2, maxLocals := 3, code := prog_19_method_16_code, exceptionTable := #[], attributes := #[] }
def k30m5 : Method := { name := "listed", desc := "(Ljava/lang/String;)Ljava/util/List;", sig := { parameters := [(.object "java/lang/String")], returnType := some (.object "java/util/List") }, accessFlags := 1, code := some k30c5 }
def k30c6 : Code := { maxStack := 2, maxLocals := 5, code := prog_19_method_17_code, exceptionTable := #[], attributes := #[] }
def k30m6 : Method := { name := "listing", desc := "(Ljava/lang/String;Ljava/lang/String;)Lcom/example/brickwork/brickwork/wire/Protocol$Listed;", sig := { parameters := [(.object "java/lang/String"), (.object "java/lang/String")], returnType := some (.object "com/example/brickwork/brickwork/wire/Protocol$Listed") }, accessFlags := 1, code := some k30c6 }
def k30c7 : Code := { maxStack := 2, maxLocals := 1, code := prog_19_method_23_code, exceptionTable := #[], attributes := #[] }
def k30m7 : Method := { name := "untold", desc := "(Lcom/example/brickwork/brickwork/wire/Protocol$Tables;)Z", sig := { parameters := [(.object "com/example/brickwork/brickwork/wire/Protocol$Tables")], returnType := some .boolean }, accessFlags := 10, code := some k30c7 }
/-- com/example/brickwork/brickwork/Catalogue -/
def k30 : Class := { plain "com/example/brickwork/brickwork/Catalogue" (some 0) with
  accessFlags := 49
  interfaces := #[]
  cf := some (fileOf pool30 14 #[] #[{ accessFlags := 1, nameIndex := 5, descriptorIndex := 157, attributes := #[] }, { accessFlags := 1, nameIndex := 53, descriptorIndex := 167, attributes := #[] }, { accessFlags := 1, nameIndex := 164, descriptorIndex := 174, attributes := #[] }, { accessFlags := 1, nameIndex := 177, descriptorIndex := 279, attributes := #[] }, { accessFlags := 9, nameIndex := 177, descriptorIndex := 178, attributes := #[] }, { accessFlags := 1, nameIndex := 184, descriptorIndex := 185, attributes := #[] }, { accessFlags := 1, nameIndex := 170, descriptorIndex := 171, attributes := #[] }, { accessFlags := 10, nameIndex := 53, descriptorIndex := 50, attributes := #[] }] 49 2 #[] #[{ accessFlags := 18, nameIndex := 17, descriptorIndex := 18, attributes := #[] }])
  fields := #[{ name := "answers", type := (.object "java/util/Map"), accessFlags := 18, slot := 0, constantValue := 0 }]
  methods := #[k30m0, k30m1, k30m2, k30m3, k30m4, k30m5, k30m6, k30m7]
  instanceTypes := #[(.object "java/util/Map")]
  staticTypes := #[]
  resolved := Array.replicate 321 none
  statics := none }

def pool31 : Array CpInfo := pool [(2, .class_ 4), (1, u "java/lang/Object"), (0, u "<init>"), (0, u "()V"), (12, .class_ 20), (0, u "java/util/Collections"), (63, u "r"), (0, u "Ljava/util/Random;"), (77, .nameAndType 164 165), (0, u "getClass"), (0, u "()Ljava/lang/Class;"), (0, .class_ 167), (0, u "java/util/Collections$UnmodifiableCollection"), (6, .class_ 175), (0, u "java/util/Collections$UnmodifiableSequencedCollection"), (6, .class_ 183), (0, u "java/util/Collections$UnmodifiableSet"), (6, .class_ 191), (0, u "java/util/Collections$UnmodifiableSequencedSet"), (6, .class_ 199), (0, u "java/util/Collections$UnmodifiableSortedSet"), (6, .class_ 207), (0, u "java/util/Collections$UnmodifiableNavigableSet"), (4, .class_ 213), (0, u "java/util/Collections$UnmodifiableList"), (1, .class_ 216), (0, u "java/util/Collections$UnmodifiableRandomAccessList"), (3, .interfaceMethodref 221 163), (0, .class_ 222), (0, u "java/util/Map"), (0, .class_ 224), (0, u "java/util/Collections$UnmodifiableMap"), (0, .methodref 223 226), (0, .nameAndType 5 227), (0, u "(Ljava/util/Map;)V"), (3, .class_ 232), (0, u "java/util/Collections$UnmodifiableSequencedMap"), (4, .class_ 238), (0, u "java/util/Collections$UnmodifiableSortedMap"), (6, .class_ 246), (0, u "java/util/Collections$UnmodifiableNavigableMap"), (3, .class_ 251), (0, u "java/util/Collections$SynchronizedCollection"), (4, .class_ 257), (0, u "java/util/Collections$SynchronizedSet"), (4, .class_ 263), (0, u "java/util/Collections$SynchronizedSortedSet"), (1, .class_ 266), (0, u "java/util/Collections$SynchronizedNavigableSet"), (1, .class_ 269), (0, u "java/util/Collections$SynchronizedRandomAccessList"), (1, .class_ 272), (0, u "java/util/Collections$SynchronizedList"), (5, .class_ 279), (0, u "java/util/Collections$SynchronizedMap"), (1, .class_ 282), (0, u "java/util/Collections$SynchronizedSortedMap"), (1, .class_ 285), (0, u "java/util/Collections$SynchronizedNavigableMap"), (1, .class_ 288), (0, u "java/util/Collections$CheckedCollection"), (11, .class_ 301), (0, u "java/util/Collections$CheckedQueue"), (3, .class_ 306), (0, u "java/util/Collections$CheckedSet"), (3, .class_ 311), (0, u "java/util/Collections$CheckedSortedSet"), (3, .class_ 316), (0, u "java/util/Collections$CheckedNavigableSet"), (3, .class_ 321), (0, u "java/util/Collections$CheckedRandomAccessList"), (3, .class_ 326), (0, u "java/util/Collections$CheckedList"), (1, .class_ 329), (0, u "java/util/Collections$CheckedMap"), (3, .class_ 334), (0, u "java/util/Collections$CheckedSortedMap"), (3, .class_ 339), (0, u "java/util/Collections$CheckedNavigableMap"), (4, .class_ 346), (1, u "java/util/Collections$EmptyIterator"), (3, .class_ 352), (1, u "java/util/Collections$EmptyListIterator"), (2, .class_ 357), (1, u "java/util/Collections$EmptyEnumeration"), (4, u "EMPTY_SET"), (0, u "Ljava/util/Set;"), (6, u "EMPTY_LIST"), (0, u "Ljava/util/List;"), (2, u "EMPTY_MAP"), (0, u "Ljava/util/Map;"), (4, .class_ 381), (0, u "java/util/Collections$SingletonSet"), (2, .class_ 385), (0, u "java/util/Collections$1"), (1, .class_ 388), (0, u "java/util/Collections$2"), (1, .class_ 391), (0, u "java/util/Collections$SingletonList"), (1, .class_ 394), (0, u "java/util/Collections$SingletonMap"), (22, .class_ 418), (0, u "java/util/Collections$CopiesList"), (4, .class_ 425), (1, u "java/util/Collections$ReverseComparator"), (8, .class_ 435), (0, u "java/util/Collections$ReverseComparator2"), (6, .class_ 443), (0, u "java/util/Collections$3"), (25, .class_ 470), (0, u "java/util/Collections$SetFromMap"), (2, .class_ 474), (0, u "java/util/Collections$SequencedSetFromMap"), (3, .class_ 479), (0, u "java/util/Collections$AsLIFOQueue"), (11, .class_ 492), (0, u "java/util/Collections$EmptySet"), (1, .class_ 495), (0, u "java/util/Collections$EmptyList"), (1, .class_ 498), (0, u "java/util/Collections$EmptyMap"), (1, u "BINARYSEARCH_THRESHOLD"), (0, u "I"), (2, u "REVERSE_THRESHOLD"), (1, u "SHUFFLE_THRESHOLD"), (1, u "FILL_THRESHOLD"), (1, u "ROTATE_THRESHOLD"), (1, u "COPY_THRESHOLD"), (1, u "REPLACEALL_THRESHOLD"), (1, u "INDEXOFSUBLIST_THRESHOLD"), (132, u "unmodifiableMap"), (0, u "(Ljava/util/Map;)Ljava/util/Map;"), (199, .class_ 851), (0, u "java/util/Collections$CheckedMap$CheckedEntrySet"), (0, .class_ 853), (0, u "java/util/Collections$CheckedMap$CheckedEntrySet$CheckedEntry"), (0, .class_ 855), (0, u "java/util/Collections$CheckedMap$CheckedEntrySet$1"), (0, .class_ 857), (0, u "java/util/Collections$CheckedList$1"), (0, .class_ 859), (0, u "java/util/Collections$CheckedCollection$1"), (0, .class_ 861), (0, u "java/util/Collections$UnmodifiableNavigableMap$EmptyNavigableMap"), (0, .class_ 863), (0, u "java/util/Collections$UnmodifiableMap$UnmodifiableEntrySet"), (0, .class_ 865), (0, u "java/util/Collections$UnmodifiableMap$UnmodifiableEntrySet$UnmodifiableEntry"), (0, .class_ 867), (0, u "java/util/Collections$UnmodifiableMap$UnmodifiableEntrySet$UnmodifiableEntrySetSpliterator"), (0, .class_ 869), (0, u "java/util/Collections$UnmodifiableMap$UnmodifiableEntrySet$1"), (0, .class_ 871), (0, u "java/util/Collections$UnmodifiableList$1"), (0, .class_ 873), (0, u "java/util/Collections$UnmodifiableNavigableSet$EmptyNavigableSet"), (0, .class_ 875), (0, u "java/util/Collections$UnmodifiableCollection$1")] 57

def k31m0 : Method := { name := "<init>", desc := "()V", sig := { parameters := [], returnType := none }, accessFlags := 2, code := none }
def k31c1 : Code := { maxStack := 3, maxLocals := 1, code := jdk_79_method_36_code, exceptionTable := #[], attributes := #[] }
def k31m1 : Method := { name := "unmodifiableMap", desc := "(Ljava/util/Map;)Ljava/util/Map;", sig := { parameters := [(.object "java/util/Map")], returnType := some (.object "java/util/Map") }, accessFlags := 9, code := some k31c1 }
/-- java/util/Collections -/
def k31 : Class := { plain "java/util/Collections" (some 0) with
  accessFlags := 33
  interfaces := #[]
  cf := some (fileOf pool31 19 #[.nestMembers #[478, 473, 469, 434, 423, 417, 393, 390, 380, 497, 494, 491, 355, 350, 344, 338, 333, 328, 850, 852, 854, 320, 325, 856, 315, 310, 305, 300, 287, 858, 284, 281, 278, 268, 271, 265, 262, 256, 250, 245, 860, 237, 231, 223, 862, 864, 866, 868, 215, 212, 870, 206, 872, 198, 190, 182, 174, 166, 874, 442, 387, 384]] #[{ accessFlags := 2, nameIndex := 5, descriptorIndex := 6, attributes := #[] }, { accessFlags := 9, nameIndex := 649, descriptorIndex := 650, attributes := #[] }] 33 2 #[] #[{ accessFlags := 26, nameIndex := 500, descriptorIndex := 501, attributes := #[] }, { accessFlags := 26, nameIndex := 504, descriptorIndex := 501, attributes := #[] }, { accessFlags := 26, nameIndex := 506, descriptorIndex := 501, attributes := #[] }, { accessFlags := 26, nameIndex := 508, descriptorIndex := 501, attributes := #[] }, { accessFlags := 26, nameIndex := 510, descriptorIndex := 501, attributes := #[] }, { accessFlags := 26, nameIndex := 512, descriptorIndex := 501, attributes := #[] }, { accessFlags := 26, nameIndex := 514, descriptorIndex := 501, attributes := #[] }, { accessFlags := 26, nameIndex := 516, descriptorIndex := 501, attributes := #[] }, { accessFlags := 10, nameIndex := 84, descriptorIndex := 85, attributes := #[] }, { accessFlags := 25, nameIndex := 362, descriptorIndex := 363, attributes := #[] }, { accessFlags := 25, nameIndex := 370, descriptorIndex := 371, attributes := #[] }, { accessFlags := 25, nameIndex := 374, descriptorIndex := 375, attributes := #[] }])
  fields := #[{ name := "BINARYSEARCH_THRESHOLD", type := .int, accessFlags := 26, slot := 0, constantValue := 0 }, { name := "REVERSE_THRESHOLD", type := .int, accessFlags := 26, slot := 1, constantValue := 0 }, { name := "SHUFFLE_THRESHOLD", type := .int, accessFlags := 26, slot := 2, constantValue := 0 }, { name := "FILL_THRESHOLD", type := .int, accessFlags := 26, slot := 3, constantValue := 0 }, { name := "ROTATE_THRESHOLD", type := .int, accessFlags := 26, slot := 4, constantValue := 0 }, { name := "COPY_THRESHOLD", type := .int, accessFlags := 26, slot := 5, constantValue := 0 }, { name := "REPLACEALL_THRESHOLD", type := .int, accessFlags := 26, slot := 6, constantValue := 0 }, { name := "INDEXOFSUBLIST_THRESHOLD", type := .int, accessFlags := 26, slot := 7, constantValue := 0 }, { name := "r", type := (.object "java/util/Random"), accessFlags := 10, slot := 8, constantValue := 0 }, { name := "EMPTY_SET", type := (.object "java/util/Set"), accessFlags := 25, slot := 9, constantValue := 0 }, { name := "EMPTY_LIST", type := (.object "java/util/List"), accessFlags := 25, slot := 10, constantValue := 0 }, { name := "EMPTY_MAP", type := (.object "java/util/Map"), accessFlags := 25, slot := 11, constantValue := 0 }]
  methods := #[k31m0, k31m1]
  instanceTypes := #[]
  staticTypes := #[.int, .int, .int, .int, .int, .int, .int, .int, (.object "java/util/Random"), (.object "java/util/Set"), (.object "java/util/List"), (.object "java/util/Map")]
  resolved := Array.replicate 933 none
  statics := none }

def pool32 : Array CpInfo := pool [(1, .methodref 2 3), (0, .class_ 4), (0, .nameAndType 5 6), (0, u "java/lang/Object"), (0, u "<init>"), (0, u "()V"), (3, .fieldref 11 12), (0, .class_ 13), (0, .nameAndType 14 15), (0, u "java/util/Collections$UnmodifiableMap"), (0, u "m"), (0, u "Ljava/util/Map;"), (1, .class_ 19), (1, u "java/util/Map"), (13, .interfaceMethodref 17 34), (0, .nameAndType 35 36), (0, u "get"), (0, u "(Ljava/lang/Object;)Ljava/lang/Object;"), (5, u "keySet"), (0, u "Ljava/util/Set;"), (4, .class_ 50), (1, u "java/util/Collections"), (4, u "entrySet"), (9, u "values"), (0, u "Ljava/util/Collection;"), (25, .class_ 93), (0, u "java/io/Serializable"), (0, u "serialVersionUID"), (0, u "J"), (8, u "(Ljava/util/Map;)V")] 70

def k32c0 : Code := { maxStack := 2, maxLocals := 2, code := jdk_2500_method_1_code, exceptionTable := #[], attributes := #[] }
def k32m0 : Method := { name := "<init>", desc := "(Ljava/util/Map;)V", sig := { parameters := [(.object "java/util/Map")], returnType := none }, accessFlags := 0, code := some k32c0 }
def k32c1 : Code := { maxStack := 2, maxLocals := 2, code := jdk_2500_method_6_code, exceptionTable := #[], attributes := #[] }
def k32m1 : Method := { name := "get", desc := "(Ljava/lang/Object;)Ljava/lang/Object;", sig := { parameters := [(.object "java/lang/Object")], returnType := some (.object "java/lang/Object") }, accessFlags := 1, code := some k32c1 }
/-- java/util/Collections$UnmodifiableMap -/
def k32 : Class := { plain "java/util/Collections$UnmodifiableMap" (some 0) with
  accessFlags := 32
  interfaces := #[25, 2]
  cf := some (fileOf pool32 11 #[.nestHost 48] #[{ accessFlags := 0, nameIndex := 5, descriptorIndex := 104, attributes := #[] }, { accessFlags := 1, nameIndex := 35, descriptorIndex := 36, attributes := #[] }] 32 2 #[17, 92] #[{ accessFlags := 26, nameIndex := 94, descriptorIndex := 95, attributes := #[] }, { accessFlags := 16, nameIndex := 14, descriptorIndex := 15, attributes := #[] }, { accessFlags := 130, nameIndex := 42, descriptorIndex := 43, attributes := #[] }, { accessFlags := 130, nameIndex := 55, descriptorIndex := 43, attributes := #[] }, { accessFlags := 130, nameIndex := 65, descriptorIndex := 66, attributes := #[] }])
  fields := #[{ name := "serialVersionUID", type := .long, accessFlags := 26, slot := 0, constantValue := 0 }, { name := "m", type := (.object "java/util/Map"), accessFlags := 16, slot := 0, constantValue := 0 }, { name := "keySet", type := (.object "java/util/Set"), accessFlags := 130, slot := 1, constantValue := 0 }, { name := "entrySet", type := (.object "java/util/Set"), accessFlags := 130, slot := 2, constantValue := 0 }, { name := "values", type := (.object "java/util/Collection"), accessFlags := 130, slot := 3, constantValue := 0 }]
  methods := #[k32m0, k32m1]
  instanceTypes := #[(.object "java/util/Map"), (.object "java/util/Set"), (.object "java/util/Set"), (.object "java/util/Collection")]
  staticTypes := #[.long]
  resolved := Array.replicate 175 none
  mirror := some 5
  statics := none }

def pool33 : Array CpInfo := pool [(16, .class_ 18), (1, u "java/util/Iterator"), (0, u "hasNext"), (0, u "()Z"), (2, u "next"), (0, u "()Ljava/lang/Object;"), (6, .class_ 32), (0, u "java/lang/Object")] 20

def k33m0 : Method := { name := "hasNext", desc := "()Z", sig := { parameters := [], returnType := some .boolean }, accessFlags := 1025, code := none }
def k33m1 : Method := { name := "next", desc := "()Ljava/lang/Object;", sig := { parameters := [], returnType := some (.object "java/lang/Object") }, accessFlags := 1025, code := none }
/-- java/util/Iterator -/
def k33 : Class := { plain "java/util/Iterator" (some 0) with
  accessFlags := 1537
  interfaces := #[]
  cf := some (fileOf pool33 16 #[] #[{ accessFlags := 1025, nameIndex := 19, descriptorIndex := 20, attributes := #[] }, { accessFlags := 1025, nameIndex := 23, descriptorIndex := 24, attributes := #[] }] 1537 31 #[] #[])
  fields := #[]
  methods := #[k33m0, k33m1]
  instanceTypes := #[]
  staticTypes := #[]
  resolved := Array.replicate 53 none
  statics := none }

def pool34 : Array CpInfo := pool [(1, .fieldref 2 3), (0, .class_ 4), (0, .nameAndType 5 6), (0, u "java/util/ArrayList$Itr"), (0, u "this$0"), (0, u "Ljava/util/ArrayList;"), (0, .methodref 8 9), (0, .class_ 10), (0, .nameAndType 11 12), (0, u "java/lang/Object"), (0, u "<init>"), (0, u "()V"), (0, .fieldref 2 14), (0, .nameAndType 15 16), (0, u "lastRet"), (0, u "I"), (0, .fieldref 18 19), (0, .class_ 20), (0, .nameAndType 21 16), (0, u "java/util/ArrayList"), (0, u "modCount"), (0, .fieldref 2 23), (0, .nameAndType 24 16), (0, u "expectedModCount"), (0, .fieldref 2 26), (0, .nameAndType 27 16), (0, u "cursor"), (0, .fieldref 18 29), (0, .nameAndType 30 16), (0, u "size"), (0, .methodref 2 32), (0, .nameAndType 33 12), (0, u "checkForComodification"), (3, .fieldref 18 38), (0, .nameAndType 39 40), (0, u "elementData"), (0, u "[Ljava/lang/Object;"), (28, .class_ 70), (0, u "java/util/Iterator"), (0, u "(Ljava/util/ArrayList;)V"), (8, u "hasNext"), (0, u "()Z"), (1, u "next"), (0, u "()Ljava/lang/Object;")] 19

def k34c0 : Code := { maxStack := 2, maxLocals := 2, code := jdk_49_method_1_code, exceptionTable := #[], attributes := #[] }
def k34m0 : Method := { name := "<init>", desc := "(Ljava/util/ArrayList;)V", sig := { parameters := [(.object "java/util/ArrayList")], returnType := none }, accessFlags := 0, code := some k34c0 }
def k34c1 : Code := { maxStack := 2, maxLocals := 1, code := jdk_49_method_2_code, exceptionTable := #[], attributes := #[] }
def k34m1 : Method := { name := "hasNext", desc := "()Z", sig := { parameters := [], returnType := some .boolean }, accessFlags := 1, code := some k34c1 }
def k34c2 : Code := { maxStack := 4, maxLocals := 3, code := jdk_49_method_3_code, exceptionTable := #[], attributes := #[] }
def k34m2 : Method := { name := "next", desc := "()Ljava/lang/Object;", sig := { parameters := [], returnType := some (.object "java/lang/Object") }, accessFlags := 1, code := some k34c2 }
def k34c3 : Code := { maxStack := 2, maxLocals := 1, code := jdk_49_method_6_code, exceptionTable := #[], attributes := #[] }
def k34m3 : Method := { name := "checkForComodification", desc := "()V", sig := { parameters := [], returnType := none }, accessFlags := 16, code := some k34c3 }
/-- java/util/ArrayList$Itr -/
def k34 : Class := { plain "java/util/ArrayList$Itr" (some 0) with
  accessFlags := 32
  interfaces := #[33]
  cf := some (fileOf pool34 2 #[.nestHost 18] #[{ accessFlags := 0, nameIndex := 11, descriptorIndex := 71, attributes := #[] }, { accessFlags := 1, nameIndex := 80, descriptorIndex := 81, attributes := #[] }, { accessFlags := 1, nameIndex := 83, descriptorIndex := 84, attributes := #[] }, { accessFlags := 16, nameIndex := 33, descriptorIndex := 12, attributes := #[] }] 32 8 #[69] #[{ accessFlags := 0, nameIndex := 27, descriptorIndex := 16, attributes := #[] }, { accessFlags := 0, nameIndex := 15, descriptorIndex := 16, attributes := #[] }, { accessFlags := 0, nameIndex := 24, descriptorIndex := 16, attributes := #[] }, { accessFlags := 4112, nameIndex := 5, descriptorIndex := 6, attributes := #[] }])
  fields := #[{ name := "cursor", type := .int, accessFlags := 0, slot := 0, constantValue := 0 }, { name := "lastRet", type := .int, accessFlags := 0, slot := 1, constantValue := 0 }, { name := "expectedModCount", type := .int, accessFlags := 0, slot := 2, constantValue := 0 }, { name := "this$0", type := (.object "java/util/ArrayList"), accessFlags := 4112, slot := 3, constantValue := 0 }]
  methods := #[k34m0, k34m1, k34m2, k34m3]
  instanceTypes := #[.int, .int, .int, (.object "java/util/ArrayList")]
  staticTypes := #[]
  resolved := Array.replicate 104 none
  statics := none }

def pool35 : Array CpInfo := pool [(2, .class_ 4), (1, u "java/lang/Object"), (0, u "<init>"), (0, u "()V"), (17, .class_ 26), (1, u "jdk/internal/util/Preconditions"), (28, .class_ 56), (0, u "jdk/internal/util/Preconditions$4"), (57, .class_ 115), (0, u "jdk/internal/util/Preconditions$1"), (7, u "SIOOBE_FORMATTER"), (0, u "Ljava/util/function/BiFunction;"), (0, .class_ 126), (0, u "jdk/internal/util/Preconditions$2"), (3, u "AIOOBE_FORMATTER"), (0, .class_ 132), (0, u "jdk/internal/util/Preconditions$3"), (3, u "IOOBE_FORMATTER")] 57

def k35m0 : Method := { name := "<init>", desc := "()V", sig := { parameters := [], returnType := none }, accessFlags := 1, code := none }
/-- jdk/internal/util/Preconditions -/
def k35 : Class := { plain "jdk/internal/util/Preconditions" (some 0) with
  accessFlags := 33
  interfaces := #[]
  cf := some (fileOf pool35 24 #[.nestMembers #[55, 131, 125, 114]] #[{ accessFlags := 1, nameIndex := 5, descriptorIndex := 6, attributes := #[] }] 33 2 #[] #[{ accessFlags := 25, nameIndex := 123, descriptorIndex := 124, attributes := #[] }, { accessFlags := 25, nameIndex := 130, descriptorIndex := 124, attributes := #[] }, { accessFlags := 25, nameIndex := 136, descriptorIndex := 124, attributes := #[] }])
  fields := #[{ name := "SIOOBE_FORMATTER", type := (.object "java/util/function/BiFunction"), accessFlags := 25, slot := 0, constantValue := 0 }, { name := "AIOOBE_FORMATTER", type := (.object "java/util/function/BiFunction"), accessFlags := 25, slot := 1, constantValue := 0 }, { name := "IOOBE_FORMATTER", type := (.object "java/util/function/BiFunction"), accessFlags := 25, slot := 2, constantValue := 0 }]
  methods := #[k35m0]
  instanceTypes := #[]
  staticTypes := #[(.object "java/util/function/BiFunction"), (.object "java/util/function/BiFunction"), (.object "java/util/function/BiFunction")]
  resolved := Array.replicate 194 none
  statics := some 3 }

def pool36 : Array CpInfo := pool [(9, u "<init>"), (6, .class_ 18), (1, u "java/lang/Object"), (0, u "()V"), (1, .class_ 23), (1, u "jdk/internal/util/ArraysSupport"), (0, u "LOG2_ARRAY_LONG_INDEX_SCALE"), (0, u "I"), (2, u "U"), (0, u "Ljdk/internal/misc/Unsafe;"), (8, u "BIG_ENDIAN"), (0, u "Z"), (8, u "LOG2_BYTE_BIT_SIZE"), (4, u "LOG2_ARRAY_INT_INDEX_SCALE"), (54, u "JLA"), (0, u "Ljdk/internal/access/JavaLangAccess;"), (11, u "LOG2_ARRAY_BOOLEAN_INDEX_SCALE"), (9, u "LOG2_ARRAY_BYTE_INDEX_SCALE"), (5, u "LOG2_ARRAY_CHAR_INDEX_SCALE"), (5, u "LOG2_ARRAY_SHORT_INDEX_SCALE"), (18, u "LOG2_ARRAY_FLOAT_INDEX_SCALE"), (24, u "LOG2_ARRAY_DOUBLE_INDEX_SCALE"), (89, u "T_BOOLEAN"), (2, u "T_CHAR"), (1, u "T_FLOAT"), (1, u "T_DOUBLE"), (1, u "T_BYTE"), (1, u "T_SHORT"), (1, u "T_INT"), (1, u "T_LONG"), (1, u "SOFT_MAX_ARRAY_LENGTH")] 83

def k36m0 : Method := { name := "<init>", desc := "()V", sig := { parameters := [], returnType := none }, accessFlags := 2, code := none }
/-- jdk/internal/util/ArraysSupport -/
def k36 : Class := { plain "jdk/internal/util/ArraysSupport" (some 0) with
  accessFlags := 33
  interfaces := #[]
  cf := some (fileOf pool36 21 #[] #[{ accessFlags := 2, nameIndex := 9, descriptorIndex := 19, attributes := #[] }] 33 16 #[] #[{ accessFlags := 24, nameIndex := 28, descriptorIndex := 29, attributes := #[] }, { accessFlags := 26, nameIndex := 38, descriptorIndex := 39, attributes := #[] }, { accessFlags := 25, nameIndex := 121, descriptorIndex := 25, attributes := #[] }, { accessFlags := 25, nameIndex := 131, descriptorIndex := 25, attributes := #[] }, { accessFlags := 25, nameIndex := 137, descriptorIndex := 25, attributes := #[] }, { accessFlags := 25, nameIndex := 143, descriptorIndex := 25, attributes := #[] }, { accessFlags := 25, nameIndex := 53, descriptorIndex := 25, attributes := #[] }, { accessFlags := 25, nameIndex := 24, descriptorIndex := 25, attributes := #[] }, { accessFlags := 25, nameIndex := 162, descriptorIndex := 25, attributes := #[] }, { accessFlags := 25, nameIndex := 187, descriptorIndex := 25, attributes := #[] }, { accessFlags := 26, nameIndex := 48, descriptorIndex := 25, attributes := #[] }, { accessFlags := 25, nameIndex := 277, descriptorIndex := 25, attributes := #[] }, { accessFlags := 25, nameIndex := 280, descriptorIndex := 25, attributes := #[] }, { accessFlags := 25, nameIndex := 282, descriptorIndex := 25, attributes := #[] }, { accessFlags := 25, nameIndex := 284, descriptorIndex := 25, attributes := #[] }, { accessFlags := 25, nameIndex := 286, descriptorIndex := 25, attributes := #[] }, { accessFlags := 25, nameIndex := 288, descriptorIndex := 25, attributes := #[] }, { accessFlags := 25, nameIndex := 290, descriptorIndex := 25, attributes := #[] }, { accessFlags := 25, nameIndex := 292, descriptorIndex := 25, attributes := #[] }, { accessFlags := 26, nameIndex := 108, descriptorIndex := 109, attributes := #[] }, { accessFlags := 25, nameIndex := 294, descriptorIndex := 25, attributes := #[] }])
  fields := #[{ name := "U", type := (.object "jdk/internal/misc/Unsafe"), accessFlags := 24, slot := 0, constantValue := 0 }, { name := "BIG_ENDIAN", type := .boolean, accessFlags := 26, slot := 1, constantValue := 0 }, { name := "LOG2_ARRAY_BOOLEAN_INDEX_SCALE", type := .int, accessFlags := 25, slot := 2, constantValue := 0 }, { name := "LOG2_ARRAY_BYTE_INDEX_SCALE", type := .int, accessFlags := 25, slot := 3, constantValue := 0 }, { name := "LOG2_ARRAY_CHAR_INDEX_SCALE", type := .int, accessFlags := 25, slot := 4, constantValue := 0 }, { name := "LOG2_ARRAY_SHORT_INDEX_SCALE", type := .int, accessFlags := 25, slot := 5, constantValue := 0 }, { name := "LOG2_ARRAY_INT_INDEX_SCALE", type := .int, accessFlags := 25, slot := 6, constantValue := 0 }, { name := "LOG2_ARRAY_LONG_INDEX_SCALE", type := .int, accessFlags := 25, slot := 7, constantValue := 0 }, { name := "LOG2_ARRAY_FLOAT_INDEX_SCALE", type := .int, accessFlags := 25, slot := 8, constantValue := 0 }, { name := "LOG2_ARRAY_DOUBLE_INDEX_SCALE", type := .int, accessFlags := 25, slot := 9, constantValue := 0 }, { name := "LOG2_BYTE_BIT_SIZE", type := .int, accessFlags := 26, slot := 10, constantValue := 0 }, { name := "T_BOOLEAN", type := .int, accessFlags := 25, slot := 11, constantValue := 0 }, { name := "T_CHAR", type := .int, accessFlags := 25, slot := 12, constantValue := 0 }, { name := "T_FLOAT", type := .int, accessFlags := 25, slot := 13, constantValue := 0 }, { name := "T_DOUBLE", type := .int, accessFlags := 25, slot := 14, constantValue := 0 }, { name := "T_BYTE", type := .int, accessFlags := 25, slot := 15, constantValue := 0 }, { name := "T_SHORT", type := .int, accessFlags := 25, slot := 16, constantValue := 0 }, { name := "T_INT", type := .int, accessFlags := 25, slot := 17, constantValue := 0 }, { name := "T_LONG", type := .int, accessFlags := 25, slot := 18, constantValue := 0 }, { name := "JLA", type := (.object "jdk/internal/access/JavaLangAccess"), accessFlags := 26, slot := 19, constantValue := 0 }, { name := "SOFT_MAX_ARRAY_LENGTH", type := .int, accessFlags := 25, slot := 20, constantValue := 0 }]
  methods := #[k36m0]
  instanceTypes := #[]
  staticTypes := #[(.object "jdk/internal/misc/Unsafe"), .boolean, .int, .int, .int, .int, .int, .int, .int, .int, .int, .int, .int, .int, .int, .int, .int, .int, .int, (.object "jdk/internal/access/JavaLangAccess"), .int]
  resolved := Array.replicate 378 none
  statics := none }

def pool37 : Array CpInfo := pool [(1, .class_ 2), (0, u "java/lang/Class"), (0, .class_ 4), (0, u "java/lang/Object")] 0

/-- java/lang/Class -/
def k37 : Class := { plain "java/lang/Class" (some 0) with
  accessFlags := 49
  interfaces := #[]
  cf := some (fileOf pool37 1 #[] #[] 49 3 #[] #[])
  fields := #[]
  methods := #[]
  instanceTypes := #[]
  staticTypes := #[]
  resolved := Array.replicate 5 none
  statics := none }

/-- the primitive byte -/
def k38 : Class := { plain "byte" none with kind := .primitive 'B', accessFlags := 0x411 }
/-- [B -/
def k39 : Class := { plain "[B" (some 0) with kind := .array 38 .byte, interfaces := #[17, 2], accessFlags := 1041 }

/-- the primitive char -/
def k40 : Class := { plain "char" none with kind := .primitive 'C', accessFlags := 0x411 }
/-- [C -/
def k41 : Class := { plain "[C" (some 0) with kind := .array 40 .char, interfaces := #[17, 2], accessFlags := 1041 }

/-- the primitive int -/
def k42 : Class := { plain "int" none with kind := .primitive 'I', accessFlags := 0x411 }
/-- [I -/
def k43 : Class := { plain "[I" (some 0) with kind := .array 42 .int, interfaces := #[17, 2], accessFlags := 1041 }

/-- [Ljava/lang/Object; -/
def k44 : Class := { plain "[Ljava/lang/Object;" (some 0) with kind := .array 0 (.object "java/lang/Object"), interfaces := #[17, 2], accessFlags := 1041 }

/-- [Ljava/util/HashMap$Node; -/
def k45 : Class := { plain "[Ljava/util/HashMap$Node;" (some 0) with kind := .array 29 (.object "java/util/HashMap$Node"), interfaces := #[17, 2], accessFlags := 1041 }

def heap : Heap := #[{ cls := 7, slots := #[.long 0, .int 1, .null, .int 0, .null, .int 0, .int 0], vm := .statics 7 },
  { cls := 18, slots := #[.long 0, .int 0, .ref 9, .ref 10], vm := .statics 18 },
  { cls := 23, slots := #[.ref 6, .ref 7, .ref 8, .null, .null], vm := .statics 23 },
  { cls := 35, slots := #[.null, .null, .null], vm := .statics 35 },
  { cls := 37, slots := #[], vm := .mirror 27 },
  { cls := 37, slots := #[], vm := .mirror 32 },
  { cls := 23, slots := #[.null, .int 0, .int 0], vm := .none },
  { cls := 23, slots := #[.null, .int 1, .int 0], vm := .none },
  { cls := 23, slots := #[.null, .int 2, .int 0], vm := .none },
  { cls := 44, slots := #[], vm := .none },
  { cls := 44, slots := #[], vm := .none }]
def classes : Array Class := #[k0, k1, k2, k3, k4, k5, k6, k7, k8, k9, k10, k11, k12, k13, k14, k15, k16, k17, k18, k19, k20, k21, k22, k23, k24, k25, k26, k27, k28, k29, k30, k31, k32, k33, k34, k35, k36, k37, k38, k39, k40, k41, k42, k43, k44, k45]
def interned : List (Array UInt16 × Addr) := []
def slotsUsed : Nat := 28
def theMethod : MethodId := ⟨1, 1⟩
def args0 : Array Value := #[.int 5, .long 5, .long 5, .int 5, .int 5]
def aboutOver (below : List Frame) : State where
  vm := { classes := classes, interned := interned.toArray }
  heap := heap
  slotsUsed := slotsUsed
  threads := #[{ frames := .invoking theMethod args0 :: below }]
def below0 : List Frame := [.native { method := ⟨0, 0⟩, args := #[] }]
def about1 : State := aboutOver below0
def p0 : Program := .bare "" "" ""
def e0 : Env := launch0.env 0 0 0
theorem w_frames : about1.frames = Frame.invoking theMethod args0 :: below0 := rfl
set_option maxRecDepth 65536 in
theorem w_args : argsFit about1.vm theMethod args0 = true := by decide +kernel
set_option maxRecDepth 65536 in
theorem w_heap : heapFits about1 = true := by decide +kernel
set_option maxRecDepth 65536 in
theorem w_runnable : about1.curStatus? = some .runnable := by decide +kernel
set_option maxRecDepth 65536 in
theorem w_alone : about1.alone = true := by decide +kernel
set_option maxRecDepth 65536 in
theorem w_named : about1.methodNamed? x = some theMethod := by decide +kernel
set_option maxRecDepth 65536 in
theorem w_hears : about1.hears theMethod below0 = true := by decide +kernel
set_option maxRecDepth 65536 in
theorem w_ripe : about1.ripe theMethod args0 below0 = true := by decide +kernel
theorem w_running : about1.status = .running := rfl
set_option maxRecDepth 65536 in
theorem w_room : about1.hasRoom e0.platform room_1 = true :=
  launch0.hasRoom_least _ room_1 (by decide +kernel) (by decide +kernel) (by decide +kernel) (by decide +kernel) (by decide +kernel) (by decide +kernel)
theorem allAtoms_all (ts : List Jvm.Cond) (a : Array Jvm.Value) (st : Jvm.State) : (allAtoms ts).before a st = ts.all (fun c => c.before a st) := by
  induction ts with
  | nil => rfl
  | cons c t ih =>
    show (Jvm.Cond.and c (allAtoms t)).before a st = _
    rw [Jvm.Cond.before_and, ih, List.all_cons]
def words1 : List Jvm.Cond := Jvm.Cond.code x code maxLocals ret :: tables_1
/-- a 'code' word, met by the world's own term for the bytes: nothing is compared byte by byte -/
theorem code_word {y : MethodName} {bytes : ByteArray} {mx : Nat} {rt : Option FieldType} {a : Array Value} {s : State} {m : MethodId} {meth : Method} {c : Code} (h1 : s.methodNamed? y = some m) (h2 : s.vm.method? m = some meth) (h3 : meth.code = some c) (h4 : c.code = bytes)
    (h5 : (c.maxLocals == mx && c.exceptionTable.isEmpty && decide (c.maxStack ≤ mostOperands) && decide (meth.sig.returnType = rt) && !meth.locks && decide (parseMethodDescriptor y.desc = some meth.sig)) = true) : (Jvm.Cond.code y bytes mx rt).before a s = true := by
  simp only [Bool.and_eq_true, beq_iff_eq, Bool.not_eq_true', decide_eq_true_eq] at h5
  obtain ⟨⟨⟨⟨⟨g1, g2⟩, g3⟩, g4⟩, g5⟩, g6⟩ := h5
  simp [Cond.before, Cond.holds, Cond.value, h1, h2, h3, h4, g1, g2, g3, g4, g5, g6]
def isCode : Jvm.Cond → Bool
  | .code _ _ _ _ => true
  | _ => false
theorem all_split {L : List Jvm.Cond} {P : Jvm.Cond → Bool} (h1 : L.all (fun c => isCode c || P c) = true) (h2 : ∀ c ∈ L.filter isCode, P c = true) : L.all P = true := by
  refine List.all_eq_true.mpr fun c hc => ?_
  have h := List.all_eq_true.mp h1 c hc
  rcases Bool.eq_false_or_eq_true (isCode c) with hi | hi
  · exact h2 c (List.mem_filter.mpr ⟨hc, hi⟩)
  · simpa [hi] using h
set_option maxRecDepth 65536 in
theorem w_c0 : (Jvm.Cond.code x code maxLocals ret).before args0 about1 = true := code_word (m := ⟨1, 1⟩) (meth := k1m1) (c := k1c1) (by decide +kernel) rfl rfl rfl (by decide +kernel)
set_option maxRecDepth 65536 in
theorem w_c1 : (Jvm.Cond.code ({ cls := "java/lang/String", name := "<init>", desc := "([C)V" } : Jvm.MethodName) jdk_42_method_3_code (2 : Nat) (Option.none : Option Jvm.ClassFile.FieldType)).before args0 about1 = true := code_word (m := ⟨7, 1⟩) (meth := k7m1) (c := k7c1) (by decide +kernel) rfl rfl rfl (by decide +kernel)
set_option maxRecDepth 65536 in
theorem w_c2 : (Jvm.Cond.code ({ cls := "java/lang/String", name := "<init>", desc := "([CIILjava/lang/Void;)V" } : Jvm.MethodName) jdk_42_method_149_code (6 : Nat) (Option.none : Option Jvm.ClassFile.FieldType)).before args0 about1 = true := code_word (m := ⟨7, 5⟩) (meth := k7m5) (c := k7c5) (by decide +kernel) rfl rfl rfl (by decide +kernel)
set_option maxRecDepth 65536 in
theorem w_c3 : (Jvm.Cond.code ({ cls := "java/lang/Object", name := "<init>", desc := "()V" } : Jvm.MethodName) object_method_1_code (1 : Nat) (Option.none : Option Jvm.ClassFile.FieldType)).before args0 about1 = true := code_word (m := ⟨0, 0⟩) (meth := k0m0) (c := k0c0) (by decide +kernel) rfl rfl rfl (by decide +kernel)
set_option maxRecDepth 65536 in
theorem w_c4 : (Jvm.Cond.code ({ cls := "java/lang/StringUTF16", name := "compress", desc := "([CII)[B" } : Jvm.MethodName) jdk_52_method_16_code (6 : Nat) (Option.some (Jvm.ClassFile.FieldType.array Jvm.ClassFile.FieldType.byte))).before args0 about1 = true := code_word (m := ⟨8, 2⟩) (meth := k8m2) (c := k8c2) (by decide +kernel) rfl rfl rfl (by decide +kernel)
set_option maxRecDepth 65536 in
theorem w_c5 : (Jvm.Cond.code ({ cls := "java/lang/StringUTF16", name := "compress", desc := "([CI[BII)I" } : Jvm.MethodName) jdk_52_method_21_code (7 : Nat) (Option.some Jvm.ClassFile.FieldType.int)).before args0 about1 = true := code_word (m := ⟨8, 3⟩) (meth := k8m3) (c := k8c3) (by decide +kernel) rfl rfl rfl (by decide +kernel)
set_option maxRecDepth 65536 in
theorem w_c6 : (Jvm.Cond.code ({ cls := "java/lang/StringUTF16", name := "coderFromArrayLen", desc := "([BI)B" } : Jvm.MethodName) jdk_52_method_15_code (2 : Nat) (Option.some Jvm.ClassFile.FieldType.byte)).before args0 about1 = true := code_word (m := ⟨8, 1⟩) (meth := k8m1) (c := k8c1) (by decide +kernel) rfl rfl rfl (by decide +kernel)
set_option maxRecDepth 65536 in
theorem w_c7 : (Jvm.Cond.code ({ cls := "java/lang/String", name := "valueOf", desc := "(C)Ljava/lang/String;" } : Jvm.MethodName) jdk_42_method_139_code (1 : Nat) (Option.some (Jvm.ClassFile.FieldType.object "java/lang/String"))).before args0 about1 = true := code_word (m := ⟨7, 4⟩) (meth := k7m4) (c := k7c4) (by decide +kernel) rfl rfl rfl (by decide +kernel)
set_option maxRecDepth 65536 in
theorem w_c8 : (Jvm.Cond.code ({ cls := "java/lang/StringLatin1", name := "canEncode", desc := "(C)Z" } : Jvm.MethodName) jdk_43_method_3_code (1 : Nat) (Option.some Jvm.ClassFile.FieldType.boolean)).before args0 about1 = true := code_word (m := ⟨9, 1⟩) (meth := k9m1) (c := k9c1) (by decide +kernel) rfl rfl rfl (by decide +kernel)
set_option maxRecDepth 65536 in
theorem w_c9 : (Jvm.Cond.code ({ cls := "java/lang/StringLatin1", name := "toBytes", desc := "(C)[B" } : Jvm.MethodName) jdk_43_method_46_code (1 : Nat) (Option.some (Jvm.ClassFile.FieldType.array Jvm.ClassFile.FieldType.byte))).before args0 about1 = true := code_word (m := ⟨9, 4⟩) (meth := k9m4) (c := k9c4) (by decide +kernel) rfl rfl rfl (by decide +kernel)
set_option maxRecDepth 65536 in
theorem w_c10 : (Jvm.Cond.code ({ cls := "java/lang/String", name := "<init>", desc := "([BB)V" } : Jvm.MethodName) jdk_42_method_151_code (3 : Nat) (Option.none : Option Jvm.ClassFile.FieldType)).before args0 about1 = true := code_word (m := ⟨7, 6⟩) (meth := k7m6) (c := k7c6) (by decide +kernel) rfl rfl rfl (by decide +kernel)
set_option maxRecDepth 65536 in
theorem w_c11 : (Jvm.Cond.code ({ cls := "java/util/ArrayList", name := "<init>", desc := "()V" } : Jvm.MethodName) jdk_38_method_2_code (1 : Nat) (Option.none : Option Jvm.ClassFile.FieldType)).before args0 about1 = true := code_word (m := ⟨18, 0⟩) (meth := k18m0) (c := k18c0) (by decide +kernel) rfl rfl rfl (by decide +kernel)
set_option maxRecDepth 65536 in
theorem w_c12 : (Jvm.Cond.code ({ cls := "java/util/AbstractList", name := "<init>", desc := "()V" } : Jvm.MethodName) jdk_39_method_1_code (1 : Nat) (Option.none : Option Jvm.ClassFile.FieldType)).before args0 about1 = true := code_word (m := ⟨15, 0⟩) (meth := k15m0) (c := k15c0) (by decide +kernel) rfl rfl rfl (by decide +kernel)
set_option maxRecDepth 65536 in
theorem w_c13 : (Jvm.Cond.code ({ cls := "java/util/AbstractCollection", name := "<init>", desc := "()V" } : Jvm.MethodName) jdk_22_method_1_code (1 : Nat) (Option.none : Option Jvm.ClassFile.FieldType)).before args0 about1 = true := code_word (m := ⟨12, 0⟩) (meth := k12m0) (c := k12c0) (by decide +kernel) rfl rfl rfl (by decide +kernel)
set_option maxRecDepth 65536 in
theorem w_c14 : (Jvm.Cond.code ({ cls := "com/example/brickwork/brickwork/wire/Protocol$Listed", name := "<init>", desc := "(Ljava/lang/String;Lcom/example/brickwork/brickwork/wire/Protocol$Standing;[B)V" } : Jvm.MethodName) prog_162_method_1_code (4 : Nat) (Option.none : Option Jvm.ClassFile.FieldType)).before args0 about1 = true := code_word (m := ⟨20, 0⟩) (meth := k20m0) (c := k20c0) (by decide +kernel) rfl rfl rfl (by decide +kernel)
set_option maxRecDepth 65536 in
theorem w_c15 : (Jvm.Cond.code ({ cls := "java/lang/Record", name := "<init>", desc := "()V" } : Jvm.MethodName) jdk_30_method_1_code (1 : Nat) (Option.none : Option Jvm.ClassFile.FieldType)).before args0 about1 = true := code_word (m := ⟨19, 0⟩) (meth := k19m0) (c := k19c0) (by decide +kernel) rfl rfl rfl (by decide +kernel)
set_option maxRecDepth 65536 in
theorem w_c16 : (Jvm.Cond.code ({ cls := "java/util/ArrayList", name := "add", desc := "(Ljava/lang/Object;)Z" } : Jvm.MethodName) jdk_38_method_25_code (2 : Nat) (Option.some Jvm.ClassFile.FieldType.boolean)).before args0 about1 = true := code_word (m := ⟨18, 4⟩) (meth := k18m4) (c := k18c4) (by decide +kernel) rfl rfl rfl (by decide +kernel)
set_option maxRecDepth 65536 in
theorem w_c17 : (Jvm.Cond.code ({ cls := "java/util/ArrayList", name := "add", desc := "(Ljava/lang/Object;[Ljava/lang/Object;I)V" } : Jvm.MethodName) jdk_38_method_24_code (4 : Nat) (Option.none : Option Jvm.ClassFile.FieldType)).before args0 about1 = true := code_word (m := ⟨18, 3⟩) (meth := k18m3) (c := k18c3) (by decide +kernel) rfl rfl rfl (by decide +kernel)
set_option maxRecDepth 65536 in
theorem w_c18 : (Jvm.Cond.code ({ cls := "java/util/ArrayList", name := "grow", desc := "()[Ljava/lang/Object;" } : Jvm.MethodName) jdk_38_method_7_code (1 : Nat) (Option.some (Jvm.ClassFile.FieldType.array (Jvm.ClassFile.FieldType.object "java/lang/Object")))).before args0 about1 = true := code_word (m := ⟨18, 2⟩) (meth := k18m2) (c := k18c2) (by decide +kernel) rfl rfl rfl (by decide +kernel)
set_option maxRecDepth 65536 in
theorem w_c19 : (Jvm.Cond.code ({ cls := "java/util/ArrayList", name := "grow", desc := "(I)[Ljava/lang/Object;" } : Jvm.MethodName) jdk_38_method_6_code (4 : Nat) (Option.some (Jvm.ClassFile.FieldType.array (Jvm.ClassFile.FieldType.object "java/lang/Object")))).before args0 about1 = true := code_word (m := ⟨18, 1⟩) (meth := k18m1) (c := k18c1) (by decide +kernel) rfl rfl rfl (by decide +kernel)
set_option maxRecDepth 65536 in
theorem w_c20 : (Jvm.Cond.code ({ cls := "java/lang/Math", name := "max", desc := "(II)I" } : Jvm.MethodName) jdk_29_method_65_code (2 : Nat) (Option.some Jvm.ClassFile.FieldType.int)).before args0 about1 = true := code_word (m := ⟨21, 1⟩) (meth := k21m1) (c := k21c1) (by decide +kernel) rfl rfl rfl (by decide +kernel)
set_option maxRecDepth 65536 in
theorem w_c21 : (Jvm.Cond.code ({ cls := "com/example/brickwork/brickwork/wire/Protocol$Tables", name := "<init>", desc := "(Lcom/example/brickwork/brickwork/wire/Protocol$Knowledge;JLjava/util/List;Ljava/util/List;)V" } : Jvm.MethodName) prog_168_method_2_code (6 : Nat) (Option.none : Option Jvm.ClassFile.FieldType)).before args0 about1 = true := code_word (m := ⟨24, 0⟩) (meth := k24m0) (c := k24c0) (by decide +kernel) rfl rfl rfl (by decide +kernel)
set_option maxRecDepth 65536 in
theorem w_c22 : (Jvm.Cond.code ({ cls := "java/util/HashMap", name := "<init>", desc := "()V" } : Jvm.MethodName) jdk_69_method_7_code (1 : Nat) (Option.none : Option Jvm.ClassFile.FieldType)).before args0 about1 = true := code_word (m := ⟨27, 1⟩) (meth := k27m1) (c := k27c1) (by decide +kernel) rfl rfl rfl (by decide +kernel)
set_option maxRecDepth 65536 in
theorem w_c23 : (Jvm.Cond.code ({ cls := "java/util/AbstractMap", name := "<init>", desc := "()V" } : Jvm.MethodName) jdk_71_method_1_code (1 : Nat) (Option.none : Option Jvm.ClassFile.FieldType)).before args0 about1 = true := code_word (m := ⟨26, 0⟩) (meth := k26m0) (c := k26c0) (by decide +kernel) rfl rfl rfl (by decide +kernel)
set_option maxRecDepth 65536 in
theorem w_c24 : (Jvm.Cond.code ({ cls := "java/util/HashMap", name := "put", desc := "(Ljava/lang/Object;Ljava/lang/Object;)Ljava/lang/Object;" } : Jvm.MethodName) jdk_69_method_15_code (3 : Nat) (Option.some (Jvm.ClassFile.FieldType.object "java/lang/Object"))).before args0 about1 = true := code_word (m := ⟨27, 4⟩) (meth := k27m4) (c := k27c4) (by decide +kernel) rfl rfl rfl (by decide +kernel)
set_option maxRecDepth 65536 in
theorem w_c25 : (Jvm.Cond.code ({ cls := "java/util/HashMap", name := "hash", desc := "(Ljava/lang/Object;)I" } : Jvm.MethodName) jdk_69_method_1_code (2 : Nat) (Option.some Jvm.ClassFile.FieldType.int)).before args0 about1 = true := code_word (m := ⟨27, 0⟩) (meth := k27m0) (c := k27c0) (by decide +kernel) rfl rfl rfl (by decide +kernel)
set_option maxRecDepth 65536 in
theorem w_c26 : (Jvm.Cond.code ({ cls := "java/lang/String", name := "hashCode", desc := "()I" } : Jvm.MethodName) jdk_42_method_78_code (2 : Nat) (Option.some Jvm.ClassFile.FieldType.int)).before args0 about1 = true := code_word (m := ⟨7, 3⟩) (meth := k7m3) (c := k7c3) (by decide +kernel) rfl rfl rfl (by decide +kernel)
set_option maxRecDepth 65536 in
theorem w_c27 : (Jvm.Cond.code ({ cls := "java/lang/String", name := "isLatin1", desc := "()Z" } : Jvm.MethodName) jdk_42_method_154_code (1 : Nat) (Option.some Jvm.ClassFile.FieldType.boolean)).before args0 about1 = true := code_word (m := ⟨7, 7⟩) (meth := k7m7) (c := k7c7) (by decide +kernel) rfl rfl rfl (by decide +kernel)
set_option maxRecDepth 65536 in
theorem w_c28 : (Jvm.Cond.code ({ cls := "java/lang/StringLatin1", name := "hashCode", desc := "([B)I" } : Jvm.MethodName) jdk_43_method_21_code (1 : Nat) (Option.some Jvm.ClassFile.FieldType.int)).before args0 about1 = true := code_word (m := ⟨9, 3⟩) (meth := k9m3) (c := k9c3) (by decide +kernel) rfl rfl rfl (by decide +kernel)
set_option maxRecDepth 65536 in
theorem w_c29 : (Jvm.Cond.code ({ cls := "java/util/HashMap", name := "putVal", desc := "(ILjava/lang/Object;Ljava/lang/Object;ZZ)Ljava/lang/Object;" } : Jvm.MethodName) jdk_69_method_16_code (13 : Nat) (Option.some (Jvm.ClassFile.FieldType.object "java/lang/Object"))).before args0 about1 = true := code_word (m := ⟨27, 5⟩) (meth := k27m5) (c := k27c5) (by decide +kernel) rfl rfl rfl (by decide +kernel)
set_option maxRecDepth 65536 in
theorem w_c30 : (Jvm.Cond.code ({ cls := "java/util/HashMap", name := "resize", desc := "()[Ljava/util/HashMap$Node;" } : Jvm.MethodName) jdk_69_method_17_code (14 : Nat) (Option.some (Jvm.ClassFile.FieldType.array (Jvm.ClassFile.FieldType.object "java/util/HashMap$Node")))).before args0 about1 = true := code_word (m := ⟨27, 6⟩) (meth := k27m6) (c := k27c6) (by decide +kernel) rfl rfl rfl (by decide +kernel)
set_option maxRecDepth 65536 in
theorem w_c31 : (Jvm.Cond.code ({ cls := "java/util/HashMap", name := "newNode", desc := "(ILjava/lang/Object;Ljava/lang/Object;Ljava/util/HashMap$Node;)Ljava/util/HashMap$Node;" } : Jvm.MethodName) jdk_69_method_46_code (5 : Nat) (Option.some (Jvm.ClassFile.FieldType.object "java/util/HashMap$Node"))).before args0 about1 = true := code_word (m := ⟨27, 7⟩) (meth := k27m7) (c := k27c7) (by decide +kernel) rfl rfl rfl (by decide +kernel)
set_option maxRecDepth 65536 in
theorem w_c32 : (Jvm.Cond.code ({ cls := "java/util/HashMap$Node", name := "<init>", desc := "(ILjava/lang/Object;Ljava/lang/Object;Ljava/util/HashMap$Node;)V" } : Jvm.MethodName) jdk_70_method_1_code (5 : Nat) (Option.none : Option Jvm.ClassFile.FieldType)).before args0 about1 = true := code_word (m := ⟨29, 0⟩) (meth := k29m0) (c := k29c0) (by decide +kernel) rfl rfl rfl (by decide +kernel)
set_option maxRecDepth 65536 in
theorem w_c33 : (Jvm.Cond.code ({ cls := "java/util/HashMap", name := "afterNodeInsertion", desc := "(Z)V" } : Jvm.MethodName) jdk_69_method_52_code (2 : Nat) (Option.none : Option Jvm.ClassFile.FieldType)).before args0 about1 = true := code_word (m := ⟨27, 8⟩) (meth := k27m8) (c := k27c8) (by decide +kernel) rfl rfl rfl (by decide +kernel)
set_option maxRecDepth 65536 in
theorem w_c34 : (Jvm.Cond.code ({ cls := "com/example/brickwork/brickwork/Catalogue", name := "<init>", desc := "(Ljava/util/Map;)V" } : Jvm.MethodName) prog_19_method_1_code (2 : Nat) (Option.none : Option Jvm.ClassFile.FieldType)).before args0 about1 = true := code_word (m := ⟨30, 0⟩) (meth := k30m0) (c := k30c0) (by decide +kernel) rfl rfl rfl (by decide +kernel)
set_option maxRecDepth 65536 in
theorem w_c35 : (Jvm.Cond.code ({ cls := "java/util/Collections", name := "unmodifiableMap", desc := "(Ljava/util/Map;)Ljava/util/Map;" } : Jvm.MethodName) jdk_79_method_36_code (1 : Nat) (Option.some (Jvm.ClassFile.FieldType.object "java/util/Map"))).before args0 about1 = true := code_word (m := ⟨31, 1⟩) (meth := k31m1) (c := k31c1) (by decide +kernel) rfl rfl rfl (by decide +kernel)
set_option maxRecDepth 65536 in
theorem w_c36 : (Jvm.Cond.code ({ cls := "java/util/Collections$UnmodifiableMap", name := "<init>", desc := "(Ljava/util/Map;)V" } : Jvm.MethodName) jdk_2500_method_1_code (2 : Nat) (Option.none : Option Jvm.ClassFile.FieldType)).before args0 about1 = true := code_word (m := ⟨32, 0⟩) (meth := k32m0) (c := k32c0) (by decide +kernel) rfl rfl rfl (by decide +kernel)
set_option maxRecDepth 65536 in
theorem w_c37 : (Jvm.Cond.code ({ cls := "com/example/brickwork/brickwork/Catalogue", name := "speaksFor", desc := "(Ljava/lang/String;Ljava/lang/String;J)Z" } : Jvm.MethodName) prog_19_method_14_code (6 : Nat) (Option.some Jvm.ClassFile.FieldType.boolean)).before args0 about1 = true := code_word (m := ⟨30, 3⟩) (meth := k30m3) (c := k30c3) (by decide +kernel) rfl rfl rfl (by decide +kernel)
set_option maxRecDepth 65536 in
theorem w_c38 : (Jvm.Cond.code ({ cls := "com/example/brickwork/brickwork/Catalogue", name := "untold", desc := "(Ljava/lang/String;)Z" } : Jvm.MethodName) prog_19_method_12_code (2 : Nat) (Option.some Jvm.ClassFile.FieldType.boolean)).before args0 about1 = true := code_word (m := ⟨30, 1⟩) (meth := k30m1) (c := k30c1) (by decide +kernel) rfl rfl rfl (by decide +kernel)
set_option maxRecDepth 65536 in
theorem w_c39 : (Jvm.Cond.code ({ cls := "java/util/Collections$UnmodifiableMap", name := "get", desc := "(Ljava/lang/Object;)Ljava/lang/Object;" } : Jvm.MethodName) jdk_2500_method_6_code (2 : Nat) (Option.some (Jvm.ClassFile.FieldType.object "java/lang/Object"))).before args0 about1 = true := code_word (m := ⟨32, 1⟩) (meth := k32m1) (c := k32c1) (by decide +kernel) rfl rfl rfl (by decide +kernel)
set_option maxRecDepth 65536 in
theorem w_c40 : (Jvm.Cond.code ({ cls := "java/util/HashMap", name := "get", desc := "(Ljava/lang/Object;)Ljava/lang/Object;" } : Jvm.MethodName) jdk_69_method_12_code (3 : Nat) (Option.some (Jvm.ClassFile.FieldType.object "java/lang/Object"))).before args0 about1 = true := code_word (m := ⟨27, 2⟩) (meth := k27m2) (c := k27c2) (by decide +kernel) rfl rfl rfl (by decide +kernel)
set_option maxRecDepth 65536 in
theorem w_c41 : (Jvm.Cond.code ({ cls := "java/util/HashMap", name := "getNode", desc := "(Ljava/lang/Object;)Ljava/util/HashMap$Node;" } : Jvm.MethodName) jdk_69_method_13_code (8 : Nat) (Option.some (Jvm.ClassFile.FieldType.object "java/util/HashMap$Node"))).before args0 about1 = true := code_word (m := ⟨27, 3⟩) (meth := k27m3) (c := k27c3) (by decide +kernel) rfl rfl rfl (by decide +kernel)
set_option maxRecDepth 65536 in
theorem w_c42 : (Jvm.Cond.code ({ cls := "com/example/brickwork/brickwork/Catalogue", name := "untold", desc := "(Lcom/example/brickwork/brickwork/wire/Protocol$Tables;)Z" } : Jvm.MethodName) prog_19_method_23_code (1 : Nat) (Option.some Jvm.ClassFile.FieldType.boolean)).before args0 about1 = true := code_word (m := ⟨30, 7⟩) (meth := k30m7) (c := k30c7) (by decide +kernel) rfl rfl rfl (by decide +kernel)
set_option maxRecDepth 65536 in
theorem w_c43 : (Jvm.Cond.code ({ cls := "com/example/brickwork/brickwork/Catalogue", name := "directory", desc := "(Ljava/lang/String;)J" } : Jvm.MethodName) prog_19_method_13_code (3 : Nat) (Option.some Jvm.ClassFile.FieldType.long)).before args0 about1 = true := code_word (m := ⟨30, 2⟩) (meth := k30m2) (c := k30c2) (by decide +kernel) rfl rfl rfl (by decide +kernel)
set_option maxRecDepth 65536 in
theorem w_c44 : (Jvm.Cond.code ({ cls := "com/example/brickwork/brickwork/Catalogue", name := "speaksFor", desc := "(JJZ)Z" } : Jvm.MethodName) prog_19_method_15_code (6 : Nat) (Option.some Jvm.ClassFile.FieldType.boolean)).before args0 about1 = true := code_word (m := ⟨30, 4⟩) (meth := k30m4) (c := k30c4) (by decide +kernel) rfl rfl rfl (by decide +kernel)
set_option maxRecDepth 65536 in
theorem w_c45 : (Jvm.Cond.code ({ cls := "java/lang/String", name := "equals", desc := "(Ljava/lang/Object;)Z" } : Jvm.MethodName) jdk_42_method_66_code (3 : Nat) (Option.some Jvm.ClassFile.FieldType.boolean)).before args0 about1 = true := code_word (m := ⟨7, 2⟩) (meth := k7m2) (c := k7c2) (by decide +kernel) rfl rfl rfl (by decide +kernel)
set_option maxRecDepth 65536 in
theorem w_c46 : (Jvm.Cond.code ({ cls := "java/lang/StringLatin1", name := "equals", desc := "([B[B)Z" } : Jvm.MethodName) jdk_43_method_13_code (3 : Nat) (Option.some Jvm.ClassFile.FieldType.boolean)).before args0 about1 = true := code_word (m := ⟨9, 2⟩) (meth := k9m2) (c := k9c2) (by decide +kernel) rfl rfl rfl (by decide +kernel)
set_option maxRecDepth 65536 in
theorem w_c47 : (Jvm.Cond.code ({ cls := "com/example/brickwork/brickwork/wire/Protocol$Tables", name := "knowledge", desc := "()Lcom/example/brickwork/brickwork/wire/Protocol$Knowledge;" } : Jvm.MethodName) prog_168_method_7_code (1 : Nat) (Option.some (Jvm.ClassFile.FieldType.object "com/example/brickwork/brickwork/wire/Protocol$Knowledge"))).before args0 about1 = true := code_word (m := ⟨24, 1⟩) (meth := k24m1) (c := k24c1) (by decide +kernel) rfl rfl rfl (by decide +kernel)
set_option maxRecDepth 65536 in
theorem w_c48 : (Jvm.Cond.code ({ cls := "com/example/brickwork/brickwork/wire/Protocol$Tables", name := "directory", desc := "()J" } : Jvm.MethodName) prog_168_method_8_code (1 : Nat) (Option.some Jvm.ClassFile.FieldType.long)).before args0 about1 = true := code_word (m := ⟨24, 2⟩) (meth := k24m2) (c := k24c2) (by decide +kernel) rfl rfl rfl (by decide +kernel)
set_option maxRecDepth 65536 in
theorem w_c49 : (Jvm.Cond.code ({ cls := "com/example/brickwork/brickwork/Catalogue", name := "listing", desc := "(Ljava/lang/String;Ljava/lang/String;)Lcom/example/brickwork/brickwork/wire/Protocol$Listed;" } : Jvm.MethodName) prog_19_method_17_code (5 : Nat) (Option.some (Jvm.ClassFile.FieldType.object "com/example/brickwork/brickwork/wire/Protocol$Listed"))).before args0 about1 = true := code_word (m := ⟨30, 6⟩) (meth := k30m6) (c := k30c6) (by decide +kernel) rfl rfl rfl (by decide +kernel)
set_option maxRecDepth 65536 in
theorem w_c50 : (Jvm.Cond.code ({ cls := "com/example/brickwork/brickwork/Catalogue", name := "listed", desc := "(Ljava/lang/String;)Ljava/util/List;" } : Jvm.MethodName) prog_19_method_16_code (3 : Nat) (Option.some (Jvm.ClassFile.FieldType.object "java/util/List"))).before args0 about1 = true := code_word (m := ⟨30, 5⟩) (meth := k30m5) (c := k30c5) (by decide +kernel) rfl rfl rfl (by decide +kernel)
set_option maxRecDepth 65536 in
theorem w_c51 : (Jvm.Cond.code ({ cls := "com/example/brickwork/brickwork/wire/Protocol$Tables", name := "tables", desc := "()Ljava/util/List;" } : Jvm.MethodName) prog_168_method_9_code (1 : Nat) (Option.some (Jvm.ClassFile.FieldType.object "java/util/List"))).before args0 about1 = true := code_word (m := ⟨24, 3⟩) (meth := k24m3) (c := k24c3) (by decide +kernel) rfl rfl rfl (by decide +kernel)
set_option maxRecDepth 65536 in
theorem w_c52 : (Jvm.Cond.code ({ cls := "java/util/ArrayList", name := "iterator", desc := "()Ljava/util/Iterator;" } : Jvm.MethodName) jdk_38_method_55_code (1 : Nat) (Option.some (Jvm.ClassFile.FieldType.object "java/util/Iterator"))).before args0 about1 = true := code_word (m := ⟨18, 5⟩) (meth := k18m5) (c := k18c5) (by decide +kernel) rfl rfl rfl (by decide +kernel)
set_option maxRecDepth 65536 in
theorem w_c53 : (Jvm.Cond.code ({ cls := "java/util/ArrayList$Itr", name := "<init>", desc := "(Ljava/util/ArrayList;)V" } : Jvm.MethodName) jdk_49_method_1_code (2 : Nat) (Option.none : Option Jvm.ClassFile.FieldType)).before args0 about1 = true := code_word (m := ⟨34, 0⟩) (meth := k34m0) (c := k34c0) (by decide +kernel) rfl rfl rfl (by decide +kernel)
set_option maxRecDepth 65536 in
theorem w_c54 : (Jvm.Cond.code ({ cls := "java/util/ArrayList$Itr", name := "hasNext", desc := "()Z" } : Jvm.MethodName) jdk_49_method_2_code (1 : Nat) (Option.some Jvm.ClassFile.FieldType.boolean)).before args0 about1 = true := code_word (m := ⟨34, 1⟩) (meth := k34m1) (c := k34c1) (by decide +kernel) rfl rfl rfl (by decide +kernel)
set_option maxRecDepth 65536 in
theorem w_c55 : (Jvm.Cond.code ({ cls := "java/util/ArrayList$Itr", name := "next", desc := "()Ljava/lang/Object;" } : Jvm.MethodName) jdk_49_method_3_code (3 : Nat) (Option.some (Jvm.ClassFile.FieldType.object "java/lang/Object"))).before args0 about1 = true := code_word (m := ⟨34, 2⟩) (meth := k34m2) (c := k34c2) (by decide +kernel) rfl rfl rfl (by decide +kernel)
set_option maxRecDepth 65536 in
theorem w_c56 : (Jvm.Cond.code ({ cls := "java/util/ArrayList$Itr", name := "checkForComodification", desc := "()V" } : Jvm.MethodName) jdk_49_method_6_code (1 : Nat) (Option.none : Option Jvm.ClassFile.FieldType)).before args0 about1 = true := code_word (m := ⟨34, 3⟩) (meth := k34m3) (c := k34c3) (by decide +kernel) rfl rfl rfl (by decide +kernel)
set_option maxRecDepth 65536 in
theorem w_c57 : (Jvm.Cond.code ({ cls := "com/example/brickwork/brickwork/wire/Protocol$Listed", name := "name", desc := "()Ljava/lang/String;" } : Jvm.MethodName) prog_162_method_5_code (1 : Nat) (Option.some (Jvm.ClassFile.FieldType.object "java/lang/String"))).before args0 about1 = true := code_word (m := ⟨20, 1⟩) (meth := k20m1) (c := k20c1) (by decide +kernel) rfl rfl rfl (by decide +kernel)
def codes1 : List Jvm.Cond := [Jvm.Cond.code x code maxLocals ret, Jvm.Cond.code ({ cls := "java/lang/String", name := "<init>", desc := "([C)V" } : Jvm.MethodName) jdk_42_method_3_code (2 : Nat) (Option.none : Option Jvm.ClassFile.FieldType), Jvm.Cond.code ({ cls := "java/lang/String", name := "<init>", desc := "([CIILjava/lang/Void;)V" } : Jvm.MethodName) jdk_42_method_149_code (6 : Nat) (Option.none : Option Jvm.ClassFile.FieldType), Jvm.Cond.code ({ cls := "java/lang/Object", name := "<init>", desc := "()V" } : Jvm.MethodName) object_method_1_code (1 : Nat) (Option.none : Option Jvm.ClassFile.FieldType), Jvm.Cond.code ({ cls := "java/lang/StringUTF16", name := "compress", desc := "([CII)[B" } : Jvm.MethodName) jdk_52_method_16_code (6 : Nat) (Option.some (Jvm.ClassFile.FieldType.array Jvm.ClassFile.FieldType.byte)), Jvm.Cond.code ({ cls := "java/lang/StringUTF16", name := "compress", desc := "([CI[BII)I" } : Jvm.MethodName) jdk_52_method_21_code (7 : Nat) (Option.some Jvm.ClassFile.FieldType.int), Jvm.Cond.code ({ cls := "java/lang/StringUTF16", name := "coderFromArrayLen", desc := "([BI)B" } : Jvm.MethodName) jdk_52_method_15_code (2 : Nat) (Option.some Jvm.ClassFile.FieldType.byte), Jvm.Cond.code ({ cls := "java/lang/String", name := "valueOf", desc := "(C)Ljava/lang/String;" } : Jvm.MethodName) jdk_42_method_139_code (1 : Nat) (Option.some (Jvm.ClassFile.FieldType.object "java/lang/String")), Jvm.Cond.code ({ cls := "java/lang/StringLatin1", name := "canEncode", desc := "(C)Z" } : Jvm.MethodName) jdk_43_method_3_code (1 : Nat) (Option.some Jvm.ClassFile.FieldType.boolean), Jvm.Cond.code ({ cls := "java/lang/StringLatin1", name := "toBytes", desc := "(C)[B" } : Jvm.MethodName) jdk_43_method_46_code (1 : Nat) (Option.some (Jvm.ClassFile.FieldType.array Jvm.ClassFile.FieldType.byte)), Jvm.Cond.code ({ cls := "java/lang/String", name := "<init>", desc := "([BB)V" } : Jvm.MethodName) jdk_42_method_151_code (3 : Nat) (Option.none : Option Jvm.ClassFile.FieldType), Jvm.Cond.code ({ cls := "java/util/ArrayList", name := "<init>", desc := "()V" } : Jvm.MethodName) jdk_38_method_2_code (1 : Nat) (Option.none : Option Jvm.ClassFile.FieldType), Jvm.Cond.code ({ cls := "java/util/AbstractList", name := "<init>", desc := "()V" } : Jvm.MethodName) jdk_39_method_1_code (1 : Nat) (Option.none : Option Jvm.ClassFile.FieldType), Jvm.Cond.code ({ cls := "java/util/AbstractCollection", name := "<init>", desc := "()V" } : Jvm.MethodName) jdk_22_method_1_code (1 : Nat) (Option.none : Option Jvm.ClassFile.FieldType), Jvm.Cond.code ({ cls := "com/example/brickwork/brickwork/wire/Protocol$Listed", name := "<init>", desc := "(Ljava/lang/String;Lcom/example/brickwork/brickwork/wire/Protocol$Standing;[B)V" } : Jvm.MethodName) prog_162_method_1_code (4 : Nat) (Option.none : Option Jvm.ClassFile.FieldType), Jvm.Cond.code ({ cls := "java/lang/Record", name := "<init>", desc := "()V" } : Jvm.MethodName) jdk_30_method_1_code (1 : Nat) (Option.none : Option Jvm.ClassFile.FieldType), Jvm.Cond.code ({ cls := "java/util/ArrayList", name := "add", desc := "(Ljava/lang/Object;)Z" } : Jvm.MethodName) jdk_38_method_25_code (2 : Nat) (Option.some Jvm.ClassFile.FieldType.boolean), Jvm.Cond.code ({ cls := "java/util/ArrayList", name := "add", desc := "(Ljava/lang/Object;[Ljava/lang/Object;I)V" } : Jvm.MethodName) jdk_38_method_24_code (4 : Nat) (Option.none : Option Jvm.ClassFile.FieldType), Jvm.Cond.code ({ cls := "java/util/ArrayList", name := "grow", desc := "()[Ljava/lang/Object;" } : Jvm.MethodName) jdk_38_method_7_code (1 : Nat) (Option.some (Jvm.ClassFile.FieldType.array (Jvm.ClassFile.FieldType.object "java/lang/Object"))), Jvm.Cond.code ({ cls := "java/util/ArrayList", name := "grow", desc := "(I)[Ljava/lang/Object;" } : Jvm.MethodName) jdk_38_method_6_code (4 : Nat) (Option.some (Jvm.ClassFile.FieldType.array (Jvm.ClassFile.FieldType.object "java/lang/Object"))), Jvm.Cond.code ({ cls := "java/lang/Math", name := "max", desc := "(II)I" } : Jvm.MethodName) jdk_29_method_65_code (2 : Nat) (Option.some Jvm.ClassFile.FieldType.int), Jvm.Cond.code ({ cls := "com/example/brickwork/brickwork/wire/Protocol$Tables", name := "<init>", desc := "(Lcom/example/brickwork/brickwork/wire/Protocol$Knowledge;JLjava/util/List;Ljava/util/List;)V" } : Jvm.MethodName) prog_168_method_2_code (6 : Nat) (Option.none : Option Jvm.ClassFile.FieldType), Jvm.Cond.code ({ cls := "java/util/HashMap", name := "<init>", desc := "()V" } : Jvm.MethodName) jdk_69_method_7_code (1 : Nat) (Option.none : Option Jvm.ClassFile.FieldType), Jvm.Cond.code ({ cls := "java/util/AbstractMap", name := "<init>", desc := "()V" } : Jvm.MethodName) jdk_71_method_1_code (1 : Nat) (Option.none : Option Jvm.ClassFile.FieldType), Jvm.Cond.code ({ cls := "java/util/HashMap", name := "put", desc := "(Ljava/lang/Object;Ljava/lang/Object;)Ljava/lang/Object;" } : Jvm.MethodName) jdk_69_method_15_code (3 : Nat) (Option.some (Jvm.ClassFile.FieldType.object "java/lang/Object")), Jvm.Cond.code ({ cls := "java/util/HashMap", name := "hash", desc := "(Ljava/lang/Object;)I" } : Jvm.MethodName) jdk_69_method_1_code (2 : Nat) (Option.some Jvm.ClassFile.FieldType.int), Jvm.Cond.code ({ cls := "java/lang/String", name := "hashCode", desc := "()I" } : Jvm.MethodName) jdk_42_method_78_code (2 : Nat) (Option.some Jvm.ClassFile.FieldType.int), Jvm.Cond.code ({ cls := "java/lang/String", name := "isLatin1", desc := "()Z" } : Jvm.MethodName) jdk_42_method_154_code (1 : Nat) (Option.some Jvm.ClassFile.FieldType.boolean), Jvm.Cond.code ({ cls := "java/lang/StringLatin1", name := "hashCode", desc := "([B)I" } : Jvm.MethodName) jdk_43_method_21_code (1 : Nat) (Option.some Jvm.ClassFile.FieldType.int), Jvm.Cond.code ({ cls := "java/util/HashMap", name := "putVal", desc := "(ILjava/lang/Object;Ljava/lang/Object;ZZ)Ljava/lang/Object;" } : Jvm.MethodName) jdk_69_method_16_code (13 : Nat) (Option.some (Jvm.ClassFile.FieldType.object "java/lang/Object")), Jvm.Cond.code ({ cls := "java/util/HashMap", name := "resize", desc := "()[Ljava/util/HashMap$Node;" } : Jvm.MethodName) jdk_69_method_17_code (14 : Nat) (Option.some (Jvm.ClassFile.FieldType.array (Jvm.ClassFile.FieldType.object "java/util/HashMap$Node"))), Jvm.Cond.code ({ cls := "java/util/HashMap", name := "newNode", desc := "(ILjava/lang/Object;Ljava/lang/Object;Ljava/util/HashMap$Node;)Ljava/util/HashMap$Node;" } : Jvm.MethodName) jdk_69_method_46_code (5 : Nat) (Option.some (Jvm.ClassFile.FieldType.object "java/util/HashMap$Node")), Jvm.Cond.code ({ cls := "java/util/HashMap$Node", name := "<init>", desc := "(ILjava/lang/Object;Ljava/lang/Object;Ljava/util/HashMap$Node;)V" } : Jvm.MethodName) jdk_70_method_1_code (5 : Nat) (Option.none : Option Jvm.ClassFile.FieldType), Jvm.Cond.code ({ cls := "java/util/HashMap", name := "afterNodeInsertion", desc := "(Z)V" } : Jvm.MethodName) jdk_69_method_52_code (2 : Nat) (Option.none : Option Jvm.ClassFile.FieldType), Jvm.Cond.code ({ cls := "com/example/brickwork/brickwork/Catalogue", name := "<init>", desc := "(Ljava/util/Map;)V" } : Jvm.MethodName) prog_19_method_1_code (2 : Nat) (Option.none : Option Jvm.ClassFile.FieldType), Jvm.Cond.code ({ cls := "java/util/Collections", name := "unmodifiableMap", desc := "(Ljava/util/Map;)Ljava/util/Map;" } : Jvm.MethodName) jdk_79_method_36_code (1 : Nat) (Option.some (Jvm.ClassFile.FieldType.object "java/util/Map")), Jvm.Cond.code ({ cls := "java/util/Collections$UnmodifiableMap", name := "<init>", desc := "(Ljava/util/Map;)V" } : Jvm.MethodName) jdk_2500_method_1_code (2 : Nat) (Option.none : Option Jvm.ClassFile.FieldType), Jvm.Cond.code ({ cls := "com/example/brickwork/brickwork/Catalogue", name := "speaksFor", desc := "(Ljava/lang/String;Ljava/lang/String;J)Z" } : Jvm.MethodName) prog_19_method_14_code (6 : Nat) (Option.some Jvm.ClassFile.FieldType.boolean), Jvm.Cond.code ({ cls := "com/example/brickwork/brickwork/Catalogue", name := "untold", desc := "(Ljava/lang/String;)Z" } : Jvm.MethodName) prog_19_method_12_code (2 : Nat) (Option.some Jvm.ClassFile.FieldType.boolean), Jvm.Cond.code ({ cls := "java/util/Collections$UnmodifiableMap", name := "get", desc := "(Ljava/lang/Object;)Ljava/lang/Object;" } : Jvm.MethodName) jdk_2500_method_6_code (2 : Nat) (Option.some (Jvm.ClassFile.FieldType.object "java/lang/Object")), Jvm.Cond.code ({ cls := "java/util/HashMap", name := "get", desc := "(Ljava/lang/Object;)Ljava/lang/Object;" } : Jvm.MethodName) jdk_69_method_12_code (3 : Nat) (Option.some (Jvm.ClassFile.FieldType.object "java/lang/Object")), Jvm.Cond.code ({ cls := "java/util/HashMap", name := "getNode", desc := "(Ljava/lang/Object;)Ljava/util/HashMap$Node;" } : Jvm.MethodName) jdk_69_method_13_code (8 : Nat) (Option.some (Jvm.ClassFile.FieldType.object "java/util/HashMap$Node")), Jvm.Cond.code ({ cls := "com/example/brickwork/brickwork/Catalogue", name := "untold", desc := "(Lcom/example/brickwork/brickwork/wire/Protocol$Tables;)Z" } : Jvm.MethodName) prog_19_method_23_code (1 : Nat) (Option.some Jvm.ClassFile.FieldType.boolean), Jvm.Cond.code ({ cls := "com/example/brickwork/brickwork/Catalogue", name := "directory", desc := "(Ljava/lang/String;)J" } : Jvm.MethodName) prog_19_method_13_code (3 : Nat) (Option.some Jvm.ClassFile.FieldType.long), Jvm.Cond.code ({ cls := "com/example/brickwork/brickwork/Catalogue", name := "speaksFor", desc := "(JJZ)Z" } : Jvm.MethodName) prog_19_method_15_code (6 : Nat) (Option.some Jvm.ClassFile.FieldType.boolean), Jvm.Cond.code ({ cls := "java/lang/String", name := "equals", desc := "(Ljava/lang/Object;)Z" } : Jvm.MethodName) jdk_42_method_66_code (3 : Nat) (Option.some Jvm.ClassFile.FieldType.boolean), Jvm.Cond.code ({ cls := "java/lang/StringLatin1", name := "equals", desc := "([B[B)Z" } : Jvm.MethodName) jdk_43_method_13_code (3 : Nat) (Option.some Jvm.ClassFile.FieldType.boolean), Jvm.Cond.code ({ cls := "com/example/brickwork/brickwork/wire/Protocol$Tables", name := "knowledge", desc := "()Lcom/example/brickwork/brickwork/wire/Protocol$Knowledge;" } : Jvm.MethodName) prog_168_method_7_code (1 : Nat) (Option.some (Jvm.ClassFile.FieldType.object "com/example/brickwork/brickwork/wire/Protocol$Knowledge")), Jvm.Cond.code ({ cls := "com/example/brickwork/brickwork/wire/Protocol$Tables", name := "directory", desc := "()J" } : Jvm.MethodName) prog_168_method_8_code (1 : Nat) (Option.some Jvm.ClassFile.FieldType.long), Jvm.Cond.code ({ cls := "com/example/brickwork/brickwork/Catalogue", name := "listing", desc := "(Ljava/lang/String;Ljava/lang/String;)Lcom/example/brickwork/brickwork/wire/Protocol$Listed;" } : Jvm.MethodName) prog_19_method_17_code (5 : Nat) (Option.some (Jvm.ClassFile.FieldType.object "com/example/brickwork/brickwork/wire/Protocol$Listed")), Jvm.Cond.code ({ cls := "com/example/brickwork/brickwork/Catalogue", name := "listed", desc := "(Ljava/lang/String;)Ljava/util/List;" } : Jvm.MethodName) prog_19_method_16_code (3 : Nat) (Option.some (Jvm.ClassFile.FieldType.object "java/util/List")), Jvm.Cond.code ({ cls := "com/example/brickwork/brickwork/wire/Protocol$Tables", name := "tables", desc := "()Ljava/util/List;" } : Jvm.MethodName) prog_168_method_9_code (1 : Nat) (Option.some (Jvm.ClassFile.FieldType.object "java/util/List")), Jvm.Cond.code ({ cls := "java/util/ArrayList", name := "iterator", desc := "()Ljava/util/Iterator;" } : Jvm.MethodName) jdk_38_method_55_code (1 : Nat) (Option.some (Jvm.ClassFile.FieldType.object "java/util/Iterator")), Jvm.Cond.code ({ cls := "java/util/ArrayList$Itr", name := "<init>", desc := "(Ljava/util/ArrayList;)V" } : Jvm.MethodName) jdk_49_method_1_code (2 : Nat) (Option.none : Option Jvm.ClassFile.FieldType), Jvm.Cond.code ({ cls := "java/util/ArrayList$Itr", name := "hasNext", desc := "()Z" } : Jvm.MethodName) jdk_49_method_2_code (1 : Nat) (Option.some Jvm.ClassFile.FieldType.boolean), Jvm.Cond.code ({ cls := "java/util/ArrayList$Itr", name := "next", desc := "()Ljava/lang/Object;" } : Jvm.MethodName) jdk_49_method_3_code (3 : Nat) (Option.some (Jvm.ClassFile.FieldType.object "java/lang/Object")), Jvm.Cond.code ({ cls := "java/util/ArrayList$Itr", name := "checkForComodification", desc := "()V" } : Jvm.MethodName) jdk_49_method_6_code (1 : Nat) (Option.none : Option Jvm.ClassFile.FieldType), Jvm.Cond.code ({ cls := "com/example/brickwork/brickwork/wire/Protocol$Listed", name := "name", desc := "()Ljava/lang/String;" } : Jvm.MethodName) prog_162_method_5_code (1 : Nat) (Option.some (Jvm.ClassFile.FieldType.object "java/lang/String"))]
set_option maxRecDepth 65536 in
theorem codes_eq : words1.filter isCode = codes1 := rfl
theorem w_codes : ∀ c ∈ words1.filter isCode, c.before args0 about1 = true := by
  rw [codes_eq]
  intro c hc
  simp only [codes1, List.mem_cons, List.not_mem_nil, or_false] at hc
  rcases hc with rfl | rfl | rfl | rfl | rfl | rfl | rfl | rfl | rfl | rfl | rfl | rfl | rfl | rfl | rfl | rfl | rfl | rfl | rfl | rfl | rfl | rfl | rfl | rfl | rfl | rfl | rfl | rfl | rfl | rfl | rfl | rfl | rfl | rfl | rfl | rfl | rfl | rfl | rfl | rfl | rfl | rfl | rfl | rfl | rfl | rfl | rfl | rfl | rfl | rfl | rfl | rfl | rfl | rfl | rfl | rfl | rfl | rfl
  · exact w_c0
  · exact w_c1
  · exact w_c2
  · exact w_c3
  · exact w_c4
  · exact w_c5
  · exact w_c6
  · exact w_c7
  · exact w_c8
  · exact w_c9
  · exact w_c10
  · exact w_c11
  · exact w_c12
  · exact w_c13
  · exact w_c14
  · exact w_c15
  · exact w_c16
  · exact w_c17
  · exact w_c18
  · exact w_c19
  · exact w_c20
  · exact w_c21
  · exact w_c22
  · exact w_c23
  · exact w_c24
  · exact w_c25
  · exact w_c26
  · exact w_c27
  · exact w_c28
  · exact w_c29
  · exact w_c30
  · exact w_c31
  · exact w_c32
  · exact w_c33
  · exact w_c34
  · exact w_c35
  · exact w_c36
  · exact w_c37
  · exact w_c38
  · exact w_c39
  · exact w_c40
  · exact w_c41
  · exact w_c42
  · exact w_c43
  · exact w_c44
  · exact w_c45
  · exact w_c46
  · exact w_c47
  · exact w_c48
  · exact w_c49
  · exact w_c50
  · exact w_c51
  · exact w_c52
  · exact w_c53
  · exact w_c54
  · exact w_c55
  · exact w_c56
  · exact w_c57
set_option maxRecDepth 65536 in
theorem w_t1 : (words1.take 24).all (fun c => isCode c || c.before args0 about1) = true := by decide +kernel
set_option maxRecDepth 65536 in
theorem w_t2 : ((words1.drop 24).take 24).all (fun c => isCode c || c.before args0 about1) = true := by decide +kernel
set_option maxRecDepth 65536 in
theorem w_t3 : (((words1.drop 24).drop 24).take 24).all (fun c => isCode c || c.before args0 about1) = true := by decide +kernel
set_option maxRecDepth 65536 in
theorem w_t4 : ((((words1.drop 24).drop 24).drop 24).take 24).all (fun c => isCode c || c.before args0 about1) = true := by decide +kernel
set_option maxRecDepth 65536 in
theorem w_t5 : (((((words1.drop 24).drop 24).drop 24).drop 24).take 24).all (fun c => isCode c || c.before args0 about1) = true := by decide +kernel
set_option maxRecDepth 65536 in
theorem w_t6 : ((((((words1.drop 24).drop 24).drop 24).drop 24).drop 24).take 24).all (fun c => isCode c || c.before args0 about1) = true := by decide +kernel
set_option maxRecDepth 65536 in
theorem w_t7 : (((((((words1.drop 24).drop 24).drop 24).drop 24).drop 24).drop 24).take 24).all (fun c => isCode c || c.before args0 about1) = true := by decide +kernel
set_option maxRecDepth 65536 in
theorem w_t8 : ((((((((words1.drop 24).drop 24).drop 24).drop 24).drop 24).drop 24).drop 24).take 24).all (fun c => isCode c || c.before args0 about1) = true := by decide +kernel
set_option maxRecDepth 65536 in
theorem w_t9 : (((((((((words1.drop 24).drop 24).drop 24).drop 24).drop 24).drop 24).drop 24).drop 24).take 24).all (fun c => isCode c || c.before args0 about1) = true := by decide +kernel
set_option maxRecDepth 65536 in
theorem w_t10 : ((((((((((words1.drop 24).drop 24).drop 24).drop 24).drop 24).drop 24).drop 24).drop 24).drop 24).take 24).all (fun c => isCode c || c.before args0 about1) = true := by decide +kernel
set_option maxRecDepth 65536 in
theorem w_t11 : (((((((((((words1.drop 24).drop 24).drop 24).drop 24).drop 24).drop 24).drop 24).drop 24).drop 24).drop 24).take 24).all (fun c => isCode c || c.before args0 about1) = true := by decide +kernel
set_option maxRecDepth 65536 in
theorem w_t12 : ((((((((((((words1.drop 24).drop 24).drop 24).drop 24).drop 24).drop 24).drop 24).drop 24).drop 24).drop 24).drop 24).take 24).all (fun c => isCode c || c.before args0 about1) = true := by decide +kernel
set_option maxRecDepth 65536 in
theorem w_t13 : (((((((((((((words1.drop 24).drop 24).drop 24).drop 24).drop 24).drop 24).drop 24).drop 24).drop 24).drop 24).drop 24).drop 24).take 24).all (fun c => isCode c || c.before args0 about1) = true := by decide +kernel
set_option maxRecDepth 65536 in
theorem w_t14 : ((((((((((((((words1.drop 24).drop 24).drop 24).drop 24).drop 24).drop 24).drop 24).drop 24).drop 24).drop 24).drop 24).drop 24).drop 24).take 24).all (fun c => isCode c || c.before args0 about1) = true := by decide +kernel
set_option maxRecDepth 65536 in
theorem w_t15 : (((((((((((((((words1.drop 24).drop 24).drop 24).drop 24).drop 24).drop 24).drop 24).drop 24).drop 24).drop 24).drop 24).drop 24).drop 24).drop 24).take 24).all (fun c => isCode c || c.before args0 about1) = true := by decide +kernel
set_option maxRecDepth 65536 in
theorem w_t16 : ((((((((((((((((words1.drop 24).drop 24).drop 24).drop 24).drop 24).drop 24).drop 24).drop 24).drop 24).drop 24).drop 24).drop 24).drop 24).drop 24).drop 24).take 24).all (fun c => isCode c || c.before args0 about1) = true := by decide +kernel
set_option maxRecDepth 65536 in
theorem w_t17 : ((((((((((((((((words1.drop 24).drop 24).drop 24).drop 24).drop 24).drop 24).drop 24).drop 24).drop 24).drop 24).drop 24).drop 24).drop 24).drop 24).drop 24).drop 24).all (fun c => isCode c || c.before args0 about1) = true := by decide +kernel
theorem w_tables : (allAtoms (Jvm.Cond.code x code maxLocals ret :: tables_1)).before args0 about1 = true := by
  rw [allAtoms_all]
  show words1.all (fun c => c.before args0 about1) = true
  refine all_split ?_ w_codes
  rw [← List.take_append_drop 24 words1, List.all_append, w_t1, ← List.take_append_drop 24 (words1.drop 24), List.all_append, w_t2, ← List.take_append_drop 24 ((words1.drop 24).drop 24), List.all_append, w_t3, ← List.take_append_drop 24 (((words1.drop 24).drop 24).drop 24), List.all_append, w_t4, ← List.take_append_drop 24 ((((words1.drop 24).drop 24).drop 24).drop 24), List.all_append, w_t5, ← List.take_append_drop 24 (((((words1.drop 24).drop 24).drop 24).drop 24).drop 24), List.all_append, w_t6, ← List.take_append_drop 24 ((((((words1.drop 24).drop 24).drop 24).drop 24).drop 24).drop 24), List.all_append, w_t7, ← List.take_append_drop 24 (((((((words1.drop 24).drop 24).drop 24).drop 24).drop 24).drop 24).drop 24), List.all_append, w_t8, ← List.take_append_drop 24 ((((((((words1.drop 24).drop 24).drop 24).drop 24).drop 24).drop 24).drop 24).drop 24), List.all_append, w_t9, ← List.take_append_drop 24 (((((((((words1.drop 24).drop 24).drop 24).drop 24).drop 24).drop 24).drop 24).drop 24).drop 24), List.all_append, w_t10, ← List.take_append_drop 24 ((((((((((words1.drop 24).drop 24).drop 24).drop 24).drop 24).drop 24).drop 24).drop 24).drop 24).drop 24), List.all_append, w_t11, ← List.take_append_drop 24 (((((((((((words1.drop 24).drop 24).drop 24).drop 24).drop 24).drop 24).drop 24).drop 24).drop 24).drop 24).drop 24), List.all_append, w_t12, ← List.take_append_drop 24 ((((((((((((words1.drop 24).drop 24).drop 24).drop 24).drop 24).drop 24).drop 24).drop 24).drop 24).drop 24).drop 24).drop 24), List.all_append, w_t13, ← List.take_append_drop 24 (((((((((((((words1.drop 24).drop 24).drop 24).drop 24).drop 24).drop 24).drop 24).drop 24).drop 24).drop 24).drop 24).drop 24).drop 24), List.all_append, w_t14, ← List.take_append_drop 24 ((((((((((((((words1.drop 24).drop 24).drop 24).drop 24).drop 24).drop 24).drop 24).drop 24).drop 24).drop 24).drop 24).drop 24).drop 24).drop 24), List.all_append, w_t15, ← List.take_append_drop 24 (((((((((((((((words1.drop 24).drop 24).drop 24).drop 24).drop 24).drop 24).drop 24).drop 24).drop 24).drop 24).drop 24).drop 24).drop 24).drop 24).drop 24), List.all_append, w_t16, w_t17]
  rfl
set_option maxRecDepth 65536 in
theorem w_rest : rest_1_c.before args0 about1 = true := by decide +kernel
set_option maxRecDepth 65536 in
theorem w_case : (Jvm.Cond.and given_1 narrow_1).before args0 about1 = true := by decide +kernel
theorem w_applies : (headSpec (Jvm.Cond.code x code maxLocals ret :: tables_1) room_1).applies x e0.platform about1 = true :=
  (Spec.applies_iff w_frames).mpr ⟨w_running, w_runnable, w_alone, w_named, w_hears, w_ripe, w_room, w_tables⟩
theorem atStart : AtStart classFile x code maxLocals ret World_1 tables_1 room_1 Calls_1 rest_1 Pre_1 launch0 p0 e0 about1 theMethod args0 below0 :=
  ⟨lists_1, trivial, launch0.admits_env _ _ _, launch0.least_env, fairChoices_fair.cas, fairChoices_fair.clock, w_frames, w_args, w_heap, w_applies, ⟨⟨27, k27, 4, by decide +kernel, rfl, by first | exact rfl | exact ⟨rfl, _, rfl, rfl⟩⟩, ⟨⟨32, k32, 5, by decide +kernel, rfl, by first | exact rfl | exact ⟨rfl, _, rfl, rfl⟩⟩, trivial⟩⟩, w_rest, w_case⟩
end start1
theorem witness_1 : WitnessClaimed_1 := ⟨start1.p0, start1.e0, start1.about1, start1.theMethod, start1.args0, start1.below0, start1.atStart⟩
end Jvm.Pilot.@@N@@
