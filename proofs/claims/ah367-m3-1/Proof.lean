import JvmDerived
import JvmDerived.Pilot.@@N@@Statement
import JvmDerived.Pilot.@@N@@Code
set_option linter.unusedVariables false
set_option linter.unusedSimpArgs false
namespace Jvm.RoadKit
open Sem ClassFile Op Lib Jvm.Stand Jvm.Free Jvm.LawKit
section Own
variable {p : Program} {l : Launch} {e : Env} {R : Room} {s : State} {m : MethodId} {args : Array Value} {below : List Frame} {meth : Method} {c : Code} {T T' : State} {locs : List Loc} {cells slots : Nat} {g g' : JFrame} {Φ : State → Prop}
/-- from this frame the run comes to a state with Φ -/
def own_G (p : Program) (e : Env) (below : List Frame) (Φ : State → Prop) (T : State) (g : JFrame) : Prop := ∃ t, Steps p.tables e below (T.setTop g) t ∧ Φ t
/-- what the end of a method with the answer Q is -/
def own_E (s : State) (below : List Frame) (Q : Option Value → Heap → List Loc → Prop) (k n : Nat) (t : State) : Prop := ∃ o, t.status = .running ∧ Ended t below o ∧ ∃ v L, o = .returned v ∧ Q v t.heap L ∧ FrameEnd s o t L k n
def own_Al (_ : Stand p l e R s m args below meth c T locs cells slots) (T' : State) : Prop := Stand p l e R s m args below meth c T' locs cells slots
theorem own_go (h : ∀ t, Steps p.tables e below (T'.setTop g') t → Steps p.tables e below (T.setTop g) t) (k : own_G p e below Φ T' g') : own_G p e below Φ T g := by
  obtain ⟨t, a, b⟩ := k
  exact ⟨t, h t a, b⟩
theorem own_on (h : Steps p.tables e below (T.setTop g) (T'.setTop g')) (k : own_G p e below Φ T' g') : own_G p e below Φ T g := by
  obtain ⟨t, a, b⟩ := k
  exact ⟨t, h.trans a, b⟩
theorem own_ret (X : Stand p l e R s m args below meth c T locs cells slots) {Q : Option Value → Heap → List Loc → Prop} {k n : Nat} {v : Option Value} (hv : meth.sig.returnType = none → v = none) (hlocks : meth.locks = false)
    (hst : ∀ fs, (∀ (f : JFrame) (acts : List Action), f.method = m → f.locked = none → f.entered = [] → (doReturn e (T.setTop f) acts v).1 = T.setFrames fs) → Steps p.tables e below (T.setTop g) (T.setFrames fs))
    (hq : Q v T.heap locs) (hc : cells ≤ k) (hn : slots ≤ n) : own_G p e below (own_E s below Q k n) T g := by
  obtain ⟨fs, hr, hrun, hended, hW, hsame⟩ := X.leave hv hlocks
  exact ⟨_, hst fs hr, _, hrun, hended, _, _, rfl, hq, ⟨_, rfl⟩, hW, hsame.mono hc hn⟩
def own_EW (s : State) (below : List Frame) (Q : Option Value → Heap → List Loc → Prop) (k n : Nat) (t : State) : Prop := ∃ o, t.status = .running ∧ Ended t below o ∧ ∃ v L, o = .returned v ∧ Q v t.heap L ∧ ReturnedEndW s o t L k n
theorem own_retW {vm₁ : Vm} (X : Stand p l e R (s.setVm vm₁) m args below meth c T locs cells slots) {q : Nat} (hS : s.Since vm₁ q) (hq' : q ≤ T.heap.size) {Q : Option Value → Heap → List Loc → Prop} {k n : Nat} {v : Option Value} (hv : meth.sig.returnType = none → v = none) (hlocks : meth.locks = false)
    (hst : ∀ fs, (∀ (f : JFrame) (acts : List Action), f.method = m → f.locked = none → f.entered = [] → (doReturn e (T.setTop f) acts v).1 = T.setFrames fs) → Steps p.tables e below (T.setTop g) (T.setFrames fs))
    (hq : Q v T.heap locs) (hc : cells ≤ k) (hn : slots ≤ n) : own_G p e below (own_EW s below Q k n) T g := by
  obtain ⟨fs, hr, hrun, hended, h1, h2, h3, h4⟩ := X.leaveW hS hq' hv hlocks
  exact ⟨_, hst fs hr, _, hrun, hended, _, _, rfl, hq, h1, h2, h3, h4.mono hc hn⟩
theorem own_lrem_eq (x y : Int64) : x - (x / y) * y = x % y := by
  apply Int64.toInt_inj.mp
  have r := rng64 (x % y)
  have hm : (x % y).toInt = x.toInt - y.toInt * x.toInt.tdiv y.toInt := by rw [Int64.toInt_mod, Int.tmod_def]
  have hs : (x - x / y * y).toInt = (x.toInt - y.toInt * x.toInt.tdiv y.toInt).bmod (2 ^ 64) := by
    rw [Int64.toInt_sub, Int64.toInt_mul, Int64.toInt_div, Int.bmod_mul_bmod, Int.sub_bmod_bmod, Int.mul_comm]
  rw [hs, ← hm]
  exact Int.bmod_eq_of_le (by omega) (by omega)
theorem own_lremM {target : State} (X : Stand p l e R s m args below meth c T locs cells slots) (hx : p.tables.exec = Jvm.exec) (hg : g.method = m) {x y : Int64} {rest : List Value} (hd : decode c.code g.pc = .ok (.lrem, 1)) (hs : g.stack = .long y :: .long x :: rest) (hy : y ≠ 0)
    (hr : Steps p.tables e below (T.setTop { g with pc := g.pc + 1, stack := .long (x % y) :: rest }) target) : Steps p.tables e below (T.setTop g) target :=
  XS.lrem X.here hx hg hd hs hy (by rw [own_lrem_eq]; exact hr)
theorem own_selp {s : State} {args : Array Value} {x y : MethodName} (hc : x.cls = y.cls) (hxi : (Cond.instanceMethod x).before args s = true) (hnf : NotFace s x) (hp : s.PrivateAt y) (hyi : (Cond.instanceMethod y).before args s = true) (hy : y.cls ≠ "java/lang/invoke/MethodHandle" ∧ y.cls ≠ "java/lang/invoke/VarHandle") : (Cond.selects y.cls y y).before args s = true := by
  obtain ⟨mk, methM, hnamed, -⟩ := Cond.instanceMethod_spec hxi
  obtain ⟨k, hk, hni⟩ := hnf mk hnamed
  exact Stand.selects_self_of_private (hc ▸ findClass_of_methodNamed hnamed) hk hni hp hyi hy
theorem own_backI {Z : State} {a0 : Array Value} {h : Heap} {y : MethodName} {bytes : ByteArray} {maxL : Nat} {ret : Option FieldType} {rm : Room} {len W : Nat} {as' : Array Value} {Q : Option Value → Heap → List Loc → Prop}
    (hM : MetFree l y (head1 [Cond.code y bytes maxL ret] rm) (fun a U => a = as' ∧ Z.Warmed39 U.vm ∧ U.heap = h ∧ IB Z U.vm []) (fun _ _ _ _ _ => True) (fun _ U o U' => ∃ v L, o = .returned v ∧ Q v U'.heap L ∧ ReturnedEndW U o U' L rm.cells rm.slots))
    (hZ : Z.Warmed39 s.vm) (hI : IB Z s.vm []) (wc : (Cond.code y bytes maxL ret).before a0 Z = true) (wz : (Cond.initialized y.cls).before a0 Z = true) (hf : rm.frames + 1 ≤ R.frames) (hl : W + (maxL + 11) + rm.locals ≤ R.locals) :
    BackS l R p e below s args y len W (fun A a => a = as' ∧ A.U.heap = h ∧ A.cells + rm.cells ≤ R.cells ∧ A.slots + rm.slots ≤ R.slots)
      (fun A _ v B => ∃ L, Q v B.U.heap L ∧ B.locs = A.locs ++ L ∧ B.cells = A.cells + rm.cells ∧ B.slots = A.slots + rm.slots) := by
  refine BackS.of_freeW (bytes := bytes) (maxL := maxL) (ret := ret) (E := fun _ _ o t L k n => k = rm.cells ∧ n = rm.slots ∧ ∃ v, o = .returned v ∧ Q v t.heap L) hM hf hl ?_ ?_ (fun _ _ _ _ _ _ _ _ _ => trivial) ?_ ?_
  · intro m meth c A a Y hp
    have hU : Z.Warmed39 A.U.vm := wtrans hZ Y.warmed
    refine ⟨?_, mv hU wc, mv hU wz, hp.2.2.1, hp.2.2.2⟩
    show (Cond.and _ .tt).before a A.U = true
    rw [Cond.before_and, mv hU wc]
    rfl
  · intro m meth c A a g mk Y hp
    obtain ⟨more, q1, q2⟩ := hI
    exact ⟨hp.1, wtrans hZ Y.warmed, hp.2.1, more, Y.warmed.interned_eq.trans q1, q2⟩
  · rintro _ _ _ _ ⟨v, L, h1, h2, h3⟩
    exact ⟨L, _, _, h3, rfl, rfl, v, h1, h2⟩
  · rintro m meth c A a g mk v t L k n Y hp _ _ ⟨rfl, rfl, v', e3, e4⟩
    cases e3
    exact ⟨L, e4, rfl, rfl, rfl⟩
def own_AlL (_ : Stand p l e R s m args below meth c T locs cells slots) (T' : State) (locs' : List Loc) (cells' slots' : Nat) : Prop := Stand p l e R s m args below meth c T' locs' cells' slots'
theorem own_nar {v : Value} {t : FieldType} (h : v.isRef = true) : narrow t v = v := by
  rcases ref_cases h with rfl | ⟨a, rfl⟩ <;> cases t <;> rfl
abbrev own_rm (f c s l : Nat) : Room := { frames := f, cells := c, slots := s, locals := l }
abbrev own_Met (l : Launch) (y : MethodName) (code : ByteArray) (maxL : Nat) (ret : Option FieldType) (ws : List Cond) (rm : Room) (Z : State) (h0 : Heap) (as' : Array Value) (Q : Option Value → Heap → List Loc → Prop) : Prop :=
  MetFree l y (head1 (Cond.code y code maxL ret :: ws) rm) (fun a U => a = as' ∧ Z.Warmed39 U.vm ∧ U.heap = h0) (fun _ _ _ _ _ => True) (fun _ U o U' => ∃ v L, o = .returned v ∧ Q v U'.heap L ∧ FrameEnd U o U' L rm.cells rm.slots)
theorem own_met {y : MethodName} {code : ByteArray} {maxL : Nat} {ret : Option FieldType} {ws : List Cond} {rm : Room} {Z : State} {h0 : Heap} {Q : Option Value → Heap → List Loc → Prop} {as' : Array Value} {L0 : Array Slot} (hpl : plainFor y = true) (hef : ∀ m, entryFrame m as' maxL = mkF m 0 L0 [])
    (body : ∀ (p : Program) (e : Env) (s : State) (m : MethodId) (below : List Frame) (meth : Method) (c : Code) (s₁ : State) (Φ : State → Prop), Φ = own_E s below Q rm.cells rm.slots → Stand p l e rm s m as' below meth c s₁ [] 0 0 → p.tables.exec = Jvm.exec → c.code = code → c.maxLocals = maxL → s.vm.findClass y.cls = some m.cls → meth.name = y.name → meth.sig.returnType = ret → meth.locks = false → Z.Warmed39 s.vm → s₁.heap = h0 → own_G p e below Φ s₁ (mkF m 0 L0 [])) :
    own_Met l y code maxL ret ws rm Z h0 as' Q := by
  refine MetFree.of_bodySF hpl hisR ?_
  intro p e s m args below meth c s₁ Bd hml0 hP hK
  obtain ⟨rfl, hZ, hh⟩ := hP
  obtain ⟨t, st, o, q1, q2, q3⟩ := body p e s m below meth c s₁ _ rfl (Stand.of_body Bd) Bd.exec Bd.bytes hml0 (findClass_of_methodNamed Bd.named) (name_of_methodNamed Bd.named Bd.method).1 Bd.returns (BodyLoose.notSynchronized Bd) hZ (by rw [← hh, Bd.state]; rfl)
  exact ⟨t, o, castTop (hef m) st, q1, q2, q3⟩
def own_B (p : Program) (c : Code) (code : ByteArray) (ml : Nat) : Prop := p.tables.exec = Jvm.exec ∧ c.code = code ∧ c.maxLocals = ml
theorem own_jmp {pc pc' : Nat} {o : Int} (h : (pc : Int) + o = (pc' : Int)) : 0 ≤ (pc : Int) + o ∧ ((pc : Int) + o).toNat = pc' := by omega
section Steps
variable {code : ByteArray} {ml : Nat}
theorem o_iload (X : Stand p l e R s m args below meth c T locs cells slots) (B : own_B p c code ml) {pc : Nat} {L : Array Slot} {S : List Value} {k : Nat} {v : Int32} (hd : decode code pc = .ok (.iload k, 2)) (hl : L[k]? = some (.val (.int v))) (K : own_G p e below Φ T (mkF m (pc + 2) L (.int v :: S))) : own_G p e below Φ T (mkF m pc L S) := own_go (fun _ => XS.iload X.here B.1 rfl (hb B.2.1 hd) hl) K
theorem o_iloadN (X : Stand p l e R s m args below meth c T locs cells slots) (B : own_B p c code ml) {pc : Nat} {L : Array Slot} {S : List Value} {k : Fin 4} {v : Int32} (hd : decode code pc = .ok (.iload_n k, 1)) (hl : L[k.val]? = some (.val (.int v))) (K : own_G p e below Φ T (mkF m (pc + 1) L (.int v :: S))) : own_G p e below Φ T (mkF m pc L S) := own_go (fun _ => XS.iloadN X.here B.1 rfl (hb B.2.1 hd) hl) K
theorem o_aload (X : Stand p l e R s m args below meth c T locs cells slots) (B : own_B p c code ml) {pc : Nat} {L : Array Slot} {S : List Value} {k : Nat} {v : Value} (hd : decode code pc = .ok (.aload k, 2)) (hl : L[k]? = some (.val v)) (hv : v.isRef = true) (K : own_G p e below Φ T (mkF m (pc + 2) L (v :: S))) : own_G p e below Φ T (mkF m pc L S) := own_go (fun _ => XS.aload X.here B.1 rfl (hb B.2.1 hd) hl hv) K
theorem o_aloadN (X : Stand p l e R s m args below meth c T locs cells slots) (B : own_B p c code ml) {pc : Nat} {L : Array Slot} {S : List Value} {k : Fin 4} {v : Value} (hd : decode code pc = .ok (.aload_n k, 1)) (hl : L[k.val]? = some (.val v)) (hv : v.isRef = true) (K : own_G p e below Φ T (mkF m (pc + 1) L (v :: S))) : own_G p e below Φ T (mkF m pc L S) := own_go (fun _ => XS.aloadN X.here B.1 rfl (hb B.2.1 hd) hl hv) K
theorem o_istore (X : Stand p l e R s m args below meth c T locs cells slots) (B : own_B p c code ml) {pc : Nat} {L : Array Slot} {S : List Value} {k : Nat} {x : Int32} {L' : Array Slot} (hd : decode code pc = .ok (.istore k, 2)) (hl : storeLocals L k (.int x) = some L') (K : own_G p e below Φ T (mkF m (pc + 2) L' S)) : own_G p e below Φ T (mkF m pc L (.int x :: S)) := own_go (fun _ => XS.istore X.here B.1 rfl (hb B.2.1 hd) rfl hl) K
theorem o_istoreN (X : Stand p l e R s m args below meth c T locs cells slots) (B : own_B p c code ml) {pc : Nat} {L : Array Slot} {S : List Value} {k : Fin 4} {x : Int32} {L' : Array Slot} (hd : decode code pc = .ok (.istore_n k, 1)) (hl : storeLocals L k.val (.int x) = some L') (K : own_G p e below Φ T (mkF m (pc + 1) L' S)) : own_G p e below Φ T (mkF m pc L (.int x :: S)) := own_go (fun _ => XS.istoreN X.here B.1 rfl (hb B.2.1 hd) rfl hl) K
theorem o_astore (X : Stand p l e R s m args below meth c T locs cells slots) (B : own_B p c code ml) {pc : Nat} {L : Array Slot} {S : List Value} {k : Nat} {x : Value} {L' : Array Slot} (hd : decode code pc = .ok (.astore k, 2)) (hv : x.isRef = true) (hl : storeLocals L k x = some L') (K : own_G p e below Φ T (mkF m (pc + 2) L' S)) : own_G p e below Φ T (mkF m pc L (x :: S)) := own_go (fun _ => XS.astore X.here B.1 rfl (hb B.2.1 hd) rfl hv hl) K
theorem o_astoreN (X : Stand p l e R s m args below meth c T locs cells slots) (B : own_B p c code ml) {pc : Nat} {L : Array Slot} {S : List Value} {k : Fin 4} {x : Value} {L' : Array Slot} (hd : decode code pc = .ok (.astore_n k, 1)) (hv : x.isRef = true) (hl : storeLocals L k.val x = some L') (K : own_G p e below Φ T (mkF m (pc + 1) L' S)) : own_G p e below Φ T (mkF m pc L (x :: S)) := own_go (fun _ => XS.astoreN X.here B.1 rfl (hb B.2.1 hd) rfl hv hl) K
theorem o_iconst (X : Stand p l e R s m args below meth c T locs cells slots) (B : own_B p c code ml) {pc : Nat} {L : Array Slot} {S : List Value} {i : Int} (hd : decode code pc = .ok (.iconst i, 1))  (K : own_G p e below Φ T (mkF m (pc + 1) L (.int (Int32.ofInt i) :: S))) : own_G p e below Φ T (mkF m pc L S) := own_go (fun _ => XS.iconst X.here B.1 rfl (hb B.2.1 hd)) K
theorem o_bipush (X : Stand p l e R s m args below meth c T locs cells slots) (B : own_B p c code ml) {pc : Nat} {L : Array Slot} {S : List Value} {i : Int} (hd : decode code pc = .ok (.bipush i, 2))  (K : own_G p e below Φ T (mkF m (pc + 2) L (.int (Int8.ofInt i).toInt32 :: S))) : own_G p e below Φ T (mkF m pc L S) := own_go (fun _ => XS.bipush X.here B.1 rfl (hb B.2.1 hd)) K
theorem o_sipush (X : Stand p l e R s m args below meth c T locs cells slots) (B : own_B p c code ml) {pc : Nat} {L : Array Slot} {S : List Value} {i : Int} (hd : decode code pc = .ok (.sipush i, 3))  (K : own_G p e below Φ T (mkF m (pc + 3) L (.int (Int16.ofInt i).toInt32 :: S))) : own_G p e below Φ T (mkF m pc L S) := own_go (fun _ => XS.sipush X.here B.1 rfl (hb B.2.1 hd)) K
theorem o_anull (X : Stand p l e R s m args below meth c T locs cells slots) (B : own_B p c code ml) {pc : Nat} {L : Array Slot} {S : List Value}  (hd : decode code pc = .ok (.aconst_null, 1))  (K : own_G p e below Φ T (mkF m (pc + 1) L (.null :: S))) : own_G p e below Φ T (mkF m pc L S) := own_go (fun _ => XS.aconstNull X.here B.1 rfl (hb B.2.1 hd)) K
theorem o_dup (X : Stand p l e R s m args below meth c T locs cells slots) (B : own_B p c code ml) {pc : Nat} {L : Array Slot} {S : List Value} {v : Value} (hd : decode code pc = .ok (.dup, 1)) (hv : v.category = 1) (K : own_G p e below Φ T (mkF m (pc + 1) L (v :: v :: S))) : own_G p e below Φ T (mkF m pc L (v :: S)) := own_go (fun _ => XS.dup X.here B.1 rfl (hb B.2.1 hd) rfl hv) K
theorem o_pop (X : Stand p l e R s m args below meth c T locs cells slots) (B : own_B p c code ml) {pc : Nat} {L : Array Slot} {S : List Value} {v : Value} (hd : decode code pc = .ok (.pop, 1)) (hv : v.category = 1) (K : own_G p e below Φ T (mkF m (pc + 1) L S)) : own_G p e below Φ T (mkF m pc L (v :: S)) := own_go (fun _ => XS.pop X.here B.1 rfl (hb B.2.1 hd) rfl hv) K
theorem o_iinc (X : Stand p l e R s m args below meth c T locs cells slots) (B : own_B p c code ml) {pc : Nat} {L : Array Slot} {S : List Value} {k : Nat} {cst : Int} {x : Int32} {L' : Array Slot} (hd : decode code pc = .ok (.iinc k cst, 3)) (hl : L[k]? = some (.val (.int x))) (hl' : storeLocals L k (.int (x + Int32.ofInt cst)) = some L') (K : own_G p e below Φ T (mkF m (pc + 3) L' S)) : own_G p e below Φ T (mkF m pc L S) := own_go (fun _ => XS.iinc X.here B.1 rfl (hb B.2.1 hd) hl hl') K
theorem o_goto (X : Stand p l e R s m args below meth c T locs cells slots) (B : own_B p c code ml) {pc : Nat} {L : Array Slot} {S : List Value} {o : Int} (pc' : Nat) (hd : decode code pc = .ok (.goto o, 3)) (h : (pc : Int) + o = (pc' : Int)) (K : own_G p e below Φ T (mkF m pc' L S)) : own_G p e below Φ T (mkF m pc L S) := own_go (fun _ => XS.goto X.here B.1 rfl rfl (hb B.2.1 hd) (own_jmp h).1 (own_jmp h).2) K
theorem o_ifY (X : Stand p l e R s m args below meth c T locs cells slots) (B : own_B p c code ml) {pc : Nat} {L : Array Slot} {S : List Value} {cd : ClassFile.Cond} {o : Int} {x : Int32} (pc' : Nat) (hd : decode code pc = .ok (.ifCond cd o, 3)) (hc : ifCond.holds cd x = true) (h : (pc : Int) + o = (pc' : Int)) (K : own_G p e below Φ T (mkF m pc' L S)) : own_G p e below Φ T (mkF m pc L (.int x :: S)) := own_go (fun _ => XS.ifYes X.here B.1 rfl rfl (hb B.2.1 hd) rfl hc (own_jmp h).1 (own_jmp h).2) K
theorem o_ifN (X : Stand p l e R s m args below meth c T locs cells slots) (B : own_B p c code ml) {pc : Nat} {L : Array Slot} {S : List Value} {cd : ClassFile.Cond} {o : Int} {x : Int32} (hd : decode code pc = .ok (.ifCond cd o, 3)) (hc : ifCond.holds cd x = false) (K : own_G p e below Φ T (mkF m (pc + 3) L S)) : own_G p e below Φ T (mkF m pc L (.int x :: S)) := own_go (fun _ => XS.ifNo X.here B.1 rfl (hb B.2.1 hd) rfl hc) K
theorem o_icY (X : Stand p l e R s m args below meth c T locs cells slots) (B : own_B p c code ml) {pc : Nat} {L : Array Slot} {S : List Value} {cd : ClassFile.Cond} {o : Int} {x y : Int32} (pc' : Nat) (hd : decode code pc = .ok (.if_icmp cd o, 3)) (hc : if_icmp.holds cd x y = true) (h : (pc : Int) + o = (pc' : Int)) (K : own_G p e below Φ T (mkF m pc' L S)) : own_G p e below Φ T (mkF m pc L (.int y :: .int x :: S)) := own_go (fun _ => XS.icmpYes X.here B.1 rfl rfl (hb B.2.1 hd) rfl hc (own_jmp h).1 (own_jmp h).2) K
theorem o_icN (X : Stand p l e R s m args below meth c T locs cells slots) (B : own_B p c code ml) {pc : Nat} {L : Array Slot} {S : List Value} {cd : ClassFile.Cond} {o : Int} {x y : Int32} (hd : decode code pc = .ok (.if_icmp cd o, 3)) (hc : if_icmp.holds cd x y = false) (K : own_G p e below Φ T (mkF m (pc + 3) L S)) : own_G p e below Φ T (mkF m pc L (.int y :: .int x :: S)) := own_go (fun _ => XS.icmpNo X.here B.1 rfl (hb B.2.1 hd) rfl hc) K
theorem o_cS (X : Stand p l e R s m args below meth c T locs cells slots) (B : own_B p c code ml) {pc : Nat} {L : Array Slot} {S : List Value} {Z : State} {a0 : Array Value} (hZ : Z.Warmed39 s.vm) {own : String} (hown : s.vm.findClass own = some m.cls) {ix : Nat} {bytes : ByteArray} {maxL : Nat} {ret : Option FieldType} {rm : Room} {as' : Array Value} {h : Heap} {Q : Option Value → Heap → List Loc → Prop} {rest argsL : List Value} {y : MethodName} (w1 : (Cond.methodLink own ix y).before a0 Z = true) (w2 : (Cond.static y).before a0 Z = true) (w4 : (Cond.code y bytes maxL ret).before a0 Z = true) (w3 : (Cond.initialized y.cls).before a0 Z = true) (hy : y.cls ≠ "java/lang/invoke/MethodHandle" ∧ y.cls ≠ "java/lang/invoke/VarHandle") (W : Nat) (hM : own_Met l y bytes maxL ret [] rm Z h as' Q) (hf : rm.frames + 1 ≤ R.frames) (hl : W + (maxL + 11) + rm.locals ≤ R.locals) (hlen : ∀ sig, parseMethodDescriptor y.desc = some sig → argsL.length = sig.parameters.length) (has : argsL.toArray = as') (hst : S = argsL.reverse ++ rest) (hW : (rest.map fun v => v.category).sum = W) (hd : decode code pc = .ok (.invokestatic ix, 3)) (hh : T.heap = h) (hc : cells + rm.cells ≤ R.cells) (hn : slots + rm.slots ≤ R.slots) (hL : L.size = ml)
    (K : ∀ v T' L', Stand p l e R s m args below meth c T' (locs ++ L') (cells + rm.cells) (slots + rm.slots) → Q v T'.heap L' → own_G p e below Φ T' (mkF m (pc + 3) L (v.toList ++ rest))) :
    own_G p e below Φ T (mkF m pc L S) := by
  obtain ⟨v, _, ⟨T', zL, zk, zn⟩, -, X', ⟨L', hQ, zl, zy, zz⟩, st⟩ := Jvm.LawKit.callS X B.1 hown (mvT hZ w1) (mvT hZ w2) (mvT hZ w3) (mvT hZ w4) hy (backOf (W := W) hM hZ w4 w3 hf hl) (g := mkF m pc L S) rfl (by rw [B.2.2]; exact hL) (argsL := argsL) (rest := rest) hlen hst (by show 2 * 0 + _ ≤ _; rw [hW]; omega) (hb B.2.1 hd) (fun _ _ => ⟨has, hh, hc, hn⟩)
  dsimp only [Pt.U, Pt.locs, Pt.cells, Pt.slots] at X' zl zy zz st hQ
  subst zl zy zz
  exact own_go st (K v T' L' X' hQ)
theorem o_cI (X : Stand p l e R s m args below meth c T locs cells slots) (B : own_B p c code ml) {pc : Nat} {L : Array Slot} {S : List Value} {Z : State} {a0 : Array Value} (hZ : Z.Warmed39 s.vm) {own : String} (hown : s.vm.findClass own = some m.cls) {ix : Nat} {bytes : ByteArray} {maxL : Nat} {ret : Option FieldType} {rm : Room} {as' : Array Value} {h : Heap} {Q : Option Value → Heap → List Loc → Prop} {rest argsL : List Value} {y : MethodName} {b : Addr} (hi : y.name = "<init>") (w1 : (Cond.methodLink own ix y).before a0 Z = true) (w2 : (Cond.instanceMethod y).before a0 Z = true) (w4 : (Cond.code y bytes maxL ret).before a0 Z = true) (w3 : (Cond.initialized y.cls).before a0 Z = true) (hy : y.cls ≠ "java/lang/invoke/MethodHandle" ∧ y.cls ≠ "java/lang/invoke/VarHandle") (hr : ret = none) (W : Nat) (hM : own_Met l y bytes maxL ret [] rm Z h as' Q) (hf : rm.frames + 1 ≤ R.frames) (hl : W + (maxL + 11) + rm.locals ≤ R.locals) (hlen : ∀ sig, parseMethodDescriptor y.desc = some sig → argsL.length = sig.parameters.length) (has : (Value.ref b :: argsL).toArray = as') (hst : S = argsL.reverse ++ .ref b :: rest) (hW : (rest.map fun v => v.category).sum = W) (hd : decode code pc = .ok (.invokespecial ix, 3)) (hh : T.heap = h) (hc : cells + rm.cells ≤ R.cells) (hn : slots + rm.slots ≤ R.slots) (hL : L.size = ml)
    (K : ∀ v T' L', Stand p l e R s m args below meth c T' (locs ++ L') (cells + rm.cells) (slots + rm.slots) → Q v T'.heap L' → own_G p e below Φ T' (mkF m (pc + 3) L (v.toList ++ rest))) :
    own_G p e below Φ T (mkF m pc L S) := by
  subst hr
  obtain ⟨v, _, ⟨T', zL, zk, zn⟩, -, X', ⟨L', hQ, zl, zy, zz⟩, st⟩ := X.specialBack B.1 hi hown (mvT hZ w1) (mvT hZ w2) (mvT hZ w4) hy (backOf (W := W) hM hZ w4 w3 hf hl) (g := mkF m pc L S) rfl (by rw [B.2.2]; exact hL) (Steps.refl _) (a := b) (argsL := argsL) (rest := rest) hlen hst (by show 2 * 0 + _ ≤ _; rw [hW]; omega) (hb B.2.1 hd) (fun _ _ => ⟨has, hh, hc, hn⟩)
  dsimp only [Pt.U, Pt.locs, Pt.cells, Pt.slots] at X' zl zy zz st hQ
  subst zl zy zz
  exact own_on st (K v T' L' X' hQ)
theorem o_cV (X : Stand p l e R s m args below meth c T locs cells slots) (B : own_B p c code ml) {pc : Nat} {L : Array Slot} {S : List Value} {Z : State} {a0 : Array Value} (hZ : Z.Warmed39 s.vm) {own : String} (hown : s.vm.findClass own = some m.cls) {ix : Nat} {bytes : ByteArray} {maxL : Nat} {ret : Option FieldType} {rm : Room} {as' : Array Value} {h : Heap} {Q : Option Value → Heap → List Loc → Prop} {rest argsL : List Value} {C : String} {y : MethodName} {b : Addr} (w1 : (Cond.methodLink own ix y).before a0 Z = true) (w2 : (Cond.declares y).before a0 Z = true) (w5 : (Cond.selects C y y).before a0 Z = true) (w6 : (Cond.instanceMethod y).before a0 Z = true) (w4 : (Cond.code y bytes maxL ret).before a0 Z = true) (w3 : (Cond.initialized y.cls).before a0 Z = true) (hy : y.cls ≠ "java/lang/invoke/MethodHandle" ∧ y.cls ≠ "java/lang/invoke/VarHandle") (ex : Exa Z h b C) (W : Nat) (hM : own_Met l y bytes maxL ret [] rm Z h as' Q) (hf : rm.frames + 1 ≤ R.frames) (hl : W + (maxL + 11) + rm.locals ≤ R.locals) (hlen : ∀ sig, parseMethodDescriptor y.desc = some sig → argsL.length = sig.parameters.length) (has : (Value.ref b :: argsL).toArray = as') (hst : S = argsL.reverse ++ .ref b :: rest) (hW : (rest.map fun v => v.category).sum = W) (hd : decode code pc = .ok (.invokevirtual ix, 3)) (hh : T.heap = h) (hc : cells + rm.cells ≤ R.cells) (hn : slots + rm.slots ≤ R.slots) (hL : L.size = ml)
    (K : ∀ v T' L', Stand p l e R s m args below meth c T' (locs ++ L') (cells + rm.cells) (slots + rm.slots) → Q v T'.heap L' → own_G p e below Φ T' (mkF m (pc + 3) L (v.toList ++ rest))) :
    own_G p e below Φ T (mkF m pc L S) := by
  obtain ⟨cq, kq, q1, q2, q3⟩ := isOf hZ hh ex
  obtain ⟨v, _, ⟨T', zL, zk, zn⟩, -, X', ⟨L', hQ, zl, zy, zz⟩, st⟩ := X.virtualBack B.1 hown (mvT hZ w1) (mvT hZ w2) (notFace_of_selects (args := #[]) (mvT hZ w5)) (mvT hZ w5) (mvT hZ w6) hy (backOf (W := W) hM hZ w4 w3 hf hl) q1 q3 (g := mkF m pc L S) rfl (by rw [B.2.2]; exact hL) (Steps.refl _) (argsL := argsL) (rest := rest) hlen hst (by show 2 * 0 + _ ≤ _; rw [hW]; omega) (hb B.2.1 hd) (fun _ _ => ⟨has, hh, hc, hn⟩)
  dsimp only [Pt.U, Pt.locs, Pt.cells, Pt.slots] at X' zl zy zz st hQ
  subst zl zy zz
  exact own_on st (K v T' L' X' hQ)
theorem o_cF (X : Stand p l e R s m args below meth c T locs cells slots) (B : own_B p c code ml) {pc : Nat} {L : Array Slot} {S : List Value} {Z : State} {a0 : Array Value} (hZ : Z.Warmed39 s.vm) {own : String} (hown : s.vm.findClass own = some m.cls) {ix : Nat} {bytes : ByteArray} {maxL : Nat} {ret : Option FieldType} {rm : Room} {as' : Array Value} {h : Heap} {Q : Option Value → Heap → List Loc → Prop} {rest argsL : List Value} {C : String} {n : Nat} {xi y : MethodName} {b : Addr} (w1 : (Cond.methodLink own ix xi).before a0 Z = true) (w2 : (Cond.declares xi).before a0 Z = true) (w5 : (Cond.interfaceMethod xi.cls xi.cls xi.name xi.desc).before a0 Z = true) (w6 : (Cond.selects C xi y).before a0 Z = true) (w7 : (Cond.instanceMethod y).before a0 Z = true) (w8 : (Cond.publicMethod y).before a0 Z = true) (w9 : (Cond.unhidden C xi.name xi.desc).before a0 Z = true) (w10 : (Cond.castable C xi.cls).before a0 Z = true) (w4 : (Cond.code y bytes maxL ret).before a0 Z = true) (w3 : (Cond.initialized y.cls).before a0 Z = true) (hy : xi.cls ≠ "java/lang/invoke/MethodHandle" ∧ xi.cls ≠ "java/lang/invoke/VarHandle") (ex : Exa Z h b C) (W : Nat) (hM : own_Met l y bytes maxL ret [] rm Z h as' Q) (hf : rm.frames + 1 ≤ R.frames) (hl : W + (maxL + 11) + rm.locals ≤ R.locals) (hlen : ∀ sig, parseMethodDescriptor xi.desc = some sig → argsL.length = sig.parameters.length) (has : (Value.ref b :: argsL).toArray = as') (hst : S = argsL.reverse ++ .ref b :: rest) (hW : (rest.map fun v => v.category).sum = W) (hd : decode code pc = .ok (.invokeinterface ix n, 5)) (hh : T.heap = h) (hc : cells + rm.cells ≤ R.cells) (hn : slots + rm.slots ≤ R.slots) (hL : L.size = ml)
    (K : ∀ v T' L', Stand p l e R s m args below meth c T' (locs ++ L') (cells + rm.cells) (slots + rm.slots) → Q v T'.heap L' → own_G p e below Φ T' (mkF m (pc + 5) L (v.toList ++ rest))) :
    own_G p e below Φ T (mkF m pc L S) := by
  obtain ⟨cq, kq, q1, q2, q3⟩ := isOf hZ hh ex
  obtain ⟨v, _, ⟨T', zL, zk, zn⟩, -, X', ⟨L', hQ, zl, zy, zz⟩, st⟩ := X.interfaceBack B.1 hown (mvT hZ w1) (mvT hZ w2) (Jvm.Free.ULB.iface_rides hZ.alike w5) (mvT hZ w6) (mvT hZ w7) (mvT hZ w8) (mvT hZ w9) (mvT hZ w10) hy (backOf (W := W) hM hZ w4 w3 hf hl) q1 q2 q3 (g := mkF m pc L S) rfl (by rw [B.2.2]; exact hL) (Steps.refl _) (argsL := argsL) (rest := rest) hlen hst (by show 2 * 0 + _ ≤ _; rw [hW]; omega) (hb B.2.1 hd) (fun _ _ => ⟨has, hh, hc, hn⟩)
  dsimp only [Pt.U, Pt.locs, Pt.cells, Pt.slots] at X' zl zy zz st hQ
  subst zl zy zz
  exact own_on st (K v T' L' X' hQ)
theorem own_nf {s : State} {args : Array Value} {C : String} {x y z : MethodName} (w : (Cond.selects C x z).before args s = true) (hc : y.cls = z.cls) : NotFace s y := fun r0 h0 => by
  obtain ⟨c, r, m, -, -, h3, -, mk, h4, h5⟩ := Cond.selects_spec w
  have a := findClass_of_methodNamed h0
  have b := findClass_of_methodNamed h3
  rw [hc] at a
  have q := Option.some.inj (a.symm.trans b)
  exact ⟨mk, by rw [q]; exact h4, h5⟩
end Steps
end Own
end Jvm.RoadKit
namespace Jvm.Pilot.@@N@@
open Jvm Jvm.ClassFile Sem Op Lib Jvm.Free Jvm.Stand Jvm.LawKit Jvm.RoadKit Bundle Jvm.Pilot.@@N@@.Jvm.D

theorem own_255 : ∀ j : Fin 32, (255#32).getLsbD j.val = decide (j.val < 8) := by decide
theorem bv8 (x : BitVec 32) : ((x.signExtend 8).signExtend 32) &&& 255#32 = x &&& 255#32 := by
  apply BitVec.eq_of_getLsbD_eq
  intro i hi
  have h255 := own_255 ⟨i, hi⟩
  dsimp only at h255
  rw [BitVec.getLsbD_and, BitVec.getLsbD_and, h255]
  by_cases h : i < 8
  · rw [decide_eq_true h, Bool.and_true, Bool.and_true, BitVec.getLsbD_signExtend, if_pos h, BitVec.getLsbD_signExtend, if_pos hi]
    simp [h, hi]
  · simp [h]
theorem bvlo (x : BitVec 32) (h : x.toNat ≤ 255) : x &&& 255#32 = x := by
  apply BitVec.eq_of_toNat_eq
  rw [BitVec.toNat_and]
  show x.toNat &&& 2 ^ 8 - 1 = x.toNat
  rw [Nat.and_two_pow_sub_one_eq_mod]
  omega
theorem bv16 (x : BitVec 32) (h : x.toNat ≤ 65535) : (x &&& 255#32) ||| (((x.sshiftRight 8) &&& 255#32) <<< 8) = x := by
  have hm : x.msb = false := by rw [BitVec.msb_eq_false_iff_two_mul_lt]; omega
  rw [BitVec.sshiftRight_eq_of_msb_false hm]
  apply BitVec.eq_of_toNat_eq
  rw [BitVec.toNat_or, BitVec.toNat_shiftLeft, BitVec.toNat_and, BitVec.toNat_and, BitVec.toNat_ushiftRight]
  show (x.toNat &&& 2 ^ 8 - 1) ||| (((x.toNat >>> 8 &&& 2 ^ 8 - 1) <<< 8) % 2 ^ 32) = x.toNat
  rw [Nat.and_two_pow_sub_one_eq_mod, Nat.and_two_pow_sub_one_eq_mod, Nat.shiftRight_eq_div_pow, Nat.shiftLeft_eq, Nat.mod_eq_of_lt (b := 2 ^ 32) (by omega), Nat.or_comm, Nat.mul_comm, ← Nat.two_pow_add_eq_or_of_lt (by omega : x.toNat % 2 ^ 8 < 2 ^ 8)]
  omega

def nar8 (x : Int32) : Int32 := x.toInt8.toInt32
theorem i8 (c : Int32) : ((c.toInt8.toInt32).toInt8.toInt32 &&& (255 : Int32)).toBitVec = c.toBitVec &&& 255#32 := by
  rw [Int8.toInt8_toInt32]
  rw [Int32.toBitVec_and]
  rw [Int8.toBitVec_toInt32, Int32.toBitVec_toInt8]
  exact bv8 c.toBitVec
theorem toNat_of {c : Int32} {n : Nat} (h1 : ¬ c < 0) (h2 : ¬ (Int32.ofNat n) < c) (hn : n < 2147483648) : c.toBitVec.toNat ≤ n := by
  rw [Int32.lt_iff_toInt_lt] at h1 h2
  rw [Int32.toInt_ofNat_of_lt (by omega)] at h2
  rw [show (0 : Int32).toInt = 0 from rfl] at h1
  have e : c.toInt = c.toBitVec.toInt := rfl
  rw [e] at h1 h2
  rw [BitVec.toInt_eq_toNat_cond] at h1 h2
  split at h1 <;> omega
theorem ch (y : Int32) (h : y.toBitVec.toNat ≤ 65535) : y.toUInt32.toUInt16.toUInt32.toInt32 = y := by
  apply Int32.toBitVec_inj.mp
  apply BitVec.eq_of_toNat_eq
  simp only [UInt32.toBitVec_toInt32, UInt16.toBitVec_toUInt32, UInt32.toBitVec_toUInt16, Int32.toBitVec_toUInt32, BitVec.toNat_setWidth]
  omega
theorem rd8 {c : Int32} (h1 : ¬ c < 0) (h2 : ¬ (255 : Int32) < c) : ((c.toInt8.toInt32).toInt8.toInt32 &&& (255 : Int32)).toUInt32.toUInt16.toUInt32.toInt32 = c := by
  have hc := toNat_of (n := 255) h1 h2 (by decide)
  have e : (c.toInt8.toInt32).toInt8.toInt32 &&& (255 : Int32) = c := Int32.toBitVec_inj.mp (by rw [i8, bvlo _ hc])
  rw [e]
  exact ch c (by omega)
theorem sh0 (c : Int32) : c >>> ((0 : Int32) &&& 31) = c := by
  apply Int32.toBitVec_inj.mp
  rw [Int32.toBitVec_shiftRight]
  have : ((0 : Int32) &&& 31).toBitVec.smod 32 = 0#32 := by decide
  rw [this]
  simp
theorem sh8 (c : Int32) : (c >>> ((8 : Int32) &&& 31)).toBitVec = c.toBitVec.sshiftRight 8 := by
  rw [Int32.toBitVec_shiftRight]
  have : ((8 : Int32) &&& 31).toBitVec.smod 32 = 8#32 := by decide
  rw [this]
  rfl
theorem sl0 (c : Int32) : c <<< ((0 : Int32) &&& 31) = c := by
  apply Int32.toBitVec_inj.mp
  rw [Int32.toBitVec_shiftLeft]
  have : ((0 : Int32) &&& 31).toBitVec.smod 32 = 0#32 := by decide
  rw [this]
  simp
theorem sl8 (c : Int32) : (c <<< ((8 : Int32) &&& 31)).toBitVec = c.toBitVec <<< 8 := by
  rw [Int32.toBitVec_shiftLeft]
  have : ((8 : Int32) &&& 31).toBitVec.smod 32 = 8#32 := by decide
  rw [this]
  rfl
theorem rd16 {c : Int32} (h1 : ¬ c < 0) (h2 : ¬ (65535 : Int32) < c) : ((((((c >>> ((0 : Int32) &&& 31)).toInt8.toInt32).toInt8.toInt32 &&& (255 : Int32)) <<< ((0 : Int32) &&& 31)) ||| (((((c >>> ((8 : Int32) &&& 31)).toInt8.toInt32).toInt8.toInt32 &&& (255 : Int32)) <<< ((8 : Int32) &&& 31))))).toUInt32.toUInt16.toUInt32.toInt32 = c := by
  have hc := toNat_of (n := 65535) h1 h2 (by decide)
  have e : ((((c >>> ((0 : Int32) &&& 31)).toInt8.toInt32).toInt8.toInt32 &&& (255 : Int32)) <<< ((0 : Int32) &&& 31)) ||| (((((c >>> ((8 : Int32) &&& 31)).toInt8.toInt32).toInt8.toInt32 &&& (255 : Int32)) <<< ((8 : Int32) &&& 31))) = c := by
    apply Int32.toBitVec_inj.mp
    rw [Int32.toBitVec_or, sl0, sl8, i8, i8, sh0, sh8]
    exact bv16 _ hc
  rw [e]
  exact ch c hc

abbrev own_H (Z : State) (a0 : Array Value) : Prop := ∀ d ∈ tables_1, d.before a0 Z = true
theorem own_nr {meth : Method} {t : FieldType} {v : Option Value} (h : meth.sig.returnType = some t) : meth.sig.returnType = none → v = none := fun q => by rw [h] at q; cases q
theorem own_sub : ∀ d ∈ Bundle.stringAtoms, d ∈ tables_1 := by decide +kernel
def own_vs (L : List Int32) : List Value := L.map Value.int
theorem own_vs_at (L : List Int32) (k : Nat) : (own_vs L).getD k (.int 0) = .int (L.getD k 0) := by
  simp only [own_vs, List.getD_eq_getElem?_getD, List.getElem?_map]
  cases L[k]? <;> rfl
theorem own_vs_set (L : List Int32) (k : Nat) (x : Int32) : (own_vs L).set k (.int x) = own_vs (L.set k x) := by
  simp [own_vs, List.map_set]
theorem own_vs_len (L : List Int32) : (own_vs L).length = L.length := by simp [own_vs]
theorem own_tn (i : Int32) : i.toNatClampNeg = i.toInt.toNat := rfl
theorem own_clamp {j z : Int32} (h : ¬ j < 0 ∧ j < z) : j.toNatClampNeg < z.toNatClampNeg := by
  have h1 := h.1
  have h2 := h.2
  rw [Int32.lt_iff_toInt_lt] at h1 h2
  rw [show (0 : Int32).toInt = 0 from rfl] at h1
  rw [own_tn, own_tn]
  omega
/-- the low byte, stored; the bytes of a char stored in two -/
def own_lo (c : Int32) : Int32 := nar .byte (c.toInt8.toInt32)
def own_h0 (c : Int32) : Int32 := nar .byte ((c >>> ((0 : Int32) &&& 31)).toInt8.toInt32)
def own_h8 (c : Int32) : Int32 := nar .byte ((c >>> ((8 : Int32) &&& 31)).toInt8.toInt32)
def own_c8 (L : List Int32) (i : Int32) : Int32 := nar .char ((L.getD i.toNatClampNeg 0 &&& (255 : Int32)).toUInt32.toUInt16.toUInt32.toInt32)
def own_c16 (L : List Int32) (i : Int32) : Int32 := nar .char (((((L.getD (i <<< ((1 : Int32) &&& 31)).toNatClampNeg 0) &&& (255 : Int32)) <<< ((0 : Int32) &&& 31)) ||| (((L.getD ((i <<< ((1 : Int32) &&& 31)) + (1 : Int32)).toNatClampNeg 0) &&& (255 : Int32)) <<< ((8 : Int32) &&& 31))).toUInt32.toUInt16.toUInt32.toInt32)
def own_put (L : List Int32) (i c : Int32) : List Int32 := (L.set (i <<< ((1 : Int32) &&& 31)).toNatClampNeg (own_h0 c)).set ((i <<< ((1 : Int32) &&& 31)) + (1 : Int32)).toNatClampNeg (own_h8 c)
theorem own_narc {c : Int32} (h : ¬ c < 0 ∧ ¬ (65535 : Int32) < c) : nar .char c = c := ch c (toNat_of (n := 65535) h.1 h.2 (by decide))
theorem own_r8 {c : Int32} (h : ¬ c < 0 ∧ ¬ (255 : Int32) < c) : nar .char ((own_lo c &&& (255 : Int32)).toUInt32.toUInt16.toUInt32.toInt32) = c := by
  have e : (own_lo c &&& (255 : Int32)).toUInt32.toUInt16.toUInt32.toInt32 = c := rd8 h.1 h.2
  rw [e]
  exact ch c (Nat.le_trans (toNat_of (n := 255) h.1 h.2 (by decide)) (by decide))
theorem own_r16 {c : Int32} (h : ¬ c < 0 ∧ ¬ (65535 : Int32) < c) : nar .char ((((own_h0 c &&& (255 : Int32)) <<< ((0 : Int32) &&& 31)) ||| ((own_h8 c &&& (255 : Int32)) <<< ((8 : Int32) &&& 31))).toUInt32.toUInt16.toUInt32.toInt32) = c := by
  have e : (((own_h0 c &&& (255 : Int32)) <<< ((0 : Int32) &&& 31)) ||| ((own_h8 c &&& (255 : Int32)) <<< ((8 : Int32) &&& 31))).toUInt32.toUInt16.toUInt32.toInt32 = c := rd16 h.1 h.2
  rw [e]
  exact own_narc h
def own_ws (c : Int32) : Int32 := if c = 32 ∨ c = 9 ∨ c = 13 ∨ c = 10 then 1 else 0
def own_and (x y : Int32) : Int32 := if x = 0 then 0 else y
def own_k (p : Int32) : Int32 := (p.toUInt32 >>> ((16 : Int32) &&& 31).toUInt32).toInt32 &&& (7 : Int32)
def own_pick (p : Int32) : Int32 := if own_k p = 0 then 32 else if own_k p = 1 then 9 else if own_k p = 2 then 13 else if own_k p = 3 then 10 else nar .char ((p &&& (65535 : Int32)).toUInt32.toUInt16.toUInt32.toInt32)
theorem own_char (y : Int32) : ¬ nar .char y < 0 ∧ ¬ (65535 : Int32) < nar .char y := by
  have e : (nar .char y).toBitVec.toNat ≤ 65535 := by
    show (y.toUInt32.toUInt16.toUInt32.toInt32).toBitVec.toNat ≤ 65535
    simp only [UInt32.toBitVec_toInt32, UInt16.toBitVec_toUInt32, UInt32.toBitVec_toUInt16, Int32.toBitVec_toUInt32, BitVec.toNat_setWidth]
    omega
  have e2 : (nar .char y).toInt = ((nar .char y).toBitVec.toNat : Int) := by
    have : (nar .char y).toInt = (nar .char y).toBitVec.toInt := rfl
    rw [this, BitVec.toInt_eq_toNat_of_lt (by omega)]
  rw [Int32.lt_iff_toInt_lt, Int32.lt_iff_toInt_lt, e2, show (0 : Int32).toInt = 0 from rfl, show (65535 : Int32).toInt = 65535 from rfl]
  omega
theorem own_pick_rng (p : Int32) : ¬ own_pick p < 0 ∧ ¬ (65535 : Int32) < own_pick p := by
  unfold own_pick
  split
  · decide
  · split
    · decide
    · split
      · decide
      · split
        · decide
        · exact own_char _
theorem own_n5 {p c : Int32} (h : (p &&& (7 : Int32)) % (5 : Int32) = c) : c = 0 ∨ c = 1 ∨ c = 2 ∨ c = 3 ∨ c = 4 := by
  have hn : ¬ (p &&& (7 : Int32)) < 0 := mt (Jvm.Free.XT.and_neg32 p (7 : Int32)).mp (fun q => absurd q.2 (by decide))
  rw [Jvm.Free.XT.negI32] at hn
  have e : c.toInt = (p &&& (7 : Int32)).toInt.tmod 5 := by rw [← h, Int32.toInt_mod, show (5 : Int32).toInt = 5 from rfl]
  have h1 := Int.tmod_nonneg (5 : Int) (a := (p &&& (7 : Int32)).toInt) (by omega)
  have h2 := Int.tmod_lt_of_pos (p &&& (7 : Int32)).toInt (b := 5) (by decide)
  have q : c.toInt = 0 ∨ c.toInt = 1 ∨ c.toInt = 2 ∨ c.toInt = 3 ∨ c.toInt = 4 := by omega
  have o : ∀ y : Int32, c.toInt = y.toInt → c = y := fun y h => Int32.toInt_inj.mp h
  exact q.imp (o 0) (Or.imp (o 1) (Or.imp (o 2) (Or.imp (o 3) (o 4))))

theorem d1_0 : decode method_2_code 0 = .ok (.iload_n 0, 1) := by decide +kernel
theorem d1_1 : decode method_2_code 1 = .ok (.bipush 16, 2) := by decide +kernel
theorem d1_3 : decode method_2_code 3 = .ok (.iushr, 1) := by decide +kernel
theorem d1_4 : decode method_2_code 4 = .ok (.bipush 7, 2) := by decide +kernel
theorem d1_6 : decode method_2_code 6 = .ok (.iand, 1) := by decide +kernel
theorem d1_7 : decode method_2_code 7 = .ok (.istore_n 1, 1) := by decide +kernel
theorem d1_8 : decode method_2_code 8 = .ok (.iload_n 1, 1) := by decide +kernel
theorem d1_9 : decode method_2_code 9 = .ok (.ifCond .ne 6, 3) := by decide +kernel
theorem d1_12 : decode method_2_code 12 = .ok (.bipush 32, 2) := by decide +kernel
theorem d1_14 : decode method_2_code 14 = .ok (.ireturn, 1) := by decide +kernel
theorem d1_15 : decode method_2_code 15 = .ok (.iload_n 1, 1) := by decide +kernel
theorem d1_16 : decode method_2_code 16 = .ok (.iconst 1, 1) := by decide +kernel
theorem d1_17 : decode method_2_code 17 = .ok (.if_icmp .ne 6, 3) := by decide +kernel
theorem d1_20 : decode method_2_code 20 = .ok (.bipush 9, 2) := by decide +kernel
theorem d1_22 : decode method_2_code 22 = .ok (.ireturn, 1) := by decide +kernel
theorem d1_23 : decode method_2_code 23 = .ok (.iload_n 1, 1) := by decide +kernel
theorem d1_24 : decode method_2_code 24 = .ok (.iconst 2, 1) := by decide +kernel
theorem d1_25 : decode method_2_code 25 = .ok (.if_icmp .ne 6, 3) := by decide +kernel
theorem d1_28 : decode method_2_code 28 = .ok (.bipush 13, 2) := by decide +kernel
theorem d1_30 : decode method_2_code 30 = .ok (.ireturn, 1) := by decide +kernel
theorem d1_31 : decode method_2_code 31 = .ok (.iload_n 1, 1) := by decide +kernel
theorem d1_32 : decode method_2_code 32 = .ok (.iconst 3, 1) := by decide +kernel
theorem d1_33 : decode method_2_code 33 = .ok (.if_icmp .ne 6, 3) := by decide +kernel
theorem d1_36 : decode method_2_code 36 = .ok (.bipush 10, 2) := by decide +kernel
theorem d1_38 : decode method_2_code 38 = .ok (.ireturn, 1) := by decide +kernel
theorem d1_39 : decode method_2_code 39 = .ok (.iload_n 0, 1) := by decide +kernel
theorem d1_40 : decode method_2_code 40 = .ok (.ldc 7, 2) := by decide +kernel
theorem wd_89 {Z : State} {a0 : Array Value} (hw : own_H Z a0) : ((Jvm.Cond.constant "com/example/edgewarden/edgewarden/xacml/XacmlSyntaxIsWhiteSpacePinLaw" (7 : Nat) (65535 : Int32)) : Jvm.Cond).before a0 Z = true := hw _ (List.mem_of_getElem? (i := 89) rfl)
theorem d1_42 : decode method_2_code 42 = .ok (.iand, 1) := by decide +kernel
theorem d1_43 : decode method_2_code 43 = .ok (.i2c, 1) := by decide +kernel
theorem d1_44 : decode method_2_code 44 = .ok (.ireturn, 1) := by decide +kernel
theorem pn_0 : plainName "com/example/edgewarden/edgewarden/xacml/XacmlSyntaxIsWhiteSpacePinLaw" = true := by first | (simp [plainName, overriddenIn]; done) | decide +kernel
theorem ef_rmPick (m : MethodId) (p0 : Int32) : entryFrame m #[(.int p0)] 2 = mkF m 0 #[.val (.int p0), .unset] [] := by first | (simp [entryFrame, mkF, argsToLocals, Value.category]; done) | rfl
def Q_rmPick (Z : State) (p0 : Int32) (h0 : Heap) (n0 : Nat) (v : Option Value) (h : Heap) (L : List Loc) : Prop := v = some (.int (own_pick p0)) ∧ Fr n0 L ∧ h = h0
set_option maxRecDepth 65536 in
set_option maxHeartbeats 40000000 in
theorem rmPick (l : Launch) (Z : State) (a0 : Array Value) (hw : own_H Z a0) (ws : List Jvm.Cond) (p0 : Int32) (h0 : Heap) (n0 : Nat) (Z0 : n0 ≤ h0.size)  :
    own_Met l (⟨"com/example/edgewarden/edgewarden/xacml/XacmlSyntaxIsWhiteSpacePinLaw", "pick", "(I)C"⟩ : MethodName) method_2_code 2 (some .char) ws (own_rm 0 0 0 0) Z h0 #[(.int p0)] (Q_rmPick Z p0 h0 n0) := by
  refine own_met (plainFor_of_name pn_0) (fun m => ef_rmPick m p0) ?_
  intro p e s m below meth c s₁ Φ hΦ X0 hx hby hml hown hnm hret hlk hZ e0
  have N0 := Fr.nil n0
  have B : own_B p c _ _ := ⟨hx, hby, hml⟩
  show own_G p e below Φ s₁ (mkF m 0 #[.val (.int p0), .unset] [])
  refine o_iloadN X0 B d1_0 rfl ?_
  refine o_bipush X0 B d1_1 ?_
  refine own_go (fun _ => XS.iushr X0.here hx rfl (hb hby d1_3) rfl) ?_
  refine o_bipush X0 B d1_4 ?_
  refine own_go (fun _ => XS.iand X0.here hx rfl (hb hby d1_6) rfl) ?_
  show own_G p e below Φ s₁ (mkF m 7 #[.val (.int p0), .unset] [(.int (((p0.toUInt32 >>> ((16 : Int32) &&& 31).toUInt32).toInt32) &&& (7 : Int32)))])
  refine o_istoreN (L' := #[.val (.int p0), .val (.int (((p0.toUInt32 >>> ((16 : Int32) &&& 31).toUInt32).toInt32) &&& (7 : Int32)))]) X0 B d1_7 rfl ?_
  refine o_iloadN X0 B d1_8 rfl ?_
  by_cases hc9 : (((p0.toUInt32 >>> ((16 : Int32) &&& 31).toUInt32).toInt32) &&& (7 : Int32)) = (0 : Int32)
  · refine o_ifN X0 B d1_9 (XT.i0_ne_f hc9) ?_
    refine o_bipush X0 B d1_12 ?_
    rw [hΦ]
    refine own_ret X0 (v := some (.int 32)) (own_nr hret) hlk (fun fs hr => retN X0 hx (t := .char) hret (by simp) (hb hby d1_14) hr) ?_ (by decide) (by decide)
    rw [e0]
    exact ⟨(by simp only [own_pick]; rw [if_pos (show own_k p0 = 0 from hc9)]), N0, rfl⟩
  · refine o_ifY X0 B 15 d1_9 (XT.i0_ne_t hc9) rfl ?_
    refine o_iloadN X0 B d1_15 rfl ?_
    refine o_iconst X0 B d1_16 ?_
    by_cases hc17 : (((p0.toUInt32 >>> ((16 : Int32) &&& 31).toUInt32).toInt32) &&& (7 : Int32)) = (1 : Int32)
    · refine o_icN X0 B d1_17 (XT.ii_ne_f hc17) ?_
      refine o_bipush X0 B d1_20 ?_
      rw [hΦ]
      refine own_ret X0 (v := some (.int 9)) (own_nr hret) hlk (fun fs hr => retN X0 hx (t := .char) hret (by simp) (hb hby d1_22) hr) ?_ (by decide) (by decide)
      rw [e0]
      exact ⟨(by simp only [own_pick]; rw [if_neg (show ¬ own_k p0 = 0 from hc9)]; rw [if_pos (show own_k p0 = 1 from hc17)]), N0, rfl⟩
    · refine o_icY X0 B 23 d1_17 (XT.ii_ne_t hc17) rfl ?_
      refine o_iloadN X0 B d1_23 rfl ?_
      refine o_iconst X0 B d1_24 ?_
      show own_G p e below Φ s₁ (mkF m 25 #[.val (.int p0), .val (.int (((p0.toUInt32 >>> ((16 : Int32) &&& 31).toUInt32).toInt32) &&& (7 : Int32)))] [(.int 2), (.int (((p0.toUInt32 >>> ((16 : Int32) &&& 31).toUInt32).toInt32) &&& (7 : Int32)))])
      by_cases hc25 : (((p0.toUInt32 >>> ((16 : Int32) &&& 31).toUInt32).toInt32) &&& (7 : Int32)) = (2 : Int32)
      · refine o_icN X0 B d1_25 (XT.ii_ne_f hc25) ?_
        refine o_bipush X0 B d1_28 ?_
        rw [hΦ]
        refine own_ret X0 (v := some (.int 13)) (own_nr hret) hlk (fun fs hr => retN X0 hx (t := .char) hret (by simp) (hb hby d1_30) hr) ?_ (by decide) (by decide)
        rw [e0]
        exact ⟨(by simp only [own_pick]; rw [if_neg (show ¬ own_k p0 = 0 from hc9)]; rw [if_neg (show ¬ own_k p0 = 1 from hc17)]; rw [if_pos (show own_k p0 = 2 from hc25)]), N0, rfl⟩
      · refine o_icY X0 B 31 d1_25 (XT.ii_ne_t hc25) rfl ?_
        refine o_iloadN X0 B d1_31 rfl ?_
        refine o_iconst X0 B d1_32 ?_
        by_cases hc33 : (((p0.toUInt32 >>> ((16 : Int32) &&& 31).toUInt32).toInt32) &&& (7 : Int32)) = (3 : Int32)
        · refine o_icN X0 B d1_33 (XT.ii_ne_f hc33) ?_
          refine o_bipush X0 B d1_36 ?_
          rw [hΦ]
          refine own_ret X0 (v := some (.int 10)) (own_nr hret) hlk (fun fs hr => retN X0 hx (t := .char) hret (by simp) (hb hby d1_38) hr) ?_ (by decide) (by decide)
          rw [e0]
          exact ⟨(by simp only [own_pick]; rw [if_neg (show ¬ own_k p0 = 0 from hc9)]; rw [if_neg (show ¬ own_k p0 = 1 from hc17)]; rw [if_neg (show ¬ own_k p0 = 2 from hc25)]; rw [if_pos (show own_k p0 = 3 from hc33)]), N0, rfl⟩
        · refine o_icY X0 B 39 d1_33 (XT.ii_ne_t hc33) rfl ?_
          refine o_iloadN X0 B d1_39 rfl ?_
          refine own_go (fun _ => X0.ldcInt hx hown (mvT hZ (wd_89 hw)) (g := (mkF m 40 #[.val (.int p0), .val (.int (((p0.toUInt32 >>> ((16 : Int32) &&& 31).toUInt32).toInt32) &&& (7 : Int32)))] [(.int p0)])) rfl (hb hby d1_40) _) ?_
          show own_G p e below Φ s₁ (mkF m 42 #[.val (.int p0), .val (.int (((p0.toUInt32 >>> ((16 : Int32) &&& 31).toUInt32).toInt32) &&& (7 : Int32)))] [(.int 65535), (.int p0)])
          refine own_go (fun _ => XS.iand X0.here hx rfl (hb hby d1_42) rfl) ?_
          refine own_go (fun _ => XS.i2c X0.here hx rfl (hb hby d1_43) rfl) ?_
          show own_G p e below Φ s₁ (mkF m 44 #[.val (.int p0), .val (.int (((p0.toUInt32 >>> ((16 : Int32) &&& 31).toUInt32).toInt32) &&& (7 : Int32)))] [(.int ((p0 &&& (65535 : Int32)).toUInt32.toUInt16.toUInt32.toInt32))])
          rw [hΦ]
          refine own_ret X0 (v := some (.int (nar .char ((p0 &&& (65535 : Int32)).toUInt32.toUInt16.toUInt32.toInt32)))) (own_nr hret) hlk (fun fs hr => retN X0 hx (t := .char) hret (by simp) (hb hby d1_44) hr) ?_ (by decide) (by decide)
          rw [e0]
          exact ⟨(by simp only [own_pick]; rw [if_neg (show ¬ own_k p0 = 0 from hc9)]; rw [if_neg (show ¬ own_k p0 = 1 from hc17)]; rw [if_neg (show ¬ own_k p0 = 2 from hc25)]; rw [if_neg (show ¬ own_k p0 = 3 from hc33)]), N0, rfl⟩
theorem d12_0 : decode method_3_code 0 = .ok (.iload_n 0, 1) := by decide +kernel
theorem d12_1 : decode method_3_code 1 = .ok (.bipush 32, 2) := by decide +kernel
theorem d12_3 : decode method_3_code 3 = .ok (.if_icmp .eq 21, 3) := by decide +kernel
theorem d12_24 : decode method_3_code 24 = .ok (.iconst 1, 1) := by decide +kernel
theorem d12_25 : decode method_3_code 25 = .ok (.goto 4, 3) := by decide +kernel
theorem d12_29 : decode method_3_code 29 = .ok (.ireturn, 1) := by decide +kernel
theorem d12_6 : decode method_3_code 6 = .ok (.iload_n 0, 1) := by decide +kernel
theorem d12_7 : decode method_3_code 7 = .ok (.bipush 9, 2) := by decide +kernel
theorem d12_9 : decode method_3_code 9 = .ok (.if_icmp .eq 15, 3) := by decide +kernel
theorem d12_12 : decode method_3_code 12 = .ok (.iload_n 0, 1) := by decide +kernel
theorem d12_13 : decode method_3_code 13 = .ok (.bipush 13, 2) := by decide +kernel
theorem d12_15 : decode method_3_code 15 = .ok (.if_icmp .eq 9, 3) := by decide +kernel
theorem d12_18 : decode method_3_code 18 = .ok (.iload_n 0, 1) := by decide +kernel
theorem d12_19 : decode method_3_code 19 = .ok (.bipush 10, 2) := by decide +kernel
theorem d12_21 : decode method_3_code 21 = .ok (.if_icmp .ne 7, 3) := by decide +kernel
theorem d12_28 : decode method_3_code 28 = .ok (.iconst 0, 1) := by decide +kernel
theorem ef_rmWs (m : MethodId) (p0 : Int32) : entryFrame m #[(.int p0)] 1 = mkF m 0 #[.val (.int p0)] [] := by first | (simp [entryFrame, mkF, argsToLocals, Value.category]; done) | rfl
def Q_rmWs (Z : State) (p0 : Int32) (h0 : Heap) (n0 : Nat) (v : Option Value) (h : Heap) (L : List Loc) : Prop := v = some (.int (own_ws p0)) ∧ Fr n0 L ∧ h = h0
set_option maxRecDepth 65536 in
set_option maxHeartbeats 40000000 in
theorem rmWs (l : Launch) (Z : State) (a0 : Array Value) (hw : own_H Z a0) (ws : List Jvm.Cond) (p0 : Int32) (h0 : Heap) (n0 : Nat) (Z0 : n0 ≤ h0.size)  :
    own_Met l (⟨"com/example/edgewarden/edgewarden/xacml/XacmlSyntaxIsWhiteSpacePinLaw", "ws", "(C)Z"⟩ : MethodName) method_3_code 1 (some .boolean) ws (own_rm 0 0 0 0) Z h0 #[(.int p0)] (Q_rmWs Z p0 h0 n0) := by
  refine own_met (plainFor_of_name pn_0) (fun m => ef_rmWs m p0) ?_
  intro p e s m below meth c s₁ Φ hΦ X0 hx hby hml hown hnm hret hlk hZ e0
  have N0 := Fr.nil n0
  have B : own_B p c _ _ := ⟨hx, hby, hml⟩
  show own_G p e below Φ s₁ (mkF m 0 #[.val (.int p0)] [])
  refine o_iloadN X0 B d12_0 rfl ?_
  refine o_bipush X0 B d12_1 ?_
  by_cases hc3 : p0 = (32 : Int32)
  · refine o_icY X0 B 24 d12_3 (XT.ii_eq_t hc3) rfl ?_
    refine o_iconst X0 B d12_24 ?_
    refine o_goto X0 B 29 d12_25 rfl ?_
    rw [hΦ]
    refine own_ret X0 (v := some (.int 1)) (own_nr hret) hlk (fun fs hr => retN X0 hx (t := .boolean) hret (by simp) (hb hby d12_29) hr) ?_ (by decide) (by decide)
    rw [e0]
    exact ⟨(by simp [own_ws, hc3]), N0, rfl⟩
  · refine o_icN X0 B d12_3 (XT.ii_eq_f hc3) ?_
    refine o_iloadN X0 B d12_6 rfl ?_
    refine o_bipush X0 B d12_7 ?_
    by_cases hc9 : p0 = (9 : Int32)
    · refine o_icY X0 B 24 d12_9 (XT.ii_eq_t hc9) rfl ?_
      refine o_iconst X0 B d12_24 ?_
      refine o_goto X0 B 29 d12_25 rfl ?_
      show own_G p e below Φ s₁ (mkF m 29 #[.val (.int p0)] [(.int 1)])
      rw [hΦ]
      refine own_ret X0 (v := some (.int 1)) (own_nr hret) hlk (fun fs hr => retN X0 hx (t := .boolean) hret (by simp) (hb hby d12_29) hr) ?_ (by decide) (by decide)
      rw [e0]
      exact ⟨(by simp [own_ws, hc3, hc9]), N0, rfl⟩
    · refine o_icN X0 B d12_9 (XT.ii_eq_f hc9) ?_
      refine o_iloadN X0 B d12_12 rfl ?_
      refine o_bipush X0 B d12_13 ?_
      show own_G p e below Φ s₁ (mkF m 15 #[.val (.int p0)] [(.int 13), (.int p0)])
      by_cases hc15 : p0 = (13 : Int32)
      · refine o_icY X0 B 24 d12_15 (XT.ii_eq_t hc15) rfl ?_
        refine o_iconst X0 B d12_24 ?_
        refine o_goto X0 B 29 d12_25 rfl ?_
        rw [hΦ]
        refine own_ret X0 (v := some (.int 1)) (own_nr hret) hlk (fun fs hr => retN X0 hx (t := .boolean) hret (by simp) (hb hby d12_29) hr) ?_ (by decide) (by decide)
        rw [e0]
        exact ⟨(by simp [own_ws, hc3, hc9, hc15]), N0, rfl⟩
      · refine o_icN X0 B d12_15 (XT.ii_eq_f hc15) ?_
        refine o_iloadN X0 B d12_18 rfl ?_
        refine o_bipush X0 B d12_19 ?_
        by_cases hc21 : p0 = (10 : Int32)
        · refine o_icN X0 B d12_21 (XT.ii_ne_f hc21) ?_
          refine o_iconst X0 B d12_24 ?_
          refine o_goto X0 B 29 d12_25 rfl ?_
          rw [hΦ]
          refine own_ret X0 (v := some (.int 1)) (own_nr hret) hlk (fun fs hr => retN X0 hx (t := .boolean) hret (by simp) (hb hby d12_29) hr) ?_ (by decide) (by decide)
          rw [e0]
          exact ⟨(by simp [own_ws, hc3, hc9, hc15, hc21]), N0, rfl⟩
        · refine o_icY X0 B 28 d12_21 (XT.ii_ne_t hc21) rfl ?_
          refine o_iconst X0 B d12_28 ?_
          rw [hΦ]
          refine own_ret X0 (v := some (.int 0)) (own_nr hret) hlk (fun fs hr => retN X0 hx (t := .boolean) hret (by simp) (hb hby d12_29) hr) ?_ (by decide) (by decide)
          rw [e0]
          exact ⟨(by simp [own_ws, hc3, hc9, hc15, hc21]), N0, rfl⟩
theorem d18_0 : decode prog_187_method_24_code 0 = .ok (.iload_n 0, 1) := by decide +kernel
theorem d18_1 : decode prog_187_method_24_code 1 = .ok (.bipush 32, 2) := by decide +kernel
theorem d18_3 : decode prog_187_method_24_code 3 = .ok (.if_icmp .eq 21, 3) := by decide +kernel
theorem d18_24 : decode prog_187_method_24_code 24 = .ok (.iconst 1, 1) := by decide +kernel
theorem d18_25 : decode prog_187_method_24_code 25 = .ok (.goto 4, 3) := by decide +kernel
theorem d18_29 : decode prog_187_method_24_code 29 = .ok (.ireturn, 1) := by decide +kernel
theorem d18_6 : decode prog_187_method_24_code 6 = .ok (.iload_n 0, 1) := by decide +kernel
theorem d18_7 : decode prog_187_method_24_code 7 = .ok (.bipush 9, 2) := by decide +kernel
theorem d18_9 : decode prog_187_method_24_code 9 = .ok (.if_icmp .eq 15, 3) := by decide +kernel
theorem d18_12 : decode prog_187_method_24_code 12 = .ok (.iload_n 0, 1) := by decide +kernel
theorem d18_13 : decode prog_187_method_24_code 13 = .ok (.bipush 13, 2) := by decide +kernel
theorem d18_15 : decode prog_187_method_24_code 15 = .ok (.if_icmp .eq 9, 3) := by decide +kernel
theorem d18_18 : decode prog_187_method_24_code 18 = .ok (.iload_n 0, 1) := by decide +kernel
theorem d18_19 : decode prog_187_method_24_code 19 = .ok (.bipush 10, 2) := by decide +kernel
theorem d18_21 : decode prog_187_method_24_code 21 = .ok (.if_icmp .ne 7, 3) := by decide +kernel
theorem d18_28 : decode prog_187_method_24_code 28 = .ok (.iconst 0, 1) := by decide +kernel
theorem pn_1 : plainName "com/example/edgewarden/edgewarden/xacml/XacmlSyntax" = true := by first | (simp [plainName, overriddenIn]; done) | decide +kernel
theorem ef_rmWs2 (m : MethodId) (p0 : Int32) : entryFrame m #[(.int p0)] 1 = mkF m 0 #[.val (.int p0)] [] := by first | (simp [entryFrame, mkF, argsToLocals, Value.category]; done) | rfl
def Q_rmWs2 (Z : State) (p0 : Int32) (h0 : Heap) (n0 : Nat) (v : Option Value) (h : Heap) (L : List Loc) : Prop := v = some (.int (own_ws p0)) ∧ Fr n0 L ∧ h = h0
set_option maxRecDepth 65536 in
set_option maxHeartbeats 40000000 in
theorem rmWs2 (l : Launch) (Z : State) (a0 : Array Value) (hw : own_H Z a0) (ws : List Jvm.Cond) (p0 : Int32) (h0 : Heap) (n0 : Nat) (Z0 : n0 ≤ h0.size)  :
    own_Met l (⟨"com/example/edgewarden/edgewarden/xacml/XacmlSyntax", "isWhiteSpace", "(C)Z"⟩ : MethodName) prog_187_method_24_code 1 (some .boolean) ws (own_rm 0 0 0 0) Z h0 #[(.int p0)] (Q_rmWs2 Z p0 h0 n0) := by
  refine own_met (plainFor_of_name pn_1) (fun m => ef_rmWs2 m p0) ?_
  intro p e s m below meth c s₁ Φ hΦ X0 hx hby hml hown hnm hret hlk hZ e0
  have N0 := Fr.nil n0
  have B : own_B p c _ _ := ⟨hx, hby, hml⟩
  show own_G p e below Φ s₁ (mkF m 0 #[.val (.int p0)] [])
  refine o_iloadN X0 B d18_0 rfl ?_
  refine o_bipush X0 B d18_1 ?_
  by_cases hc3 : p0 = (32 : Int32)
  · refine o_icY X0 B 24 d18_3 (XT.ii_eq_t hc3) rfl ?_
    refine o_iconst X0 B d18_24 ?_
    refine o_goto X0 B 29 d18_25 rfl ?_
    rw [hΦ]
    refine own_ret X0 (v := some (.int 1)) (own_nr hret) hlk (fun fs hr => retN X0 hx (t := .boolean) hret (by simp) (hb hby d18_29) hr) ?_ (by decide) (by decide)
    rw [e0]
    exact ⟨(by simp [own_ws, hc3]), N0, rfl⟩
  · refine o_icN X0 B d18_3 (XT.ii_eq_f hc3) ?_
    refine o_iloadN X0 B d18_6 rfl ?_
    refine o_bipush X0 B d18_7 ?_
    by_cases hc9 : p0 = (9 : Int32)
    · refine o_icY X0 B 24 d18_9 (XT.ii_eq_t hc9) rfl ?_
      refine o_iconst X0 B d18_24 ?_
      refine o_goto X0 B 29 d18_25 rfl ?_
      show own_G p e below Φ s₁ (mkF m 29 #[.val (.int p0)] [(.int 1)])
      rw [hΦ]
      refine own_ret X0 (v := some (.int 1)) (own_nr hret) hlk (fun fs hr => retN X0 hx (t := .boolean) hret (by simp) (hb hby d18_29) hr) ?_ (by decide) (by decide)
      rw [e0]
      exact ⟨(by simp [own_ws, hc3, hc9]), N0, rfl⟩
    · refine o_icN X0 B d18_9 (XT.ii_eq_f hc9) ?_
      refine o_iloadN X0 B d18_12 rfl ?_
      refine o_bipush X0 B d18_13 ?_
      show own_G p e below Φ s₁ (mkF m 15 #[.val (.int p0)] [(.int 13), (.int p0)])
      by_cases hc15 : p0 = (13 : Int32)
      · refine o_icY X0 B 24 d18_15 (XT.ii_eq_t hc15) rfl ?_
        refine o_iconst X0 B d18_24 ?_
        refine o_goto X0 B 29 d18_25 rfl ?_
        rw [hΦ]
        refine own_ret X0 (v := some (.int 1)) (own_nr hret) hlk (fun fs hr => retN X0 hx (t := .boolean) hret (by simp) (hb hby d18_29) hr) ?_ (by decide) (by decide)
        rw [e0]
        exact ⟨(by simp [own_ws, hc3, hc9, hc15]), N0, rfl⟩
      · refine o_icN X0 B d18_15 (XT.ii_eq_f hc15) ?_
        refine o_iloadN X0 B d18_18 rfl ?_
        refine o_bipush X0 B d18_19 ?_
        by_cases hc21 : p0 = (10 : Int32)
        · refine o_icN X0 B d18_21 (XT.ii_ne_f hc21) ?_
          refine o_iconst X0 B d18_24 ?_
          refine o_goto X0 B 29 d18_25 rfl ?_
          rw [hΦ]
          refine own_ret X0 (v := some (.int 1)) (own_nr hret) hlk (fun fs hr => retN X0 hx (t := .boolean) hret (by simp) (hb hby d18_29) hr) ?_ (by decide) (by decide)
          rw [e0]
          exact ⟨(by simp [own_ws, hc3, hc9, hc15, hc21]), N0, rfl⟩
        · refine o_icY X0 B 28 d18_21 (XT.ii_ne_t hc21) rfl ?_
          refine o_iconst X0 B d18_28 ?_
          rw [hΦ]
          refine own_ret X0 (v := some (.int 0)) (own_nr hret) hlk (fun fs hr => retN X0 hx (t := .boolean) hret (by simp) (hb hby d18_29) hr) ?_ (by decide) (by decide)
          rw [e0]
          exact ⟨(by simp [own_ws, hc3, hc9, hc15, hc21]), N0, rfl⟩
theorem d17_0 : decode jdk_41_method_11_code 0 = .ok (.iload_n 0, 1) := by decide +kernel
theorem d17_1 : decode jdk_41_method_11_code 1 = .ok (.ifCond .lt 8, 3) := by decide +kernel
theorem d17_4 : decode jdk_41_method_11_code 4 = .ok (.iload_n 0, 1) := by decide +kernel
theorem d17_5 : decode jdk_41_method_11_code 5 = .ok (.iload_n 1, 1) := by decide +kernel
theorem d17_6 : decode jdk_41_method_11_code 6 = .ok (.if_icmp .lt 10, 3) := by decide +kernel
theorem d17_16 : decode jdk_41_method_11_code 16 = .ok (.iload_n 0, 1) := by decide +kernel
theorem d17_17 : decode jdk_41_method_11_code 17 = .ok (.ireturn, 1) := by decide +kernel
theorem pn_2 : plainName "jdk/internal/util/Preconditions" = true := by first | (simp [plainName, overriddenIn]; done) | decide +kernel
theorem ef_rmPci (m : MethodId) (p0 : Int32) (p1 : Int32) (rf : Value) (hrf : rf.isRef = true) : entryFrame m #[(.int p0), (.int p1), rf] 3 = mkF m 0 #[.val (.int p0), .val (.int p1), .val rf] [] := by rcases ref_cases hrf with rfl | ⟨_, rfl⟩ <;> rfl
def Q_rmPci (Z : State) (p0 : Int32) (p1 : Int32) (rf : Value) (h0 : Heap) (n0 : Nat) (v : Option Value) (h : Heap) (L : List Loc) : Prop := v = some (.int p0) ∧ Fr n0 L ∧ h = h0
set_option maxRecDepth 65536 in
set_option maxHeartbeats 40000000 in
theorem rmPci (l : Launch) (Z : State) (a0 : Array Value) (hw : own_H Z a0) (ws : List Jvm.Cond) (p0 : Int32) (p1 : Int32) (rf : Value) (h0 : Heap) (n0 : Nat) (Z0 : n0 ≤ h0.size) (hrf : rf.isRef = true) (hi : ¬ p0 < 0 ∧ p0 < p1) :
    own_Met l (⟨"jdk/internal/util/Preconditions", "checkIndex", "(IILjava/util/function/BiFunction;)I"⟩ : MethodName) jdk_41_method_11_code 3 (some .int) ws (own_rm 0 0 0 0) Z h0 #[(.int p0), (.int p1), rf] (Q_rmPci Z p0 p1 rf h0 n0) := by
  refine own_met (plainFor_of_name pn_2) (fun m => ef_rmPci m p0 p1 rf hrf) ?_
  intro p e s m below meth c s₁ Φ hΦ X0 hx hby hml hown hnm hret hlk hZ e0
  have N0 := Fr.nil n0
  have B : own_B p c _ _ := ⟨hx, hby, hml⟩
  show own_G p e below Φ s₁ (mkF m 0 #[.val (.int p0), .val (.int p1), .val rf] [])
  refine o_iloadN X0 B d17_0 rfl ?_
  refine o_ifN X0 B d17_1 (XT.i0_lt_f hi.1) ?_
  refine o_iloadN X0 B d17_4 rfl ?_
  refine o_iloadN X0 B d17_5 rfl ?_
  refine o_icY X0 B 16 d17_6 (XT.ii_lt_t hi.2) rfl ?_
  refine o_iloadN X0 B d17_16 rfl ?_
  rw [hΦ]
  refine own_ret X0 (v := some (.int p0)) (own_nr hret) hlk (fun fs hr => retOut X0 hx hret rfl (Or.inl ⟨rfl, Or.inl rfl, _, rfl⟩) (hb hby d17_17) hr) ?_ (by decide) (by decide)
  rw [e0]
  exact ⟨rfl, N0, rfl⟩
theorem d16_0 : decode jdk_42_method_155_code 0 = .ok (.iload_n 0, 1) := by decide +kernel
theorem d16_1 : decode jdk_42_method_155_code 1 = .ok (.iload_n 1, 1) := by decide +kernel
theorem d16_2 : decode jdk_42_method_155_code 2 = .ok (.getstatic 1053, 3) := by decide +kernel
theorem wd_81 {Z : State} {a0 : Array Value} (hw : own_H Z a0) : ((Jvm.Cond.fieldLink "java/lang/String" (1053 : Nat) "jdk/internal/util/Preconditions" "SIOOBE_FORMATTER" "Ljava/util/function/BiFunction;") : Jvm.Cond).before a0 Z = true := hw _ (List.mem_of_getElem? (i := 81) rfl)
theorem d16_5 : decode jdk_42_method_155_code 5 = .ok (.invokestatic 1059, 3) := by decide +kernel
theorem wd_83 {Z : State} {a0 : Array Value} (hw : own_H Z a0) : ((Jvm.Cond.methodLink "java/lang/String" (1059 : Nat) ({ cls := "jdk/internal/util/Preconditions", name := "checkIndex", desc := "(IILjava/util/function/BiFunction;)I" } : Jvm.MethodName)) : Jvm.Cond).before a0 Z = true := hw _ (List.mem_of_getElem? (i := 83) rfl)
theorem wd_85 {Z : State} {a0 : Array Value} (hw : own_H Z a0) : ((Jvm.Cond.code ({ cls := "jdk/internal/util/Preconditions", name := "checkIndex", desc := "(IILjava/util/function/BiFunction;)I" } : Jvm.MethodName) jdk_41_method_11_code (3 : Nat) (Option.some Jvm.ClassFile.FieldType.int)) : Jvm.Cond).before a0 Z = true := hw _ (List.mem_of_getElem? (i := 85) rfl)
theorem wd_82 {Z : State} {a0 : Array Value} (hw : own_H Z a0) : ((Jvm.Cond.initialized "jdk/internal/util/Preconditions") : Jvm.Cond).before a0 Z = true := hw _ (List.mem_of_getElem? (i := 82) rfl)
theorem pd_0 : parseMethodDescriptor "(IILjava/util/function/BiFunction;)I" = some ⟨[.int, .int, (.object "java/util/function/BiFunction")], some .int⟩ := by decide +kernel
theorem wd_84 {Z : State} {a0 : Array Value} (hw : own_H Z a0) : ((Jvm.Cond.static ({ cls := "jdk/internal/util/Preconditions", name := "checkIndex", desc := "(IILjava/util/function/BiFunction;)I" } : Jvm.MethodName)) : Jvm.Cond).before a0 Z = true := hw _ (List.mem_of_getElem? (i := 84) rfl)
theorem d16_8 : decode jdk_42_method_155_code 8 = .ok (.pop, 1) := by decide +kernel
theorem d16_9 : decode jdk_42_method_155_code 9 = .ok (.return_, 1) := by decide +kernel
theorem pn_3 : plainName "java/lang/String" = true := by first | (simp [plainName, overriddenIn]; done) | decide +kernel
theorem ef_rmSci (m : MethodId) (p0 : Int32) (p1 : Int32) : entryFrame m #[(.int p0), (.int p1)] 2 = mkF m 0 #[.val (.int p0), .val (.int p1)] [] := by first | (simp [entryFrame, mkF, argsToLocals, Value.category]; done) | rfl
def Q_rmSci (Z : State) (p0 : Int32) (p1 : Int32) (rf : Value) (h0 : Heap) (n0 : Nat) (v : Option Value) (h : Heap) (L : List Loc) : Prop := v = none ∧ Fr n0 L ∧ h = h0
set_option maxRecDepth 65536 in
set_option maxHeartbeats 40000000 in
theorem rmSci (l : Launch) (Z : State) (a0 : Array Value) (hw : own_H Z a0) (ws : List Jvm.Cond) (p0 : Int32) (p1 : Int32) (rf : Value) (h0 : Heap) (n0 : Nat) (Z0 : n0 ≤ h0.size) (O0 : Old Z n0 h0) (S_SIOOBE_FORMATTER : Sta Z Z.heap "jdk/internal/util/Preconditions" "SIOOBE_FORMATTER" "Ljava/util/function/BiFunction;" rf) (hrf : rf.isRef = true) (hi : ¬ p0 < 0 ∧ p0 < p1) :
    own_Met l (⟨"java/lang/String", "checkIndex", "(II)V"⟩ : MethodName) jdk_42_method_155_code 2 none ws (own_rm 1 0 0 14) Z h0 #[(.int p0), (.int p1)] (Q_rmSci Z p0 p1 rf h0 n0) := by
  refine own_met (plainFor_of_name pn_3) (fun m => ef_rmSci m p0 p1) ?_
  intro p e s m below meth c s₁ Φ hΦ X0 hx hby hml hown hnm hret hlk hZ e0
  have N0 := Fr.nil n0
  have B : own_B p c _ _ := ⟨hx, hby, hml⟩
  show own_G p e below Φ s₁ (mkF m 0 #[.val (.int p0), .val (.int p1)] [])
  refine o_iloadN X0 B d16_0 rfl ?_
  refine o_iloadN X0 B d16_1 rfl ?_
  obtain ⟨T1, X1, e1, st1⟩ := getS2 X0 hx hZ hown (host := "") (Or.inl (wd_81 hw)) Via.refl e0 (S_SIOOBE_FORMATTER.ext O0.2) (g := (mkF m 2 #[.val (.int p0), .val (.int p1)] [(.int p1), (.int p0)])) rfl (hb hby d16_2)
  refine own_go st1 ?_
  refine o_cS (argsL := [(.int p0), (.int p1), rf]) (rest := []) X1 B hZ hown (wd_83 hw) (wd_84 hw) (wd_85 hw) (wd_82 hw) (by decide) 0 (rmPci l Z a0 hw [] p0 p1 rf h0 n0 Z0 hrf hi) (by decide) (by decide) (lenOf pd_0 rfl) rfl rfl rfl d16_5 e1 (by decide) (by decide) rfl ?_
  rintro _ T2 _ X2 ⟨rfl, N2q, hs2⟩
  have N2 := Fr.app N0 N2q
  refine o_pop X2 B d16_8 rfl ?_
  rw [hΦ]
  refine own_ret X2 (v := none) (fun _ => rfl) hlk (fun fs hr => X2.returnOut hx hret (hb hby d16_9) hr) ?_ (by decide) (by decide)
  rw [hs2]
  exact ⟨rfl, N2, rfl⟩
theorem d8_0 : decode jdk_42_method_152_code 0 = .ok (.getstatic 38, 3) := by decide +kernel
theorem wd_47 {Z : State} {a0 : Array Value} (hw : own_H Z a0) : ((Jvm.Cond.fieldLink "java/lang/String" (38 : Nat) "java/lang/String" "COMPACT_STRINGS" "Z") : Jvm.Cond).before a0 Z = true := hw _ (List.mem_of_getElem? (i := 47) rfl)
theorem d8_3 : decode jdk_42_method_152_code 3 = .ok (.ifCond .eq 10, 3) := by decide +kernel
theorem d8_6 : decode jdk_42_method_152_code 6 = .ok (.aload_n 0, 1) := by decide +kernel
theorem d8_7 : decode jdk_42_method_152_code 7 = .ok (.getfield 15, 3) := by decide +kernel
theorem wd_28 {Z : State} {a0 : Array Value} (hw : own_H Z a0) : ((Jvm.Cond.fieldLink "java/lang/String" (15 : Nat) "java/lang/String" "coder" "B") : Jvm.Cond).before a0 Z = true := hw _ (List.mem_of_getElem? (i := 28) rfl)
theorem d8_10 : decode jdk_42_method_152_code 10 = .ok (.goto 4, 3) := by decide +kernel
theorem d8_14 : decode jdk_42_method_152_code 14 = .ok (.ireturn, 1) := by decide +kernel
theorem ef_rmCod0 (m : MethodId) (a1 : Addr) : entryFrame m #[(.ref a1)] 1 = mkF m 0 #[.val (.ref a1)] [] := by first | (simp [entryFrame, mkF, argsToLocals, Value.category]; done) | rfl
def Q_rmCod0 (Z : State) (a1 : Addr) (gz : Int32) (h0 : Heap) (n0 : Nat) (v : Option Value) (h : Heap) (L : List Loc) : Prop := v = some (.int 0) ∧ Fr n0 L ∧ h = h0
set_option maxRecDepth 65536 in
set_option maxHeartbeats 40000000 in
theorem rmCod0 (l : Launch) (Z : State) (a0 : Array Value) (hw : own_H Z a0) (ws : List Jvm.Cond) (a1 : Addr) (gz : Int32) (h0 : Heap) (n0 : Nat) (Z0 : n0 ≤ h0.size) (O0 : Old Z n0 h0) (S_COMPACT_STRINGS : Sta Z Z.heap "java/lang/String" "COMPACT_STRINGS" "Z" (.int gz)) (hgz : ¬ gz = (0 : Int32)) (F_coder_a1 : Fld Z h0 a1 "java/lang/String" "coder" "B" (.int 0)) :
    own_Met l (⟨"java/lang/String", "coder", "()B"⟩ : MethodName) jdk_42_method_152_code 1 (some .byte) ws (own_rm 0 0 0 0) Z h0 #[(.ref a1)] (Q_rmCod0 Z a1 gz h0 n0) := by
  refine own_met (plainFor_of_name pn_3) (fun m => ef_rmCod0 m a1) ?_
  intro p e s m below meth c s₁ Φ hΦ X0 hx hby hml hown hnm hret hlk hZ e0
  have N0 := Fr.nil n0
  have B : own_B p c _ _ := ⟨hx, hby, hml⟩
  show own_G p e below Φ s₁ (mkF m 0 #[.val (.ref a1)] [])
  obtain ⟨T1, X1, e1, st1⟩ := getS2 X0 hx hZ hown (host := "") (Or.inl (wd_47 hw)) Via.refl e0 (S_COMPACT_STRINGS.ext O0.2) (g := (mkF m 0 #[.val (.ref a1)] [])) rfl (hb hby d8_0)
  refine own_go st1 ?_
  refine o_ifN X1 B d8_3 (XT.i0_eq_f hgz) ?_
  refine o_aloadN X1 B d8_6 rfl rfl ?_
  obtain ⟨T2, X2, e2, st2⟩ := getF X1 hx hZ hown (host := "") (Or.inl (wd_28 hw)) Via.refl e1 F_coder_a1 (g := (mkF m 7 #[.val (.ref a1)] [(.ref a1)])) rfl rfl (hb hby d8_7)
  refine own_go st2 ?_
  refine o_goto X2 B 14 d8_10 rfl ?_
  rw [hΦ]
  refine own_ret X2 (v := some (.int 0)) (own_nr hret) hlk (fun fs hr => retN X2 hx (t := .byte) hret (by simp) (hb hby d8_14) hr) ?_ (by decide) (by decide)
  rw [e2]
  exact ⟨rfl, N0, rfl⟩
theorem ef_rmCod1 (m : MethodId) (a1 : Addr) : entryFrame m #[(.ref a1)] 1 = mkF m 0 #[.val (.ref a1)] [] := by first | (simp [entryFrame, mkF, argsToLocals, Value.category]; done) | rfl
def Q_rmCod1 (Z : State) (a1 : Addr) (gz : Int32) (h0 : Heap) (n0 : Nat) (v : Option Value) (h : Heap) (L : List Loc) : Prop := v = some (.int 1) ∧ Fr n0 L ∧ h = h0
set_option maxRecDepth 65536 in
set_option maxHeartbeats 40000000 in
theorem rmCod1 (l : Launch) (Z : State) (a0 : Array Value) (hw : own_H Z a0) (ws : List Jvm.Cond) (a1 : Addr) (gz : Int32) (h0 : Heap) (n0 : Nat) (Z0 : n0 ≤ h0.size) (O0 : Old Z n0 h0) (S_COMPACT_STRINGS : Sta Z Z.heap "java/lang/String" "COMPACT_STRINGS" "Z" (.int gz)) (hgz : ¬ gz = (0 : Int32)) (F_coder_a1 : Fld Z h0 a1 "java/lang/String" "coder" "B" (.int 1)) :
    own_Met l (⟨"java/lang/String", "coder", "()B"⟩ : MethodName) jdk_42_method_152_code 1 (some .byte) ws (own_rm 0 0 0 0) Z h0 #[(.ref a1)] (Q_rmCod1 Z a1 gz h0 n0) := by
  refine own_met (plainFor_of_name pn_3) (fun m => ef_rmCod1 m a1) ?_
  intro p e s m below meth c s₁ Φ hΦ X0 hx hby hml hown hnm hret hlk hZ e0
  have N0 := Fr.nil n0
  have B : own_B p c _ _ := ⟨hx, hby, hml⟩
  show own_G p e below Φ s₁ (mkF m 0 #[.val (.ref a1)] [])
  obtain ⟨T1, X1, e1, st1⟩ := getS2 X0 hx hZ hown (host := "") (Or.inl (wd_47 hw)) Via.refl e0 (S_COMPACT_STRINGS.ext O0.2) (g := (mkF m 0 #[.val (.ref a1)] [])) rfl (hb hby d8_0)
  refine own_go st1 ?_
  refine o_ifN X1 B d8_3 (XT.i0_eq_f hgz) ?_
  refine o_aloadN X1 B d8_6 rfl rfl ?_
  obtain ⟨T2, X2, e2, st2⟩ := getF X1 hx hZ hown (host := "") (Or.inl (wd_28 hw)) Via.refl e1 F_coder_a1 (g := (mkF m 7 #[.val (.ref a1)] [(.ref a1)])) rfl rfl (hb hby d8_7)
  refine own_go st2 ?_
  refine o_goto X2 B 14 d8_10 rfl ?_
  rw [hΦ]
  refine own_ret X2 (v := some (.int 1)) (own_nr hret) hlk (fun fs hr => retN X2 hx (t := .byte) hret (by simp) (hb hby d8_14) hr) ?_ (by decide) (by decide)
  rw [e2]
  exact ⟨rfl, N0, rfl⟩
theorem d14_0 : decode jdk_42_method_154_code 0 = .ok (.getstatic 38, 3) := by decide +kernel
theorem d14_3 : decode jdk_42_method_154_code 3 = .ok (.ifCond .eq 14, 3) := by decide +kernel
theorem d14_6 : decode jdk_42_method_154_code 6 = .ok (.aload_n 0, 1) := by decide +kernel
theorem d14_7 : decode jdk_42_method_154_code 7 = .ok (.getfield 15, 3) := by decide +kernel
theorem d14_10 : decode jdk_42_method_154_code 10 = .ok (.ifCond .ne 7, 3) := by decide +kernel
theorem d14_13 : decode jdk_42_method_154_code 13 = .ok (.iconst 1, 1) := by decide +kernel
theorem d14_14 : decode jdk_42_method_154_code 14 = .ok (.goto 4, 3) := by decide +kernel
theorem d14_18 : decode jdk_42_method_154_code 18 = .ok (.ireturn, 1) := by decide +kernel
theorem ef_rmLat0 (m : MethodId) (a1 : Addr) : entryFrame m #[(.ref a1)] 1 = mkF m 0 #[.val (.ref a1)] [] := by first | (simp [entryFrame, mkF, argsToLocals, Value.category]; done) | rfl
def Q_rmLat0 (Z : State) (a1 : Addr) (gz : Int32) (h0 : Heap) (n0 : Nat) (v : Option Value) (h : Heap) (L : List Loc) : Prop := v = some (.int 1) ∧ Fr n0 L ∧ h = h0
set_option maxRecDepth 65536 in
set_option maxHeartbeats 40000000 in
theorem rmLat0 (l : Launch) (Z : State) (a0 : Array Value) (hw : own_H Z a0) (ws : List Jvm.Cond) (a1 : Addr) (gz : Int32) (h0 : Heap) (n0 : Nat) (Z0 : n0 ≤ h0.size) (O0 : Old Z n0 h0) (S_COMPACT_STRINGS : Sta Z Z.heap "java/lang/String" "COMPACT_STRINGS" "Z" (.int gz)) (hgz : ¬ gz = (0 : Int32)) (F_coder_a1 : Fld Z h0 a1 "java/lang/String" "coder" "B" (.int 0)) :
    own_Met l (⟨"java/lang/String", "isLatin1", "()Z"⟩ : MethodName) jdk_42_method_154_code 1 (some .boolean) ws (own_rm 0 0 0 0) Z h0 #[(.ref a1)] (Q_rmLat0 Z a1 gz h0 n0) := by
  refine own_met (plainFor_of_name pn_3) (fun m => ef_rmLat0 m a1) ?_
  intro p e s m below meth c s₁ Φ hΦ X0 hx hby hml hown hnm hret hlk hZ e0
  have N0 := Fr.nil n0
  have B : own_B p c _ _ := ⟨hx, hby, hml⟩
  show own_G p e below Φ s₁ (mkF m 0 #[.val (.ref a1)] [])
  obtain ⟨T1, X1, e1, st1⟩ := getS2 X0 hx hZ hown (host := "") (Or.inl (wd_47 hw)) Via.refl e0 (S_COMPACT_STRINGS.ext O0.2) (g := (mkF m 0 #[.val (.ref a1)] [])) rfl (hb hby d14_0)
  refine own_go st1 ?_
  refine o_ifN X1 B d14_3 (XT.i0_eq_f hgz) ?_
  refine o_aloadN X1 B d14_6 rfl rfl ?_
  obtain ⟨T2, X2, e2, st2⟩ := getF X1 hx hZ hown (host := "") (Or.inl (wd_28 hw)) Via.refl e1 F_coder_a1 (g := (mkF m 7 #[.val (.ref a1)] [(.ref a1)])) rfl rfl (hb hby d14_7)
  refine own_go st2 ?_
  refine o_ifN X2 B d14_10 (XT.i0_ne_f (by decide : ((0 : Int32) = (0 : Int32)))) ?_
  refine o_iconst X2 B d14_13 ?_
  refine o_goto X2 B 18 d14_14 rfl ?_
  rw [hΦ]
  refine own_ret X2 (v := some (.int 1)) (own_nr hret) hlk (fun fs hr => retN X2 hx (t := .boolean) hret (by simp) (hb hby d14_18) hr) ?_ (by decide) (by decide)
  rw [e2]
  exact ⟨rfl, N0, rfl⟩
theorem d14_17 : decode jdk_42_method_154_code 17 = .ok (.iconst 0, 1) := by decide +kernel
theorem ef_rmLat1 (m : MethodId) (a1 : Addr) : entryFrame m #[(.ref a1)] 1 = mkF m 0 #[.val (.ref a1)] [] := by first | (simp [entryFrame, mkF, argsToLocals, Value.category]; done) | rfl
def Q_rmLat1 (Z : State) (a1 : Addr) (gz : Int32) (h0 : Heap) (n0 : Nat) (v : Option Value) (h : Heap) (L : List Loc) : Prop := v = some (.int 0) ∧ Fr n0 L ∧ h = h0
set_option maxRecDepth 65536 in
set_option maxHeartbeats 40000000 in
theorem rmLat1 (l : Launch) (Z : State) (a0 : Array Value) (hw : own_H Z a0) (ws : List Jvm.Cond) (a1 : Addr) (gz : Int32) (h0 : Heap) (n0 : Nat) (Z0 : n0 ≤ h0.size) (O0 : Old Z n0 h0) (S_COMPACT_STRINGS : Sta Z Z.heap "java/lang/String" "COMPACT_STRINGS" "Z" (.int gz)) (hgz : ¬ gz = (0 : Int32)) (F_coder_a1 : Fld Z h0 a1 "java/lang/String" "coder" "B" (.int 1)) :
    own_Met l (⟨"java/lang/String", "isLatin1", "()Z"⟩ : MethodName) jdk_42_method_154_code 1 (some .boolean) ws (own_rm 0 0 0 0) Z h0 #[(.ref a1)] (Q_rmLat1 Z a1 gz h0 n0) := by
  refine own_met (plainFor_of_name pn_3) (fun m => ef_rmLat1 m a1) ?_
  intro p e s m below meth c s₁ Φ hΦ X0 hx hby hml hown hnm hret hlk hZ e0
  have N0 := Fr.nil n0
  have B : own_B p c _ _ := ⟨hx, hby, hml⟩
  show own_G p e below Φ s₁ (mkF m 0 #[.val (.ref a1)] [])
  obtain ⟨T1, X1, e1, st1⟩ := getS2 X0 hx hZ hown (host := "") (Or.inl (wd_47 hw)) Via.refl e0 (S_COMPACT_STRINGS.ext O0.2) (g := (mkF m 0 #[.val (.ref a1)] [])) rfl (hb hby d14_0)
  refine own_go st1 ?_
  refine o_ifN X1 B d14_3 (XT.i0_eq_f hgz) ?_
  refine o_aloadN X1 B d14_6 rfl rfl ?_
  obtain ⟨T2, X2, e2, st2⟩ := getF X1 hx hZ hown (host := "") (Or.inl (wd_28 hw)) Via.refl e1 F_coder_a1 (g := (mkF m 7 #[.val (.ref a1)] [(.ref a1)])) rfl rfl (hb hby d14_7)
  refine own_go st2 ?_
  refine o_ifY X2 B 17 d14_10 (XT.i0_ne_t (by decide : ¬ ((1 : Int32) = (0 : Int32)))) rfl ?_
  refine o_iconst X2 B d14_17 ?_
  rw [hΦ]
  refine own_ret X2 (v := some (.int 0)) (own_nr hret) hlk (fun fs hr => retN X2 hx (t := .boolean) hret (by simp) (hb hby d14_18) hr) ?_ (by decide) (by decide)
  rw [e2]
  exact ⟨rfl, N0, rfl⟩
theorem d7_0 : decode jdk_42_method_54_code 0 = .ok (.aload_n 0, 1) := by decide +kernel
theorem d7_1 : decode jdk_42_method_54_code 1 = .ok (.getfield 9, 3) := by decide +kernel
theorem wd_27 {Z : State} {a0 : Array Value} (hw : own_H Z a0) : ((Jvm.Cond.fieldLink "java/lang/String" (9 : Nat) "java/lang/String" "value" "[B") : Jvm.Cond).before a0 Z = true := hw _ (List.mem_of_getElem? (i := 27) rfl)
theorem d7_4 : decode jdk_42_method_54_code 4 = .ok (.arraylength, 1) := by decide +kernel
theorem d7_5 : decode jdk_42_method_54_code 5 = .ok (.aload_n 0, 1) := by decide +kernel
theorem d7_6 : decode jdk_42_method_54_code 6 = .ok (.invokevirtual 335, 3) := by decide +kernel
theorem wd_42 {Z : State} {a0 : Array Value} (hw : own_H Z a0) : ((Jvm.Cond.methodLink "java/lang/String" (335 : Nat) ({ cls := "java/lang/String", name := "coder", desc := "()B" } : Jvm.MethodName)) : Jvm.Cond).before a0 Z = true := hw _ (List.mem_of_getElem? (i := 42) rfl)
theorem wd_46 {Z : State} {a0 : Array Value} (hw : own_H Z a0) : ((Jvm.Cond.code ({ cls := "java/lang/String", name := "coder", desc := "()B" } : Jvm.MethodName) jdk_42_method_152_code (1 : Nat) (Option.some Jvm.ClassFile.FieldType.byte)) : Jvm.Cond).before a0 Z = true := hw _ (List.mem_of_getElem? (i := 46) rfl)
theorem wd_9 {Z : State} {a0 : Array Value} (hw : own_H Z a0) : ((Jvm.Cond.initialized "java/lang/String") : Jvm.Cond).before a0 Z = true := hw _ (List.mem_of_getElem? (i := 9) rfl)
theorem pd_1 : parseMethodDescriptor "()B" = some ⟨[], some .byte⟩ := by decide +kernel
theorem wd_43 {Z : State} {a0 : Array Value} (hw : own_H Z a0) : ((Jvm.Cond.declares ({ cls := "java/lang/String", name := "coder", desc := "()B" } : Jvm.MethodName)) : Jvm.Cond).before a0 Z = true := hw _ (List.mem_of_getElem? (i := 43) rfl)
theorem wd_45 {Z : State} {a0 : Array Value} (hw : own_H Z a0) : ((Jvm.Cond.selects "java/lang/String" ({ cls := "java/lang/String", name := "coder", desc := "()B" } : Jvm.MethodName) ({ cls := "java/lang/String", name := "coder", desc := "()B" } : Jvm.MethodName)) : Jvm.Cond).before a0 Z = true := hw _ (List.mem_of_getElem? (i := 45) rfl)
theorem wd_44 {Z : State} {a0 : Array Value} (hw : own_H Z a0) : ((Jvm.Cond.instanceMethod ({ cls := "java/lang/String", name := "coder", desc := "()B" } : Jvm.MethodName)) : Jvm.Cond).before a0 Z = true := hw _ (List.mem_of_getElem? (i := 44) rfl)
theorem d7_9 : decode jdk_42_method_54_code 9 = .ok (.ishr, 1) := by decide +kernel
theorem d7_10 : decode jdk_42_method_54_code 10 = .ok (.ireturn, 1) := by decide +kernel
theorem ef_rmLng0 (m : MethodId) (a1 : Addr) : entryFrame m #[(.ref a1)] 1 = mkF m 0 #[.val (.ref a1)] [] := by first | (simp [entryFrame, mkF, argsToLocals, Value.category]; done) | rfl
def Q_rmLng0 (Z : State) (a1 : Addr) (gz : Int32) (vb : Addr) (kb : ClassId) (z : Int32) (LL : List Int32) (h0 : Heap) (n0 : Nat) (v : Option Value) (h : Heap) (L : List Loc) : Prop := v = some (.int (z >>> ((0 : Int32) &&& 31))) ∧ Fr n0 L ∧ h = h0
set_option maxRecDepth 65536 in
set_option maxHeartbeats 40000000 in
theorem rmLng0 (l : Launch) (Z : State) (a0 : Array Value) (hw : own_H Z a0) (ws : List Jvm.Cond) (a1 : Addr) (gz : Int32) (vb : Addr) (kb : ClassId) (z : Int32) (LL : List Int32) (h0 : Heap) (n0 : Nat) (Z0 : n0 ≤ h0.size) (O0 : Old Z n0 h0) (S_COMPACT_STRINGS : Sta Z Z.heap "java/lang/String" "COMPACT_STRINGS" "Z" (.int gz)) (hgz : ¬ gz = (0 : Int32)) (E_a1 : Exa Z h0 a1 "java/lang/String") (F_coder_a1 : Fld Z h0 a1 "java/lang/String" "coder" "B" (.int 0)) (F_value_a1 : Fld Z h0 a1 "java/lang/String" "value" "[B" (.ref vb)) (V_vb : Arv Z h0 vb kb .byte z (own_vs LL) (.int 0)) :
    own_Met l (⟨"java/lang/String", "length", "()I"⟩ : MethodName) jdk_42_method_54_code 1 (some .int) ws (own_rm 1 0 0 13) Z h0 #[(.ref a1)] (Q_rmLng0 Z a1 gz vb kb z LL h0 n0) := by
  refine own_met (plainFor_of_name pn_3) (fun m => ef_rmLng0 m a1) ?_
  intro p e s m below meth c s₁ Φ hΦ X0 hx hby hml hown hnm hret hlk hZ e0
  have N0 := Fr.nil n0
  have B : own_B p c _ _ := ⟨hx, hby, hml⟩
  show own_G p e below Φ s₁ (mkF m 0 #[.val (.ref a1)] [])
  refine o_aloadN X0 B d7_0 rfl rfl ?_
  obtain ⟨T1, X1, e1, st1⟩ := getF X0 hx hZ hown (host := "") (Or.inl (wd_27 hw)) Via.refl e0 F_value_a1 (g := (mkF m 1 #[.val (.ref a1)] [(.ref a1)])) rfl rfl (hb hby d7_1)
  refine own_go st1 ?_
  obtain ⟨cl2, Ar2, zq2, S2, M2, H2, G2⟩ := id V_vb
  refine own_go (fun _ => X1.arraylength hx (by rw [e1]; exact Ar2.1) (State.isArrayOf_alike hZ.alike Ar2.2.1) (g := (mkF m 4 #[.val (.ref a1)] [(.ref vb)])) rfl rfl (hb hby d7_4) _) ?_
  rw [len_of S2 M2]
  refine o_aloadN X1 B d7_5 rfl rfl ?_
  refine o_cV (argsL := []) (rest := [(.int z)]) X1 B hZ hown (wd_42 hw) (wd_43 hw) (wd_45 hw) (wd_44 hw) (wd_46 hw) (wd_9 hw) (by decide) E_a1 1 (rmCod0 l Z a0 hw [] a1 gz h0 n0 Z0 O0 S_COMPACT_STRINGS hgz F_coder_a1) (by decide) (by decide) (lenOf pd_1 rfl) rfl rfl rfl d7_6 e1 (by decide) (by decide) rfl ?_
  rintro _ T3 _ X3 ⟨rfl, N3q, hs3⟩
  have N3 := Fr.app N0 N3q
  show own_G p e below Φ T3 (mkF m 9 #[.val (.ref a1)] [(.int 0), (.int z)])
  refine own_go (fun _ => XS.ishr X3.here hx rfl (hb hby d7_9) rfl) ?_
  rw [hΦ]
  refine own_ret X3 (v := some (.int (z >>> ((0 : Int32) &&& 31)))) (own_nr hret) hlk (fun fs hr => retOut X3 hx hret rfl (Or.inl ⟨rfl, Or.inl rfl, _, rfl⟩) (hb hby d7_10) hr) ?_ (by decide) (by decide)
  rw [hs3]
  exact ⟨rfl, N3, rfl⟩
theorem ef_rmLng1 (m : MethodId) (a1 : Addr) : entryFrame m #[(.ref a1)] 1 = mkF m 0 #[.val (.ref a1)] [] := by first | (simp [entryFrame, mkF, argsToLocals, Value.category]; done) | rfl
def Q_rmLng1 (Z : State) (a1 : Addr) (gz : Int32) (vb : Addr) (kb : ClassId) (z : Int32) (LL : List Int32) (h0 : Heap) (n0 : Nat) (v : Option Value) (h : Heap) (L : List Loc) : Prop := v = some (.int (z >>> ((1 : Int32) &&& 31))) ∧ Fr n0 L ∧ h = h0
set_option maxRecDepth 65536 in
set_option maxHeartbeats 40000000 in
theorem rmLng1 (l : Launch) (Z : State) (a0 : Array Value) (hw : own_H Z a0) (ws : List Jvm.Cond) (a1 : Addr) (gz : Int32) (vb : Addr) (kb : ClassId) (z : Int32) (LL : List Int32) (h0 : Heap) (n0 : Nat) (Z0 : n0 ≤ h0.size) (O0 : Old Z n0 h0) (S_COMPACT_STRINGS : Sta Z Z.heap "java/lang/String" "COMPACT_STRINGS" "Z" (.int gz)) (hgz : ¬ gz = (0 : Int32)) (E_a1 : Exa Z h0 a1 "java/lang/String") (F_coder_a1 : Fld Z h0 a1 "java/lang/String" "coder" "B" (.int 1)) (F_value_a1 : Fld Z h0 a1 "java/lang/String" "value" "[B" (.ref vb)) (V_vb : Arv Z h0 vb kb .byte z (own_vs LL) (.int 0)) :
    own_Met l (⟨"java/lang/String", "length", "()I"⟩ : MethodName) jdk_42_method_54_code 1 (some .int) ws (own_rm 1 0 0 13) Z h0 #[(.ref a1)] (Q_rmLng1 Z a1 gz vb kb z LL h0 n0) := by
  refine own_met (plainFor_of_name pn_3) (fun m => ef_rmLng1 m a1) ?_
  intro p e s m below meth c s₁ Φ hΦ X0 hx hby hml hown hnm hret hlk hZ e0
  have N0 := Fr.nil n0
  have B : own_B p c _ _ := ⟨hx, hby, hml⟩
  show own_G p e below Φ s₁ (mkF m 0 #[.val (.ref a1)] [])
  refine o_aloadN X0 B d7_0 rfl rfl ?_
  obtain ⟨T1, X1, e1, st1⟩ := getF X0 hx hZ hown (host := "") (Or.inl (wd_27 hw)) Via.refl e0 F_value_a1 (g := (mkF m 1 #[.val (.ref a1)] [(.ref a1)])) rfl rfl (hb hby d7_1)
  refine own_go st1 ?_
  obtain ⟨cl2, Ar2, zq2, S2, M2, H2, G2⟩ := id V_vb
  refine own_go (fun _ => X1.arraylength hx (by rw [e1]; exact Ar2.1) (State.isArrayOf_alike hZ.alike Ar2.2.1) (g := (mkF m 4 #[.val (.ref a1)] [(.ref vb)])) rfl rfl (hb hby d7_4) _) ?_
  rw [len_of S2 M2]
  refine o_aloadN X1 B d7_5 rfl rfl ?_
  refine o_cV (argsL := []) (rest := [(.int z)]) X1 B hZ hown (wd_42 hw) (wd_43 hw) (wd_45 hw) (wd_44 hw) (wd_46 hw) (wd_9 hw) (by decide) E_a1 1 (rmCod1 l Z a0 hw [] a1 gz h0 n0 Z0 O0 S_COMPACT_STRINGS hgz F_coder_a1) (by decide) (by decide) (lenOf pd_1 rfl) rfl rfl rfl d7_6 e1 (by decide) (by decide) rfl ?_
  rintro _ T3 _ X3 ⟨rfl, N3q, hs3⟩
  have N3 := Fr.app N0 N3q
  show own_G p e below Φ T3 (mkF m 9 #[.val (.ref a1)] [(.int 1), (.int z)])
  refine own_go (fun _ => XS.ishr X3.here hx rfl (hb hby d7_9) rfl) ?_
  rw [hΦ]
  refine own_ret X3 (v := some (.int (z >>> ((1 : Int32) &&& 31)))) (own_nr hret) hlk (fun fs hr => retOut X3 hx hret rfl (Or.inl ⟨rfl, Or.inl rfl, _, rfl⟩) (hb hby d7_10) hr) ?_ (by decide) (by decide)
  rw [hs3]
  exact ⟨rfl, N3, rfl⟩
theorem d15_0 : decode jdk_43_method_2_code 0 = .ok (.iload_n 1, 1) := by decide +kernel
theorem d15_1 : decode jdk_43_method_2_code 1 = .ok (.aload_n 0, 1) := by decide +kernel
theorem d15_2 : decode jdk_43_method_2_code 2 = .ok (.arraylength, 1) := by decide +kernel
theorem d15_3 : decode jdk_43_method_2_code 3 = .ok (.invokestatic 9, 3) := by decide +kernel
theorem wd_78 {Z : State} {a0 : Array Value} (hw : own_H Z a0) : ((Jvm.Cond.methodLink "java/lang/StringLatin1" (9 : Nat) ({ cls := "java/lang/String", name := "checkIndex", desc := "(II)V" } : Jvm.MethodName)) : Jvm.Cond).before a0 Z = true := hw _ (List.mem_of_getElem? (i := 78) rfl)
theorem wd_80 {Z : State} {a0 : Array Value} (hw : own_H Z a0) : ((Jvm.Cond.code ({ cls := "java/lang/String", name := "checkIndex", desc := "(II)V" } : Jvm.MethodName) jdk_42_method_155_code (2 : Nat) (Option.none : Option Jvm.ClassFile.FieldType)) : Jvm.Cond).before a0 Z = true := hw _ (List.mem_of_getElem? (i := 80) rfl)
theorem pd_2 : parseMethodDescriptor "(II)V" = some ⟨[.int, .int], none⟩ := by decide +kernel
theorem wd_79 {Z : State} {a0 : Array Value} (hw : own_H Z a0) : ((Jvm.Cond.static ({ cls := "java/lang/String", name := "checkIndex", desc := "(II)V" } : Jvm.MethodName)) : Jvm.Cond).before a0 Z = true := hw _ (List.mem_of_getElem? (i := 79) rfl)
theorem d15_6 : decode jdk_43_method_2_code 6 = .ok (.aload_n 0, 1) := by decide +kernel
theorem d15_7 : decode jdk_43_method_2_code 7 = .ok (.iload_n 1, 1) := by decide +kernel
theorem d15_8 : decode jdk_43_method_2_code 8 = .ok (.baload, 1) := by decide +kernel
theorem d15_9 : decode jdk_43_method_2_code 9 = .ok (.sipush 255, 3) := by decide +kernel
theorem d15_12 : decode jdk_43_method_2_code 12 = .ok (.iand, 1) := by decide +kernel
theorem d15_13 : decode jdk_43_method_2_code 13 = .ok (.i2c, 1) := by decide +kernel
theorem d15_14 : decode jdk_43_method_2_code 14 = .ok (.ireturn, 1) := by decide +kernel
theorem pn_4 : plainName "java/lang/StringLatin1" = true := by first | (simp [plainName, overriddenIn]; done) | decide +kernel
theorem ef_rmCa8 (m : MethodId) (vb : Addr) (p1 : Int32) : entryFrame m #[(.ref vb), (.int p1)] 2 = mkF m 0 #[.val (.ref vb), .val (.int p1)] [] := by first | (simp [entryFrame, mkF, argsToLocals, Value.category]; done) | rfl
def Q_rmCa8 (Z : State) (vb : Addr) (kb : ClassId) (z : Int32) (LL : List Int32) (p1 : Int32) (rf : Value) (h0 : Heap) (n0 : Nat) (v : Option Value) (h : Heap) (L : List Loc) : Prop := v = some (.int (own_c8 LL p1)) ∧ Fr n0 L ∧ h = h0
set_option maxRecDepth 65536 in
set_option maxHeartbeats 40000000 in
theorem rmCa8 (l : Launch) (Z : State) (a0 : Array Value) (hw : own_H Z a0) (ws : List Jvm.Cond) (vb : Addr) (kb : ClassId) (z : Int32) (LL : List Int32) (p1 : Int32) (rf : Value) (h0 : Heap) (n0 : Nat) (Z0 : n0 ≤ h0.size) (O0 : Old Z n0 h0) (S_SIOOBE_FORMATTER : Sta Z Z.heap "jdk/internal/util/Preconditions" "SIOOBE_FORMATTER" "Ljava/util/function/BiFunction;" rf) (hrf : rf.isRef = true) (V_vb : Arv Z h0 vb kb .byte z (own_vs LL) (.int 0)) (hi : ¬ p1 < 0 ∧ p1 < z) :
    own_Met l (⟨"java/lang/StringLatin1", "charAt", "([BI)C"⟩ : MethodName) jdk_43_method_2_code 2 (some .char) ws (own_rm 2 0 0 27) Z h0 #[(.ref vb), (.int p1)] (Q_rmCa8 Z vb kb z LL p1 rf h0 n0) := by
  refine own_met (plainFor_of_name pn_4) (fun m => ef_rmCa8 m vb p1) ?_
  intro p e s m below meth c s₁ Φ hΦ X0 hx hby hml hown hnm hret hlk hZ e0
  have N0 := Fr.nil n0
  have B : own_B p c _ _ := ⟨hx, hby, hml⟩
  show own_G p e below Φ s₁ (mkF m 0 #[.val (.ref vb), .val (.int p1)] [])
  refine o_iloadN X0 B d15_0 rfl ?_
  refine o_aloadN X0 B d15_1 rfl rfl ?_
  obtain ⟨cl1, Ar1, zq1, S1, M1, H1, G1⟩ := id V_vb
  refine own_go (fun _ => X0.arraylength hx (by rw [e0]; exact Ar1.1) (State.isArrayOf_alike hZ.alike Ar1.2.1) (g := (mkF m 2 #[.val (.ref vb), .val (.int p1)] [(.ref vb), (.int p1)])) rfl rfl (hb hby d15_2) _) ?_
  rw [len_of S1 M1]
  refine o_cS (argsL := [(.int p1), (.int z)]) (rest := []) X0 B hZ hown (wd_78 hw) (wd_79 hw) (wd_80 hw) (wd_9 hw) (by decide) 0 (rmSci l Z a0 hw [] p1 z rf h0 n0 Z0 O0 S_SIOOBE_FORMATTER hrf hi) (by decide) (by decide) (lenOf pd_2 rfl) rfl rfl rfl d15_3 e0 (by decide) (by decide) rfl ?_
  rintro _ T2 _ X2 ⟨rfl, N2q, hs2⟩
  have N2 := Fr.app N0 N2q
  refine o_aloadN X2 B d15_6 rfl rfl ?_
  show own_G p e below Φ T2 (mkF m 7 #[.val (.ref vb), .val (.int p1)] [(.ref vb)])
  refine o_iloadN X2 B d15_7 rfl ?_
  obtain ⟨cl3, Ar3, zq3, S3, M3, H3, G3⟩ := id V_vb
  have hin3 : ¬ (p1 < 0 ∨ cl3.slots.size ≤ (p1).toNatClampNeg) := inb_of S3 hi
  refine own_go (fun _ => X2.baloadBytes hx (j := p1) (v := (.int (LL.getD p1.toNatClampNeg 0))) (by rw [hs2]; exact Ar3.1) (State.isArrayOf_alike hZ.alike Ar3.2.1) Ar3.2.2 hin3 (H3.at hin3 (own_vs_at _ _)) (g := (mkF m 8 #[.val (.ref vb), .val (.int p1)] [(.int p1), (.ref vb)])) rfl rfl (hb hby d15_8) _) ?_
  refine o_sipush X2 B d15_9 ?_
  refine own_go (fun _ => XS.iand X2.here hx rfl (hb hby d15_12) rfl) ?_
  show own_G p e below Φ T2 (mkF m 13 #[.val (.ref vb), .val (.int p1)] [(.int ((LL.getD p1.toNatClampNeg 0) &&& (255 : Int32)))])
  refine own_go (fun _ => XS.i2c X2.here hx rfl (hb hby d15_13) rfl) ?_
  rw [hΦ]
  refine own_ret X2 (v := some (.int (nar .char (((LL.getD p1.toNatClampNeg 0) &&& (255 : Int32)).toUInt32.toUInt16.toUInt32.toInt32)))) (own_nr hret) hlk (fun fs hr => retN X2 hx (t := .char) hret (by simp) (hb hby d15_14) hr) ?_ (by decide) (by decide)
  rw [hs2]
  exact ⟨rfl, N2, rfl⟩
theorem d23_0 : decode jdk_52_method_5_code 0 = .ok (.getstatic 44, 3) := by decide +kernel
theorem wd_103 {Z : State} {a0 : Array Value} (hw : own_H Z a0) : ((Jvm.Cond.fieldLink "java/lang/StringUTF16" (44 : Nat) "java/lang/StringUTF16" "$assertionsDisabled" "Z") : Jvm.Cond).before a0 Z = true := hw _ (List.mem_of_getElem? (i := 103) rfl)
theorem d23_3 : decode jdk_52_method_5_code 3 = .ok (.ifCond .ne 25, 3) := by decide +kernel
theorem d23_28 : decode jdk_52_method_5_code 28 = .ok (.iload_n 1, 1) := by decide +kernel
theorem d23_29 : decode jdk_52_method_5_code 29 = .ok (.iconst 1, 1) := by decide +kernel
theorem d23_30 : decode jdk_52_method_5_code 30 = .ok (.ishl, 1) := by decide +kernel
theorem d23_31 : decode jdk_52_method_5_code 31 = .ok (.istore_n 1, 1) := by decide +kernel
theorem d23_32 : decode jdk_52_method_5_code 32 = .ok (.aload_n 0, 1) := by decide +kernel
theorem d23_33 : decode jdk_52_method_5_code 33 = .ok (.iload_n 1, 1) := by decide +kernel
theorem d23_34 : decode jdk_52_method_5_code 34 = .ok (.iinc 1 1, 3) := by decide +kernel
theorem d23_37 : decode jdk_52_method_5_code 37 = .ok (.baload, 1) := by decide +kernel
theorem d23_38 : decode jdk_52_method_5_code 38 = .ok (.sipush 255, 3) := by decide +kernel
theorem d23_41 : decode jdk_52_method_5_code 41 = .ok (.iand, 1) := by decide +kernel
theorem d23_42 : decode jdk_52_method_5_code 42 = .ok (.getstatic 59, 3) := by decide +kernel
theorem wd_104 {Z : State} {a0 : Array Value} (hw : own_H Z a0) : ((Jvm.Cond.fieldLink "java/lang/StringUTF16" (59 : Nat) "java/lang/StringUTF16" "HI_BYTE_SHIFT" "I") : Jvm.Cond).before a0 Z = true := hw _ (List.mem_of_getElem? (i := 104) rfl)
theorem d23_45 : decode jdk_52_method_5_code 45 = .ok (.ishl, 1) := by decide +kernel
theorem d23_46 : decode jdk_52_method_5_code 46 = .ok (.aload_n 0, 1) := by decide +kernel
theorem d23_47 : decode jdk_52_method_5_code 47 = .ok (.iload_n 1, 1) := by decide +kernel
theorem d23_48 : decode jdk_52_method_5_code 48 = .ok (.baload, 1) := by decide +kernel
theorem d23_49 : decode jdk_52_method_5_code 49 = .ok (.sipush 255, 3) := by decide +kernel
theorem d23_52 : decode jdk_52_method_5_code 52 = .ok (.iand, 1) := by decide +kernel
theorem d23_53 : decode jdk_52_method_5_code 53 = .ok (.getstatic 63, 3) := by decide +kernel
theorem wd_105 {Z : State} {a0 : Array Value} (hw : own_H Z a0) : ((Jvm.Cond.fieldLink "java/lang/StringUTF16" (63 : Nat) "java/lang/StringUTF16" "LO_BYTE_SHIFT" "I") : Jvm.Cond).before a0 Z = true := hw _ (List.mem_of_getElem? (i := 105) rfl)
theorem d23_56 : decode jdk_52_method_5_code 56 = .ok (.ishl, 1) := by decide +kernel
theorem d23_57 : decode jdk_52_method_5_code 57 = .ok (.ior, 1) := by decide +kernel
theorem d23_58 : decode jdk_52_method_5_code 58 = .ok (.i2c, 1) := by decide +kernel
theorem d23_59 : decode jdk_52_method_5_code 59 = .ok (.ireturn, 1) := by decide +kernel
theorem pn_5 : plainName "java/lang/StringUTF16" = true := by first | (simp [plainName, overriddenIn]; done) | decide +kernel
theorem ef_rmGch (m : MethodId) (vb : Addr) (p1 : Int32) : entryFrame m #[(.ref vb), (.int p1)] 2 = mkF m 0 #[.val (.ref vb), .val (.int p1)] [] := by first | (simp [entryFrame, mkF, argsToLocals, Value.category]; done) | rfl
def Q_rmGch (Z : State) (vb : Addr) (kb : ClassId) (z : Int32) (LL : List Int32) (p1 : Int32) (h0 : Heap) (n0 : Nat) (v : Option Value) (h : Heap) (L : List Loc) : Prop := v = some (.int (own_c16 LL p1)) ∧ Fr n0 L ∧ h = h0
set_option maxRecDepth 65536 in
set_option maxHeartbeats 40000000 in
theorem rmGch (l : Launch) (Z : State) (a0 : Array Value) (hw : own_H Z a0) (ws : List Jvm.Cond) (vb : Addr) (kb : ClassId) (z : Int32) (LL : List Int32) (p1 : Int32) (h0 : Heap) (n0 : Nat) (Z0 : n0 ≤ h0.size) (O0 : Old Z n0 h0) (S__assertionsDisabled : Sta Z Z.heap "java/lang/StringUTF16" "$assertionsDisabled" "Z" (.int 1)) (S_HI_BYTE_SHIFT : Sta Z Z.heap "java/lang/StringUTF16" "HI_BYTE_SHIFT" "I" (.int 0)) (S_LO_BYTE_SHIFT : Sta Z Z.heap "java/lang/StringUTF16" "LO_BYTE_SHIFT" "I" (.int 8)) (V_vb : Arv Z h0 vb kb .byte z (own_vs LL) (.int 0)) (hb0 : ¬ (p1 <<< ((1 : Int32) &&& 31)) < 0 ∧ (p1 <<< ((1 : Int32) &&& 31)) < z) (hb1 : ¬ ((p1 <<< ((1 : Int32) &&& 31)) + (1 : Int32)) < 0 ∧ ((p1 <<< ((1 : Int32) &&& 31)) + (1 : Int32)) < z) :
    own_Met l (⟨"java/lang/StringUTF16", "getChar", "([BI)C"⟩ : MethodName) jdk_52_method_5_code 2 (some .char) ws (own_rm 0 0 0 0) Z h0 #[(.ref vb), (.int p1)] (Q_rmGch Z vb kb z LL p1 h0 n0) := by
  refine own_met (plainFor_of_name pn_5) (fun m => ef_rmGch m vb p1) ?_
  intro p e s m below meth c s₁ Φ hΦ X0 hx hby hml hown hnm hret hlk hZ e0
  have N0 := Fr.nil n0
  have B : own_B p c _ _ := ⟨hx, hby, hml⟩
  show own_G p e below Φ s₁ (mkF m 0 #[.val (.ref vb), .val (.int p1)] [])
  obtain ⟨T1, X1, e1, st1⟩ := getS2 X0 hx hZ hown (host := "") (Or.inl (wd_103 hw)) Via.refl e0 (S__assertionsDisabled.ext O0.2) (g := (mkF m 0 #[.val (.ref vb), .val (.int p1)] [])) rfl (hb hby d23_0)
  refine own_go st1 ?_
  refine o_ifY X1 B 28 d23_3 (XT.i0_ne_t (by decide : ¬ ((1 : Int32) = (0 : Int32)))) rfl ?_
  refine o_iloadN X1 B d23_28 rfl ?_
  refine o_iconst X1 B d23_29 ?_
  refine own_go (fun _ => XS.ishl X1.here hx rfl (hb hby d23_30) rfl) ?_
  show own_G p e below Φ T1 (mkF m 31 #[.val (.ref vb), .val (.int p1)] [(.int (p1 <<< ((1 : Int32) &&& 31)))])
  refine o_istoreN (L' := #[.val (.ref vb), .val (.int (p1 <<< ((1 : Int32) &&& 31)))]) X1 B d23_31 rfl ?_
  refine o_aloadN X1 B d23_32 rfl rfl ?_
  refine o_iloadN X1 B d23_33 rfl ?_
  refine o_iinc (L' := #[.val (.ref vb), .val (.int ((p1 <<< ((1 : Int32) &&& 31)) + (1 : Int32)))]) X1 B d23_34 rfl rfl ?_
  obtain ⟨cl2, Ar2, zq2, S2, M2, H2, G2⟩ := id V_vb
  have hin2 : ¬ ((p1 <<< ((1 : Int32) &&& 31)) < 0 ∨ cl2.slots.size ≤ ((p1 <<< ((1 : Int32) &&& 31))).toNatClampNeg) := inb_of S2 hb0
  refine own_go (fun _ => X1.baloadBytes hx (j := (p1 <<< ((1 : Int32) &&& 31))) (v := (.int (LL.getD (p1 <<< ((1 : Int32) &&& 31)).toNatClampNeg 0))) (by rw [e1]; exact Ar2.1) (State.isArrayOf_alike hZ.alike Ar2.2.1) Ar2.2.2 hin2 (H2.at hin2 (own_vs_at _ _)) (g := (mkF m 37 #[.val (.ref vb), .val (.int ((p1 <<< ((1 : Int32) &&& 31)) + (1 : Int32)))] [(.int (p1 <<< ((1 : Int32) &&& 31))), (.ref vb)])) rfl rfl (hb hby d23_37) _) ?_
  show own_G p e below Φ T1 (mkF m 38 #[.val (.ref vb), .val (.int ((p1 <<< ((1 : Int32) &&& 31)) + (1 : Int32)))] [(.int (LL.getD (p1 <<< ((1 : Int32) &&& 31)).toNatClampNeg 0))])
  refine o_sipush X1 B d23_38 ?_
  refine own_go (fun _ => XS.iand X1.here hx rfl (hb hby d23_41) rfl) ?_
  obtain ⟨T3, X3, e3, st3⟩ := getS2 X1 hx hZ hown (host := "") (Or.inl (wd_104 hw)) Via.refl e1 (S_HI_BYTE_SHIFT.ext O0.2) (g := (mkF m 42 #[.val (.ref vb), .val (.int ((p1 <<< ((1 : Int32) &&& 31)) + (1 : Int32)))] [(.int ((LL.getD (p1 <<< ((1 : Int32) &&& 31)).toNatClampNeg 0) &&& (255 : Int32)))])) rfl (hb hby d23_42)
  refine own_go st3 ?_
  refine own_go (fun _ => XS.ishl X3.here hx rfl (hb hby d23_45) rfl) ?_
  show own_G p e below Φ T3 (mkF m 46 #[.val (.ref vb), .val (.int ((p1 <<< ((1 : Int32) &&& 31)) + (1 : Int32)))] [(.int (((LL.getD (p1 <<< ((1 : Int32) &&& 31)).toNatClampNeg 0) &&& (255 : Int32)) <<< ((0 : Int32) &&& 31)))])
  refine o_aloadN X3 B d23_46 rfl rfl ?_
  refine o_iloadN X3 B d23_47 rfl ?_
  obtain ⟨cl4, Ar4, zq4, S4, M4, H4, G4⟩ := id V_vb
  have hin4 : ¬ (((p1 <<< ((1 : Int32) &&& 31)) + (1 : Int32)) < 0 ∨ cl4.slots.size ≤ (((p1 <<< ((1 : Int32) &&& 31)) + (1 : Int32))).toNatClampNeg) := inb_of S4 hb1
  refine own_go (fun _ => X3.baloadBytes hx (j := ((p1 <<< ((1 : Int32) &&& 31)) + (1 : Int32))) (v := (.int (LL.getD ((p1 <<< ((1 : Int32) &&& 31)) + (1 : Int32)).toNatClampNeg 0))) (by rw [e3]; exact Ar4.1) (State.isArrayOf_alike hZ.alike Ar4.2.1) Ar4.2.2 hin4 (H4.at hin4 (own_vs_at _ _)) (g := (mkF m 48 #[.val (.ref vb), .val (.int ((p1 <<< ((1 : Int32) &&& 31)) + (1 : Int32)))] [(.int ((p1 <<< ((1 : Int32) &&& 31)) + (1 : Int32))), (.ref vb), (.int (((LL.getD (p1 <<< ((1 : Int32) &&& 31)).toNatClampNeg 0) &&& (255 : Int32)) <<< ((0 : Int32) &&& 31)))])) rfl rfl (hb hby d23_48) _) ?_
  refine o_sipush X3 B d23_49 ?_
  refine own_go (fun _ => XS.iand X3.here hx rfl (hb hby d23_52) rfl) ?_
  show own_G p e below Φ T3 (mkF m 53 #[.val (.ref vb), .val (.int ((p1 <<< ((1 : Int32) &&& 31)) + (1 : Int32)))] [(.int ((LL.getD ((p1 <<< ((1 : Int32) &&& 31)) + (1 : Int32)).toNatClampNeg 0) &&& (255 : Int32))), (.int (((LL.getD (p1 <<< ((1 : Int32) &&& 31)).toNatClampNeg 0) &&& (255 : Int32)) <<< ((0 : Int32) &&& 31)))])
  obtain ⟨T5, X5, e5, st5⟩ := getS2 X3 hx hZ hown (host := "") (Or.inl (wd_105 hw)) Via.refl e3 (S_LO_BYTE_SHIFT.ext O0.2) (g := (mkF m 53 #[.val (.ref vb), .val (.int ((p1 <<< ((1 : Int32) &&& 31)) + (1 : Int32)))] [(.int ((LL.getD ((p1 <<< ((1 : Int32) &&& 31)) + (1 : Int32)).toNatClampNeg 0) &&& (255 : Int32))), (.int (((LL.getD (p1 <<< ((1 : Int32) &&& 31)).toNatClampNeg 0) &&& (255 : Int32)) <<< ((0 : Int32) &&& 31)))])) rfl (hb hby d23_53)
  refine own_go st5 ?_
  refine own_go (fun _ => XS.ishl X5.here hx rfl (hb hby d23_56) rfl) ?_
  refine own_go (fun _ => XS.ior X5.here hx rfl (hb hby d23_57) rfl) ?_
  show own_G p e below Φ T5 (mkF m 58 #[.val (.ref vb), .val (.int ((p1 <<< ((1 : Int32) &&& 31)) + (1 : Int32)))] [(.int ((((LL.getD (p1 <<< ((1 : Int32) &&& 31)).toNatClampNeg 0) &&& (255 : Int32)) <<< ((0 : Int32) &&& 31)) ||| (((LL.getD ((p1 <<< ((1 : Int32) &&& 31)) + (1 : Int32)).toNatClampNeg 0) &&& (255 : Int32)) <<< ((8 : Int32) &&& 31))))])
  refine own_go (fun _ => XS.i2c X5.here hx rfl (hb hby d23_58) rfl) ?_
  rw [hΦ]
  refine own_ret X5 (v := some (.int (nar .char (((((LL.getD (p1 <<< ((1 : Int32) &&& 31)).toNatClampNeg 0) &&& (255 : Int32)) <<< ((0 : Int32) &&& 31)) ||| (((LL.getD ((p1 <<< ((1 : Int32) &&& 31)) + (1 : Int32)).toNatClampNeg 0) &&& (255 : Int32)) <<< ((8 : Int32) &&& 31))).toUInt32.toUInt16.toUInt32.toInt32)))) (own_nr hret) hlk (fun fs hr => retN X5 hx (t := .char) hret (by simp) (hb hby d23_59) hr) ?_ (by decide) (by decide)
  rw [e5]
  exact ⟨rfl, N0, rfl⟩
theorem d22_0 : decode jdk_52_method_4_code 0 = .ok (.getstatic 44, 3) := by decide +kernel
theorem d22_3 : decode jdk_52_method_4_code 3 = .ok (.ifCond .ne 25, 3) := by decide +kernel
theorem d22_28 : decode jdk_52_method_4_code 28 = .ok (.iload_n 1, 1) := by decide +kernel
theorem d22_29 : decode jdk_52_method_4_code 29 = .ok (.iconst 1, 1) := by decide +kernel
theorem d22_30 : decode jdk_52_method_4_code 30 = .ok (.ishl, 1) := by decide +kernel
theorem d22_31 : decode jdk_52_method_4_code 31 = .ok (.istore_n 1, 1) := by decide +kernel
theorem d22_32 : decode jdk_52_method_4_code 32 = .ok (.aload_n 0, 1) := by decide +kernel
theorem d22_33 : decode jdk_52_method_4_code 33 = .ok (.iload_n 1, 1) := by decide +kernel
theorem d22_34 : decode jdk_52_method_4_code 34 = .ok (.iinc 1 1, 3) := by decide +kernel
theorem d22_37 : decode jdk_52_method_4_code 37 = .ok (.iload_n 2, 1) := by decide +kernel
theorem d22_38 : decode jdk_52_method_4_code 38 = .ok (.getstatic 59, 3) := by decide +kernel
theorem d22_41 : decode jdk_52_method_4_code 41 = .ok (.ishr, 1) := by decide +kernel
theorem d22_42 : decode jdk_52_method_4_code 42 = .ok (.i2b, 1) := by decide +kernel
theorem d22_43 : decode jdk_52_method_4_code 43 = .ok (.bastore, 1) := by decide +kernel
theorem d22_44 : decode jdk_52_method_4_code 44 = .ok (.aload_n 0, 1) := by decide +kernel
theorem d22_45 : decode jdk_52_method_4_code 45 = .ok (.iload_n 1, 1) := by decide +kernel
theorem d22_46 : decode jdk_52_method_4_code 46 = .ok (.iload_n 2, 1) := by decide +kernel
theorem d22_47 : decode jdk_52_method_4_code 47 = .ok (.getstatic 63, 3) := by decide +kernel
theorem d22_50 : decode jdk_52_method_4_code 50 = .ok (.ishr, 1) := by decide +kernel
theorem d22_51 : decode jdk_52_method_4_code 51 = .ok (.i2b, 1) := by decide +kernel
theorem d22_52 : decode jdk_52_method_4_code 52 = .ok (.bastore, 1) := by decide +kernel
theorem d22_53 : decode jdk_52_method_4_code 53 = .ok (.return_, 1) := by decide +kernel
theorem ef_rmPch (m : MethodId) (vb : Addr) (p1 : Int32) (p2 : Int32) : entryFrame m #[(.ref vb), (.int p1), (.int p2)] 3 = mkF m 0 #[.val (.ref vb), .val (.int p1), .val (.int p2)] [] := by first | (simp [entryFrame, mkF, argsToLocals, Value.category]; done) | rfl
def Q_rmPch (Z : State) (vb : Addr) (kb : ClassId) (z : Int32) (LL : List Int32) (p1 : Int32) (p2 : Int32) (h0 : Heap) (n0 : Nat) (v : Option Value) (h : Heap) (L : List Loc) : Prop := v = none ∧ Fr n0 L ∧ Keep h0 h [vb] ∧ Arv Z h vb kb .byte z (own_vs (own_put LL p1 p2)) (.int 0)
set_option maxRecDepth 65536 in
set_option maxHeartbeats 40000000 in
theorem rmPch (l : Launch) (Z : State) (a0 : Array Value) (hw : own_H Z a0) (ws : List Jvm.Cond) (vb : Addr) (kb : ClassId) (z : Int32) (LL : List Int32) (p1 : Int32) (p2 : Int32) (h0 : Heap) (n0 : Nat) (Z0 : n0 ≤ h0.size) (O0 : Old Z n0 h0) (S__assertionsDisabled : Sta Z Z.heap "java/lang/StringUTF16" "$assertionsDisabled" "Z" (.int 1)) (S_HI_BYTE_SHIFT : Sta Z Z.heap "java/lang/StringUTF16" "HI_BYTE_SHIFT" "I" (.int 0)) (S_LO_BYTE_SHIFT : Sta Z Z.heap "java/lang/StringUTF16" "LO_BYTE_SHIFT" "I" (.int 8)) (V_vb : Arv Z h0 vb kb .byte z (own_vs LL) (.int 0)) (g_vb : n0 ≤ vb) (hb0 : ¬ (p1 <<< ((1 : Int32) &&& 31)) < 0 ∧ (p1 <<< ((1 : Int32) &&& 31)) < z) (hb1 : ¬ ((p1 <<< ((1 : Int32) &&& 31)) + (1 : Int32)) < 0 ∧ ((p1 <<< ((1 : Int32) &&& 31)) + (1 : Int32)) < z) (hLL : LL.length = z.toNatClampNeg) :
    own_Met l (⟨"java/lang/StringUTF16", "putChar", "([BII)V"⟩ : MethodName) jdk_52_method_4_code 3 none ws (own_rm 0 0 0 0) Z h0 #[(.ref vb), (.int p1), (.int p2)] (Q_rmPch Z vb kb z LL p1 p2 h0 n0) := by
  refine own_met (plainFor_of_name pn_5) (fun m => ef_rmPch m vb p1 p2) ?_
  intro p e s m below meth c s₁ Φ hΦ X0 hx hby hml hown hnm hret hlk hZ e0
  have N0 := Fr.nil n0
  have B : own_B p c _ _ := ⟨hx, hby, hml⟩
  have K0 : Keep h0 h0 [vb] := Keep.refl _ _
  show own_G p e below Φ s₁ (mkF m 0 #[.val (.ref vb), .val (.int p1), .val (.int p2)] [])
  obtain ⟨T1, X1, e1, st1⟩ := getS2 X0 hx hZ hown (host := "") (Or.inl (wd_103 hw)) Via.refl e0 (S__assertionsDisabled.ext O0.2) (g := (mkF m 0 #[.val (.ref vb), .val (.int p1), .val (.int p2)] [])) rfl (hb hby d22_0)
  refine own_go st1 ?_
  refine o_ifY X1 B 28 d22_3 (XT.i0_ne_t (by decide : ¬ ((1 : Int32) = (0 : Int32)))) rfl ?_
  refine o_iloadN X1 B d22_28 rfl ?_
  refine o_iconst X1 B d22_29 ?_
  refine own_go (fun _ => XS.ishl X1.here hx rfl (hb hby d22_30) rfl) ?_
  show own_G p e below Φ T1 (mkF m 31 #[.val (.ref vb), .val (.int p1), .val (.int p2)] [(.int (p1 <<< ((1 : Int32) &&& 31)))])
  refine o_istoreN (L' := #[.val (.ref vb), .val (.int (p1 <<< ((1 : Int32) &&& 31))), .val (.int p2)]) X1 B d22_31 rfl ?_
  refine o_aloadN X1 B d22_32 rfl rfl ?_
  refine o_iloadN X1 B d22_33 rfl ?_
  refine o_iinc (L' := #[.val (.ref vb), .val (.int ((p1 <<< ((1 : Int32) &&& 31)) + (1 : Int32))), .val (.int p2)]) X1 B d22_34 rfl rfl ?_
  refine o_iloadN X1 B d22_37 rfl ?_
  obtain ⟨T2, X2, e2, st2⟩ := getS2 X1 hx hZ hown (host := "") (Or.inl (wd_104 hw)) Via.refl e1 (S_HI_BYTE_SHIFT.ext O0.2) (g := (mkF m 38 #[.val (.ref vb), .val (.int ((p1 <<< ((1 : Int32) &&& 31)) + (1 : Int32))), .val (.int p2)] [(.int p2), (.int (p1 <<< ((1 : Int32) &&& 31))), (.ref vb)])) rfl (hb hby d22_38)
  refine own_go st2 ?_
  refine own_go (fun _ => XS.ishr X2.here hx rfl (hb hby d22_41) rfl) ?_
  show own_G p e below Φ T2 (mkF m 42 #[.val (.ref vb), .val (.int ((p1 <<< ((1 : Int32) &&& 31)) + (1 : Int32))), .val (.int p2)] [(.int (p2 >>> ((0 : Int32) &&& 31))), (.int (p1 <<< ((1 : Int32) &&& 31))), (.ref vb)])
  refine own_go (fun _ => XS.i2b X2.here hx rfl (hb hby d22_42) rfl) ?_
  obtain ⟨cl3, Ar3, zq3, S3, M3, H3, G3⟩ := id V_vb
  have hin3 : ¬ ((p1 <<< ((1 : Int32) &&& 31)) < 0 ∨ cl3.slots.size ≤ ((p1 <<< ((1 : Int32) &&& 31))).toNatClampNeg) := inb_of S3 hb0
  obtain ⟨T3, h3, X3, e3, W3, st3⟩ := stB X2 hx hZ e2 Ar3 (j := (p1 <<< ((1 : Int32) &&& 31))) hin3 (g := (mkF m 43 #[.val (.ref vb), .val (.int ((p1 <<< ((1 : Int32) &&& 31)) + (1 : Int32))), .val (.int p2)] [(.int ((p2 >>> ((0 : Int32) &&& 31)).toInt8.toInt32)), (.int (p1 <<< ((1 : Int32) &&& 31))), (.ref vb)])) rfl rfl (hb hby d22_43)
  refine own_go st3 ?_
  have V3 : Arv Z h3 vb kb .byte z (own_vs (LL.set (p1 <<< ((1 : Int32) &&& 31)).toNatClampNeg (own_h0 p2))) (.int 0) := own_vs_set _ _ _ ▸ Arv.set Ar3 zq3 S3 M3 H3 G3 (fits_nar_byte ((p2 >>> ((0 : Int32) &&& 31)).toInt8.toInt32)) W3 _ rfl (by simp only [own_vs_len, List.length_set]; rw [hLL]; exact own_clamp hb0)
  have O4 := O0.wr W3 g_vb
  have N3 := Fr.snoc X3 N0 g_vb
  have K3 := K0.wr W3 (Or.inl (List.mem_of_getElem? (i := 0) rfl))
  have Zp3 : n0 ≤ h3.size := Nat.le_trans Z0 (Keep.of_wr W3).1
  refine o_aloadN X3 B d22_44 rfl rfl ?_
  refine o_iloadN X3 B d22_45 rfl ?_
  refine o_iloadN X3 B d22_46 rfl ?_
  show own_G p e below Φ T3 (mkF m 47 #[.val (.ref vb), .val (.int ((p1 <<< ((1 : Int32) &&& 31)) + (1 : Int32))), .val (.int p2)] [(.int p2), (.int ((p1 <<< ((1 : Int32) &&& 31)) + (1 : Int32))), (.ref vb)])
  obtain ⟨T5, X5, e5, st5⟩ := getS2 X3 hx hZ hown (host := "") (Or.inl (wd_105 hw)) Via.refl e3 (S_LO_BYTE_SHIFT.ext O4.2) (g := (mkF m 47 #[.val (.ref vb), .val (.int ((p1 <<< ((1 : Int32) &&& 31)) + (1 : Int32))), .val (.int p2)] [(.int p2), (.int ((p1 <<< ((1 : Int32) &&& 31)) + (1 : Int32))), (.ref vb)])) rfl (hb hby d22_47)
  refine own_go st5 ?_
  refine own_go (fun _ => XS.ishr X5.here hx rfl (hb hby d22_50) rfl) ?_
  refine own_go (fun _ => XS.i2b X5.here hx rfl (hb hby d22_51) rfl) ?_
  show own_G p e below Φ T5 (mkF m 52 #[.val (.ref vb), .val (.int ((p1 <<< ((1 : Int32) &&& 31)) + (1 : Int32))), .val (.int p2)] [(.int ((p2 >>> ((8 : Int32) &&& 31)).toInt8.toInt32)), (.int ((p1 <<< ((1 : Int32) &&& 31)) + (1 : Int32))), (.ref vb)])
  obtain ⟨cl6, Ar6, zq6, S6, M6, H6, G6⟩ := id V3
  have hin6 : ¬ (((p1 <<< ((1 : Int32) &&& 31)) + (1 : Int32)) < 0 ∨ cl6.slots.size ≤ (((p1 <<< ((1 : Int32) &&& 31)) + (1 : Int32))).toNatClampNeg) := inb_of S6 hb1
  obtain ⟨T6, h6, X6, e6, W6, st6⟩ := stB X5 hx hZ e5 Ar6 (j := ((p1 <<< ((1 : Int32) &&& 31)) + (1 : Int32))) hin6 (g := (mkF m 52 #[.val (.ref vb), .val (.int ((p1 <<< ((1 : Int32) &&& 31)) + (1 : Int32))), .val (.int p2)] [(.int ((p2 >>> ((8 : Int32) &&& 31)).toInt8.toInt32)), (.int ((p1 <<< ((1 : Int32) &&& 31)) + (1 : Int32))), (.ref vb)])) rfl rfl (hb hby d22_52)
  refine own_go st6 ?_
  have V6 : Arv Z h6 vb kb .byte z (own_vs ((LL.set (p1 <<< ((1 : Int32) &&& 31)).toNatClampNeg (own_h0 p2)).set ((p1 <<< ((1 : Int32) &&& 31)) + (1 : Int32)).toNatClampNeg (own_h8 p2))) (.int 0) := own_vs_set _ _ _ ▸ Arv.set Ar6 zq6 S6 M6 H6 G6 (fits_nar_byte ((p2 >>> ((8 : Int32) &&& 31)).toInt8.toInt32)) W6 _ rfl (by simp only [own_vs_len, List.length_set]; rw [hLL]; exact own_clamp hb1)
  have O7 := O4.wr W6 g_vb
  have N6 := Fr.snoc X6 N3 g_vb
  have K6 := K3.wr W6 (Or.inl (List.mem_of_getElem? (i := 0) rfl))
  have Zp6 : n0 ≤ h6.size := Nat.le_trans Zp3 (Keep.of_wr W6).1
  rw [hΦ]
  refine own_ret X6 (v := none) (fun _ => rfl) hlk (fun fs hr => X6.returnOut hx hret (hb hby d22_53) hr) ?_ (by decide) (by decide)
  rw [e6]
  exact ⟨rfl, N6, K6, V6⟩
theorem d26_0 : decode jdk_52_method_6_code 0 = .ok (.aload_n 0, 1) := by decide +kernel
theorem d26_1 : decode jdk_52_method_6_code 1 = .ok (.arraylength, 1) := by decide +kernel
theorem d26_2 : decode jdk_52_method_6_code 2 = .ok (.iconst 1, 1) := by decide +kernel
theorem d26_3 : decode jdk_52_method_6_code 3 = .ok (.ishr, 1) := by decide +kernel
theorem d26_4 : decode jdk_52_method_6_code 4 = .ok (.ireturn, 1) := by decide +kernel
theorem ef_rmL16 (m : MethodId) (vb : Addr) : entryFrame m #[(.ref vb)] 1 = mkF m 0 #[.val (.ref vb)] [] := by first | (simp [entryFrame, mkF, argsToLocals, Value.category]; done) | rfl
def Q_rmL16 (Z : State) (vb : Addr) (kb : ClassId) (z : Int32) (LL : List Int32) (h0 : Heap) (n0 : Nat) (v : Option Value) (h : Heap) (L : List Loc) : Prop := v = some (.int (z >>> ((1 : Int32) &&& 31))) ∧ Fr n0 L ∧ h = h0
set_option maxRecDepth 65536 in
set_option maxHeartbeats 40000000 in
theorem rmL16 (l : Launch) (Z : State) (a0 : Array Value) (hw : own_H Z a0) (ws : List Jvm.Cond) (vb : Addr) (kb : ClassId) (z : Int32) (LL : List Int32) (h0 : Heap) (n0 : Nat) (Z0 : n0 ≤ h0.size) (V_vb : Arv Z h0 vb kb .byte z (own_vs LL) (.int 0)) :
    own_Met l (⟨"java/lang/StringUTF16", "length", "([B)I"⟩ : MethodName) jdk_52_method_6_code 1 (some .int) ws (own_rm 0 0 0 0) Z h0 #[(.ref vb)] (Q_rmL16 Z vb kb z LL h0 n0) := by
  refine own_met (plainFor_of_name pn_5) (fun m => ef_rmL16 m vb) ?_
  intro p e s m below meth c s₁ Φ hΦ X0 hx hby hml hown hnm hret hlk hZ e0
  have N0 := Fr.nil n0
  have B : own_B p c _ _ := ⟨hx, hby, hml⟩
  show own_G p e below Φ s₁ (mkF m 0 #[.val (.ref vb)] [])
  refine o_aloadN X0 B d26_0 rfl rfl ?_
  obtain ⟨cl1, Ar1, zq1, S1, M1, H1, G1⟩ := id V_vb
  refine own_go (fun _ => X0.arraylength hx (by rw [e0]; exact Ar1.1) (State.isArrayOf_alike hZ.alike Ar1.2.1) (g := (mkF m 1 #[.val (.ref vb)] [(.ref vb)])) rfl rfl (hb hby d26_1) _) ?_
  rw [len_of S1 M1]
  refine o_iconst X0 B d26_2 ?_
  refine own_go (fun _ => XS.ishr X0.here hx rfl (hb hby d26_3) rfl) ?_
  show own_G p e below Φ s₁ (mkF m 4 #[.val (.ref vb)] [(.int (z >>> ((1 : Int32) &&& 31)))])
  rw [hΦ]
  refine own_ret X0 (v := some (.int (z >>> ((1 : Int32) &&& 31)))) (own_nr hret) hlk (fun fs hr => retOut X0 hx hret rfl (Or.inl ⟨rfl, Or.inl rfl, _, rfl⟩) (hb hby d26_4) hr) ?_ (by decide) (by decide)
  rw [e0]
  exact ⟨rfl, N0, rfl⟩
theorem d25_0 : decode jdk_52_method_91_code 0 = .ok (.iload_n 0, 1) := by decide +kernel
theorem d25_1 : decode jdk_52_method_91_code 1 = .ok (.aload_n 1, 1) := by decide +kernel
theorem d25_2 : decode jdk_52_method_91_code 2 = .ok (.invokestatic 48, 3) := by decide +kernel
theorem wd_115 {Z : State} {a0 : Array Value} (hw : own_H Z a0) : ((Jvm.Cond.methodLink "java/lang/StringUTF16" (48 : Nat) ({ cls := "java/lang/StringUTF16", name := "length", desc := "([B)I" } : Jvm.MethodName)) : Jvm.Cond).before a0 Z = true := hw _ (List.mem_of_getElem? (i := 115) rfl)
theorem wd_117 {Z : State} {a0 : Array Value} (hw : own_H Z a0) : ((Jvm.Cond.code ({ cls := "java/lang/StringUTF16", name := "length", desc := "([B)I" } : Jvm.MethodName) jdk_52_method_6_code (1 : Nat) (Option.some Jvm.ClassFile.FieldType.int)) : Jvm.Cond).before a0 Z = true := hw _ (List.mem_of_getElem? (i := 117) rfl)
theorem wd_50 {Z : State} {a0 : Array Value} (hw : own_H Z a0) : ((Jvm.Cond.initialized "java/lang/StringUTF16") : Jvm.Cond).before a0 Z = true := hw _ (List.mem_of_getElem? (i := 50) rfl)
theorem pd_3 : parseMethodDescriptor "([B)I" = some ⟨[(.array .byte)], some .int⟩ := by decide +kernel
theorem wd_116 {Z : State} {a0 : Array Value} (hw : own_H Z a0) : ((Jvm.Cond.static ({ cls := "java/lang/StringUTF16", name := "length", desc := "([B)I" } : Jvm.MethodName)) : Jvm.Cond).before a0 Z = true := hw _ (List.mem_of_getElem? (i := 116) rfl)
theorem d25_5 : decode jdk_52_method_91_code 5 = .ok (.invokestatic 414, 3) := by decide +kernel
theorem wd_118 {Z : State} {a0 : Array Value} (hw : own_H Z a0) : ((Jvm.Cond.methodLink "java/lang/StringUTF16" (414 : Nat) ({ cls := "java/lang/String", name := "checkIndex", desc := "(II)V" } : Jvm.MethodName)) : Jvm.Cond).before a0 Z = true := hw _ (List.mem_of_getElem? (i := 118) rfl)
theorem d25_8 : decode jdk_52_method_91_code 8 = .ok (.return_, 1) := by decide +kernel
theorem ef_rmC16 (m : MethodId) (p1 : Int32) (vb : Addr) : entryFrame m #[(.int p1), (.ref vb)] 2 = mkF m 0 #[.val (.int p1), .val (.ref vb)] [] := by first | (simp [entryFrame, mkF, argsToLocals, Value.category]; done) | rfl
def Q_rmC16 (Z : State) (vb : Addr) (kb : ClassId) (z : Int32) (LL : List Int32) (p1 : Int32) (rf : Value) (h0 : Heap) (n0 : Nat) (v : Option Value) (h : Heap) (L : List Loc) : Prop := v = none ∧ Fr n0 L ∧ h = h0
set_option maxRecDepth 65536 in
set_option maxHeartbeats 40000000 in
theorem rmC16 (l : Launch) (Z : State) (a0 : Array Value) (hw : own_H Z a0) (ws : List Jvm.Cond) (vb : Addr) (kb : ClassId) (z : Int32) (LL : List Int32) (p1 : Int32) (rf : Value) (h0 : Heap) (n0 : Nat) (Z0 : n0 ≤ h0.size) (O0 : Old Z n0 h0) (S_SIOOBE_FORMATTER : Sta Z Z.heap "jdk/internal/util/Preconditions" "SIOOBE_FORMATTER" "Ljava/util/function/BiFunction;" rf) (hrf : rf.isRef = true) (V_vb : Arv Z h0 vb kb .byte z (own_vs LL) (.int 0)) (hi : ¬ p1 < 0 ∧ p1 < (z >>> ((1 : Int32) &&& 31))) :
    own_Met l (⟨"java/lang/StringUTF16", "checkIndex", "(I[B)V"⟩ : MethodName) jdk_52_method_91_code 2 none ws (own_rm 2 0 0 27) Z h0 #[(.int p1), (.ref vb)] (Q_rmC16 Z vb kb z LL p1 rf h0 n0) := by
  refine own_met (plainFor_of_name pn_5) (fun m => ef_rmC16 m p1 vb) ?_
  intro p e s m below meth c s₁ Φ hΦ X0 hx hby hml hown hnm hret hlk hZ e0
  have N0 := Fr.nil n0
  have B : own_B p c _ _ := ⟨hx, hby, hml⟩
  show own_G p e below Φ s₁ (mkF m 0 #[.val (.int p1), .val (.ref vb)] [])
  refine o_iloadN X0 B d25_0 rfl ?_
  refine o_aloadN X0 B d25_1 rfl rfl ?_
  refine o_cS (argsL := [(.ref vb)]) (rest := [(.int p1)]) X0 B hZ hown (wd_115 hw) (wd_116 hw) (wd_117 hw) (wd_50 hw) (by decide) 1 (rmL16 l Z a0 hw [] vb kb z LL h0 n0 Z0 V_vb) (by decide) (by decide) (lenOf pd_3 rfl) rfl rfl rfl d25_2 e0 (by decide) (by decide) rfl ?_
  rintro _ T1 _ X1 ⟨rfl, N1q, hs1⟩
  have N1 := Fr.app N0 N1q
  refine o_cS (argsL := [(.int p1), (.int (z >>> ((1 : Int32) &&& 31)))]) (rest := []) X1 B hZ hown (wd_118 hw) (wd_79 hw) (wd_80 hw) (wd_9 hw) (by decide) 0 (rmSci l Z a0 hw [] p1 (z >>> ((1 : Int32) &&& 31)) rf h0 n0 Z0 O0 S_SIOOBE_FORMATTER hrf hi) (by decide) (by decide) (lenOf pd_2 rfl) rfl rfl rfl d25_5 hs1 (by decide) (by decide) rfl ?_
  rintro _ T2 _ X2 ⟨rfl, N2q, hs2⟩
  have N2 := Fr.app N1 N2q
  rw [hΦ]
  refine own_ret X2 (v := none) (fun _ => rfl) hlk (fun fs hr => X2.returnOut hx hret (hb hby d25_8) hr) ?_ (by decide) (by decide)
  rw [hs2]
  exact ⟨rfl, N2, rfl⟩
theorem d24_0 : decode jdk_52_method_83_code 0 = .ok (.iload_n 1, 1) := by decide +kernel
theorem d24_1 : decode jdk_52_method_83_code 1 = .ok (.aload_n 0, 1) := by decide +kernel
theorem d24_2 : decode jdk_52_method_83_code 2 = .ok (.invokestatic 67, 3) := by decide +kernel
theorem wd_112 {Z : State} {a0 : Array Value} (hw : own_H Z a0) : ((Jvm.Cond.methodLink "java/lang/StringUTF16" (67 : Nat) ({ cls := "java/lang/StringUTF16", name := "checkIndex", desc := "(I[B)V" } : Jvm.MethodName)) : Jvm.Cond).before a0 Z = true := hw _ (List.mem_of_getElem? (i := 112) rfl)
theorem wd_114 {Z : State} {a0 : Array Value} (hw : own_H Z a0) : ((Jvm.Cond.code ({ cls := "java/lang/StringUTF16", name := "checkIndex", desc := "(I[B)V" } : Jvm.MethodName) jdk_52_method_91_code (2 : Nat) (Option.none : Option Jvm.ClassFile.FieldType)) : Jvm.Cond).before a0 Z = true := hw _ (List.mem_of_getElem? (i := 114) rfl)
theorem pd_4 : parseMethodDescriptor "(I[B)V" = some ⟨[.int, (.array .byte)], none⟩ := by decide +kernel
theorem wd_113 {Z : State} {a0 : Array Value} (hw : own_H Z a0) : ((Jvm.Cond.static ({ cls := "java/lang/StringUTF16", name := "checkIndex", desc := "(I[B)V" } : Jvm.MethodName)) : Jvm.Cond).before a0 Z = true := hw _ (List.mem_of_getElem? (i := 113) rfl)
theorem d24_5 : decode jdk_52_method_83_code 5 = .ok (.aload_n 0, 1) := by decide +kernel
theorem d24_6 : decode jdk_52_method_83_code 6 = .ok (.iload_n 1, 1) := by decide +kernel
theorem d24_7 : decode jdk_52_method_83_code 7 = .ok (.invokestatic 71, 3) := by decide +kernel
theorem wd_106 {Z : State} {a0 : Array Value} (hw : own_H Z a0) : ((Jvm.Cond.methodLink "java/lang/StringUTF16" (71 : Nat) ({ cls := "java/lang/StringUTF16", name := "getChar", desc := "([BI)C" } : Jvm.MethodName)) : Jvm.Cond).before a0 Z = true := hw _ (List.mem_of_getElem? (i := 106) rfl)
theorem wd_108 {Z : State} {a0 : Array Value} (hw : own_H Z a0) : ((Jvm.Cond.code ({ cls := "java/lang/StringUTF16", name := "getChar", desc := "([BI)C" } : Jvm.MethodName) jdk_52_method_5_code (2 : Nat) (Option.some Jvm.ClassFile.FieldType.char)) : Jvm.Cond).before a0 Z = true := hw _ (List.mem_of_getElem? (i := 108) rfl)
theorem pd_5 : parseMethodDescriptor "([BI)C" = some ⟨[(.array .byte), .int], some .char⟩ := by decide +kernel
theorem wd_107 {Z : State} {a0 : Array Value} (hw : own_H Z a0) : ((Jvm.Cond.static ({ cls := "java/lang/StringUTF16", name := "getChar", desc := "([BI)C" } : Jvm.MethodName)) : Jvm.Cond).before a0 Z = true := hw _ (List.mem_of_getElem? (i := 107) rfl)
theorem d24_10 : decode jdk_52_method_83_code 10 = .ok (.ireturn, 1) := by decide +kernel
theorem ef_rmCa16 (m : MethodId) (vb : Addr) (p1 : Int32) : entryFrame m #[(.ref vb), (.int p1)] 2 = mkF m 0 #[.val (.ref vb), .val (.int p1)] [] := by first | (simp [entryFrame, mkF, argsToLocals, Value.category]; done) | rfl
def Q_rmCa16 (Z : State) (vb : Addr) (kb : ClassId) (z : Int32) (LL : List Int32) (p1 : Int32) (rf : Value) (h0 : Heap) (n0 : Nat) (v : Option Value) (h : Heap) (L : List Loc) : Prop := v = some (.int (own_c16 LL p1)) ∧ Fr n0 L ∧ h = h0
set_option maxRecDepth 65536 in
set_option maxHeartbeats 40000000 in
theorem rmCa16 (l : Launch) (Z : State) (a0 : Array Value) (hw : own_H Z a0) (ws : List Jvm.Cond) (vb : Addr) (kb : ClassId) (z : Int32) (LL : List Int32) (p1 : Int32) (rf : Value) (h0 : Heap) (n0 : Nat) (Z0 : n0 ≤ h0.size) (O0 : Old Z n0 h0) (S_SIOOBE_FORMATTER : Sta Z Z.heap "jdk/internal/util/Preconditions" "SIOOBE_FORMATTER" "Ljava/util/function/BiFunction;" rf) (hrf : rf.isRef = true) (S__assertionsDisabled : Sta Z Z.heap "java/lang/StringUTF16" "$assertionsDisabled" "Z" (.int 1)) (S_HI_BYTE_SHIFT : Sta Z Z.heap "java/lang/StringUTF16" "HI_BYTE_SHIFT" "I" (.int 0)) (S_LO_BYTE_SHIFT : Sta Z Z.heap "java/lang/StringUTF16" "LO_BYTE_SHIFT" "I" (.int 8)) (V_vb : Arv Z h0 vb kb .byte z (own_vs LL) (.int 0)) (hi : ¬ p1 < 0 ∧ p1 < (z >>> ((1 : Int32) &&& 31))) (hb0 : ¬ (p1 <<< ((1 : Int32) &&& 31)) < 0 ∧ (p1 <<< ((1 : Int32) &&& 31)) < z) (hb1 : ¬ ((p1 <<< ((1 : Int32) &&& 31)) + (1 : Int32)) < 0 ∧ ((p1 <<< ((1 : Int32) &&& 31)) + (1 : Int32)) < z) :
    own_Met l (⟨"java/lang/StringUTF16", "charAt", "([BI)C"⟩ : MethodName) jdk_52_method_83_code 2 (some .char) ws (own_rm 3 0 0 40) Z h0 #[(.ref vb), (.int p1)] (Q_rmCa16 Z vb kb z LL p1 rf h0 n0) := by
  refine own_met (plainFor_of_name pn_5) (fun m => ef_rmCa16 m vb p1) ?_
  intro p e s m below meth c s₁ Φ hΦ X0 hx hby hml hown hnm hret hlk hZ e0
  have N0 := Fr.nil n0
  have B : own_B p c _ _ := ⟨hx, hby, hml⟩
  show own_G p e below Φ s₁ (mkF m 0 #[.val (.ref vb), .val (.int p1)] [])
  refine o_iloadN X0 B d24_0 rfl ?_
  refine o_aloadN X0 B d24_1 rfl rfl ?_
  refine o_cS (argsL := [(.int p1), (.ref vb)]) (rest := []) X0 B hZ hown (wd_112 hw) (wd_113 hw) (wd_114 hw) (wd_50 hw) (by decide) 0 (rmC16 l Z a0 hw [] vb kb z LL p1 rf h0 n0 Z0 O0 S_SIOOBE_FORMATTER hrf V_vb hi) (by decide) (by decide) (lenOf pd_4 rfl) rfl rfl rfl d24_2 e0 (by decide) (by decide) rfl ?_
  rintro _ T1 _ X1 ⟨rfl, N1q, hs1⟩
  have N1 := Fr.app N0 N1q
  refine o_aloadN X1 B d24_5 rfl rfl ?_
  refine o_iloadN X1 B d24_6 rfl ?_
  refine o_cS (argsL := [(.ref vb), (.int p1)]) (rest := []) X1 B hZ hown (wd_106 hw) (wd_107 hw) (wd_108 hw) (wd_50 hw) (by decide) 0 (rmGch l Z a0 hw [] vb kb z LL p1 h0 n0 Z0 O0 S__assertionsDisabled S_HI_BYTE_SHIFT S_LO_BYTE_SHIFT V_vb hb0 hb1) (by decide) (by decide) (lenOf pd_5 rfl) rfl rfl rfl d24_7 hs1 (by decide) (by decide) rfl ?_
  rintro _ T2 _ X2 ⟨rfl, N2q, hs2⟩
  have N2 := Fr.app N1 N2q
  rw [hΦ]
  refine own_ret X2 (v := some (.int (nar .char (own_c16 LL p1)))) (own_nr hret) hlk (fun fs hr => retN X2 hx (t := .char) hret (by simp) (hb hby d24_10) hr) ?_ (by decide) (by decide)
  rw [hs2]
  exact ⟨(congrArg (fun z => some (Value.int z)) (own_narc (c := own_c16 LL p1) (own_char _))), N2, rfl⟩
theorem d13_0 : decode jdk_42_method_56_code 0 = .ok (.aload_n 0, 1) := by decide +kernel
theorem d13_1 : decode jdk_42_method_56_code 1 = .ok (.invokevirtual 492, 3) := by decide +kernel
theorem wd_69 {Z : State} {a0 : Array Value} (hw : own_H Z a0) : ((Jvm.Cond.methodLink "java/lang/String" (492 : Nat) ({ cls := "java/lang/String", name := "isLatin1", desc := "()Z" } : Jvm.MethodName)) : Jvm.Cond).before a0 Z = true := hw _ (List.mem_of_getElem? (i := 69) rfl)
theorem wd_73 {Z : State} {a0 : Array Value} (hw : own_H Z a0) : ((Jvm.Cond.code ({ cls := "java/lang/String", name := "isLatin1", desc := "()Z" } : Jvm.MethodName) jdk_42_method_154_code (1 : Nat) (Option.some Jvm.ClassFile.FieldType.boolean)) : Jvm.Cond).before a0 Z = true := hw _ (List.mem_of_getElem? (i := 73) rfl)
theorem pd_6 : parseMethodDescriptor "()Z" = some ⟨[], some .boolean⟩ := by decide +kernel
theorem wd_70 {Z : State} {a0 : Array Value} (hw : own_H Z a0) : ((Jvm.Cond.declares ({ cls := "java/lang/String", name := "isLatin1", desc := "()Z" } : Jvm.MethodName)) : Jvm.Cond).before a0 Z = true := hw _ (List.mem_of_getElem? (i := 70) rfl)
theorem wd_72 {Z : State} {a0 : Array Value} (hw : own_H Z a0) : ((Jvm.Cond.selects "java/lang/String" ({ cls := "java/lang/String", name := "isLatin1", desc := "()Z" } : Jvm.MethodName) ({ cls := "java/lang/String", name := "isLatin1", desc := "()Z" } : Jvm.MethodName)) : Jvm.Cond).before a0 Z = true := hw _ (List.mem_of_getElem? (i := 72) rfl)
theorem wd_71 {Z : State} {a0 : Array Value} (hw : own_H Z a0) : ((Jvm.Cond.instanceMethod ({ cls := "java/lang/String", name := "isLatin1", desc := "()Z" } : Jvm.MethodName)) : Jvm.Cond).before a0 Z = true := hw _ (List.mem_of_getElem? (i := 71) rfl)
theorem d13_4 : decode jdk_42_method_56_code 4 = .ok (.ifCond .eq 12, 3) := by decide +kernel
theorem d13_7 : decode jdk_42_method_56_code 7 = .ok (.aload_n 0, 1) := by decide +kernel
theorem d13_8 : decode jdk_42_method_56_code 8 = .ok (.getfield 9, 3) := by decide +kernel
theorem d13_11 : decode jdk_42_method_56_code 11 = .ok (.iload_n 1, 1) := by decide +kernel
theorem d13_12 : decode jdk_42_method_56_code 12 = .ok (.invokestatic 495, 3) := by decide +kernel
theorem wd_74 {Z : State} {a0 : Array Value} (hw : own_H Z a0) : ((Jvm.Cond.methodLink "java/lang/String" (495 : Nat) ({ cls := "java/lang/StringLatin1", name := "charAt", desc := "([BI)C" } : Jvm.MethodName)) : Jvm.Cond).before a0 Z = true := hw _ (List.mem_of_getElem? (i := 74) rfl)
theorem wd_77 {Z : State} {a0 : Array Value} (hw : own_H Z a0) : ((Jvm.Cond.code ({ cls := "java/lang/StringLatin1", name := "charAt", desc := "([BI)C" } : Jvm.MethodName) jdk_43_method_2_code (2 : Nat) (Option.some Jvm.ClassFile.FieldType.char)) : Jvm.Cond).before a0 Z = true := hw _ (List.mem_of_getElem? (i := 77) rfl)
theorem wd_76 {Z : State} {a0 : Array Value} (hw : own_H Z a0) : ((Jvm.Cond.initialized "java/lang/StringLatin1") : Jvm.Cond).before a0 Z = true := hw _ (List.mem_of_getElem? (i := 76) rfl)
theorem wd_75 {Z : State} {a0 : Array Value} (hw : own_H Z a0) : ((Jvm.Cond.static ({ cls := "java/lang/StringLatin1", name := "charAt", desc := "([BI)C" } : Jvm.MethodName)) : Jvm.Cond).before a0 Z = true := hw _ (List.mem_of_getElem? (i := 75) rfl)
theorem d13_15 : decode jdk_42_method_56_code 15 = .ok (.ireturn, 1) := by decide +kernel
theorem ef_rmCh0 (m : MethodId) (a1 : Addr) (p1 : Int32) : entryFrame m #[(.ref a1), (.int p1)] 2 = mkF m 0 #[.val (.ref a1), .val (.int p1)] [] := by first | (simp [entryFrame, mkF, argsToLocals, Value.category]; done) | rfl
def Q_rmCh0 (Z : State) (a1 : Addr) (gz : Int32) (rf : Value) (vb : Addr) (kb : ClassId) (z : Int32) (LL : List Int32) (p1 : Int32) (h0 : Heap) (n0 : Nat) (v : Option Value) (h : Heap) (L : List Loc) : Prop := v = some (.int (own_c8 LL p1)) ∧ Fr n0 L ∧ h = h0
set_option maxRecDepth 65536 in
set_option maxHeartbeats 40000000 in
theorem rmCh0 (l : Launch) (Z : State) (a0 : Array Value) (hw : own_H Z a0) (ws : List Jvm.Cond) (a1 : Addr) (gz : Int32) (rf : Value) (vb : Addr) (kb : ClassId) (z : Int32) (LL : List Int32) (p1 : Int32) (h0 : Heap) (n0 : Nat) (Z0 : n0 ≤ h0.size) (O0 : Old Z n0 h0) (S_COMPACT_STRINGS : Sta Z Z.heap "java/lang/String" "COMPACT_STRINGS" "Z" (.int gz)) (hgz : ¬ gz = (0 : Int32)) (S_SIOOBE_FORMATTER : Sta Z Z.heap "jdk/internal/util/Preconditions" "SIOOBE_FORMATTER" "Ljava/util/function/BiFunction;" rf) (hrf : rf.isRef = true) (E_a1 : Exa Z h0 a1 "java/lang/String") (F_coder_a1 : Fld Z h0 a1 "java/lang/String" "coder" "B" (.int 0)) (F_value_a1 : Fld Z h0 a1 "java/lang/String" "value" "[B" (.ref vb)) (V_vb : Arv Z h0 vb kb .byte z (own_vs LL) (.int 0)) (hi : ¬ p1 < 0 ∧ p1 < z) :
    own_Met l (⟨"java/lang/String", "charAt", "(I)C"⟩ : MethodName) jdk_42_method_56_code 2 (some .char) ws (own_rm 3 0 0 40) Z h0 #[(.ref a1), (.int p1)] (Q_rmCh0 Z a1 gz rf vb kb z LL p1 h0 n0) := by
  refine own_met (plainFor_of_name pn_3) (fun m => ef_rmCh0 m a1 p1) ?_
  intro p e s m below meth c s₁ Φ hΦ X0 hx hby hml hown hnm hret hlk hZ e0
  have N0 := Fr.nil n0
  have B : own_B p c _ _ := ⟨hx, hby, hml⟩
  show own_G p e below Φ s₁ (mkF m 0 #[.val (.ref a1), .val (.int p1)] [])
  refine o_aloadN X0 B d13_0 rfl rfl ?_
  refine o_cV (argsL := []) (rest := []) X0 B hZ hown (wd_69 hw) (wd_70 hw) (wd_72 hw) (wd_71 hw) (wd_73 hw) (wd_9 hw) (by decide) E_a1 0 (rmLat0 l Z a0 hw [] a1 gz h0 n0 Z0 O0 S_COMPACT_STRINGS hgz F_coder_a1) (by decide) (by decide) (lenOf pd_6 rfl) rfl rfl rfl d13_1 e0 (by decide) (by decide) rfl ?_
  rintro _ T1 _ X1 ⟨rfl, N1q, hs1⟩
  have N1 := Fr.app N0 N1q
  refine o_ifN X1 B d13_4 (XT.i0_eq_f (by decide : ¬ ((1 : Int32) = (0 : Int32)))) ?_
  refine o_aloadN X1 B d13_7 rfl rfl ?_
  obtain ⟨T2, X2, e2, st2⟩ := getF X1 hx hZ hown (host := "") (Or.inl (wd_27 hw)) Via.refl hs1 F_value_a1 (g := (mkF m 8 #[.val (.ref a1), .val (.int p1)] [(.ref a1)])) rfl rfl (hb hby d13_8)
  refine own_go st2 ?_
  refine o_iloadN X2 B d13_11 rfl ?_
  refine o_cS (argsL := [(.ref vb), (.int p1)]) (rest := []) X2 B hZ hown (wd_74 hw) (wd_75 hw) (wd_77 hw) (wd_76 hw) (by decide) 0 (rmCa8 l Z a0 hw [] vb kb z LL p1 rf h0 n0 Z0 O0 S_SIOOBE_FORMATTER hrf V_vb hi) (by decide) (by decide) (lenOf pd_5 rfl) rfl rfl rfl d13_12 e2 (by decide) (by decide) rfl ?_
  rintro _ T3 _ X3 ⟨rfl, N3q, hs3⟩
  have N3 := Fr.app N1 N3q
  rw [hΦ]
  refine own_ret X3 (v := some (.int (nar .char (own_c8 LL p1)))) (own_nr hret) hlk (fun fs hr => retN X3 hx (t := .char) hret (by simp) (hb hby d13_15) hr) ?_ (by decide) (by decide)
  rw [hs3]
  exact ⟨(congrArg (fun z => some (Value.int z)) (own_narc (c := own_c8 LL p1) (own_char _))), N3, rfl⟩
theorem d13_16 : decode jdk_42_method_56_code 16 = .ok (.aload_n 0, 1) := by decide +kernel
theorem d13_17 : decode jdk_42_method_56_code 17 = .ok (.getfield 9, 3) := by decide +kernel
theorem d13_20 : decode jdk_42_method_56_code 20 = .ok (.iload_n 1, 1) := by decide +kernel
theorem d13_21 : decode jdk_42_method_56_code 21 = .ok (.invokestatic 498, 3) := by decide +kernel
theorem wd_109 {Z : State} {a0 : Array Value} (hw : own_H Z a0) : ((Jvm.Cond.methodLink "java/lang/String" (498 : Nat) ({ cls := "java/lang/StringUTF16", name := "charAt", desc := "([BI)C" } : Jvm.MethodName)) : Jvm.Cond).before a0 Z = true := hw _ (List.mem_of_getElem? (i := 109) rfl)
theorem wd_111 {Z : State} {a0 : Array Value} (hw : own_H Z a0) : ((Jvm.Cond.code ({ cls := "java/lang/StringUTF16", name := "charAt", desc := "([BI)C" } : Jvm.MethodName) jdk_52_method_83_code (2 : Nat) (Option.some Jvm.ClassFile.FieldType.char)) : Jvm.Cond).before a0 Z = true := hw _ (List.mem_of_getElem? (i := 111) rfl)
theorem wd_110 {Z : State} {a0 : Array Value} (hw : own_H Z a0) : ((Jvm.Cond.static ({ cls := "java/lang/StringUTF16", name := "charAt", desc := "([BI)C" } : Jvm.MethodName)) : Jvm.Cond).before a0 Z = true := hw _ (List.mem_of_getElem? (i := 110) rfl)
theorem d13_24 : decode jdk_42_method_56_code 24 = .ok (.ireturn, 1) := by decide +kernel
theorem ef_rmCh1 (m : MethodId) (a1 : Addr) (p1 : Int32) : entryFrame m #[(.ref a1), (.int p1)] 2 = mkF m 0 #[.val (.ref a1), .val (.int p1)] [] := by first | (simp [entryFrame, mkF, argsToLocals, Value.category]; done) | rfl
def Q_rmCh1 (Z : State) (a1 : Addr) (gz : Int32) (rf : Value) (vb : Addr) (kb : ClassId) (z : Int32) (LL : List Int32) (p1 : Int32) (h0 : Heap) (n0 : Nat) (v : Option Value) (h : Heap) (L : List Loc) : Prop := v = some (.int (own_c16 LL p1)) ∧ Fr n0 L ∧ h = h0
set_option maxRecDepth 65536 in
set_option maxHeartbeats 40000000 in
theorem rmCh1 (l : Launch) (Z : State) (a0 : Array Value) (hw : own_H Z a0) (ws : List Jvm.Cond) (a1 : Addr) (gz : Int32) (rf : Value) (vb : Addr) (kb : ClassId) (z : Int32) (LL : List Int32) (p1 : Int32) (h0 : Heap) (n0 : Nat) (Z0 : n0 ≤ h0.size) (O0 : Old Z n0 h0) (S_COMPACT_STRINGS : Sta Z Z.heap "java/lang/String" "COMPACT_STRINGS" "Z" (.int gz)) (hgz : ¬ gz = (0 : Int32)) (S_SIOOBE_FORMATTER : Sta Z Z.heap "jdk/internal/util/Preconditions" "SIOOBE_FORMATTER" "Ljava/util/function/BiFunction;" rf) (hrf : rf.isRef = true) (S__assertionsDisabled : Sta Z Z.heap "java/lang/StringUTF16" "$assertionsDisabled" "Z" (.int 1)) (S_HI_BYTE_SHIFT : Sta Z Z.heap "java/lang/StringUTF16" "HI_BYTE_SHIFT" "I" (.int 0)) (S_LO_BYTE_SHIFT : Sta Z Z.heap "java/lang/StringUTF16" "LO_BYTE_SHIFT" "I" (.int 8)) (E_a1 : Exa Z h0 a1 "java/lang/String") (F_coder_a1 : Fld Z h0 a1 "java/lang/String" "coder" "B" (.int 1)) (F_value_a1 : Fld Z h0 a1 "java/lang/String" "value" "[B" (.ref vb)) (V_vb : Arv Z h0 vb kb .byte z (own_vs LL) (.int 0)) (hi : ¬ p1 < 0 ∧ p1 < (z >>> ((1 : Int32) &&& 31))) (hb0 : ¬ (p1 <<< ((1 : Int32) &&& 31)) < 0 ∧ (p1 <<< ((1 : Int32) &&& 31)) < z) (hb1 : ¬ ((p1 <<< ((1 : Int32) &&& 31)) + (1 : Int32)) < 0 ∧ ((p1 <<< ((1 : Int32) &&& 31)) + (1 : Int32)) < z) :
    own_Met l (⟨"java/lang/String", "charAt", "(I)C"⟩ : MethodName) jdk_42_method_56_code 2 (some .char) ws (own_rm 4 0 0 53) Z h0 #[(.ref a1), (.int p1)] (Q_rmCh1 Z a1 gz rf vb kb z LL p1 h0 n0) := by
  refine own_met (plainFor_of_name pn_3) (fun m => ef_rmCh1 m a1 p1) ?_
  intro p e s m below meth c s₁ Φ hΦ X0 hx hby hml hown hnm hret hlk hZ e0
  have N0 := Fr.nil n0
  have B : own_B p c _ _ := ⟨hx, hby, hml⟩
  show own_G p e below Φ s₁ (mkF m 0 #[.val (.ref a1), .val (.int p1)] [])
  refine o_aloadN X0 B d13_0 rfl rfl ?_
  refine o_cV (argsL := []) (rest := []) X0 B hZ hown (wd_69 hw) (wd_70 hw) (wd_72 hw) (wd_71 hw) (wd_73 hw) (wd_9 hw) (by decide) E_a1 0 (rmLat1 l Z a0 hw [] a1 gz h0 n0 Z0 O0 S_COMPACT_STRINGS hgz F_coder_a1) (by decide) (by decide) (lenOf pd_6 rfl) rfl rfl rfl d13_1 e0 (by decide) (by decide) rfl ?_
  rintro _ T1 _ X1 ⟨rfl, N1q, hs1⟩
  have N1 := Fr.app N0 N1q
  refine o_ifY X1 B 16 d13_4 (XT.i0_eq_t (by decide : ((0 : Int32) = (0 : Int32)))) rfl ?_
  refine o_aloadN X1 B d13_16 rfl rfl ?_
  obtain ⟨T2, X2, e2, st2⟩ := getF X1 hx hZ hown (host := "") (Or.inl (wd_27 hw)) Via.refl hs1 F_value_a1 (g := (mkF m 17 #[.val (.ref a1), .val (.int p1)] [(.ref a1)])) rfl rfl (hb hby d13_17)
  refine own_go st2 ?_
  refine o_iloadN X2 B d13_20 rfl ?_
  refine o_cS (argsL := [(.ref vb), (.int p1)]) (rest := []) X2 B hZ hown (wd_109 hw) (wd_110 hw) (wd_111 hw) (wd_50 hw) (by decide) 0 (rmCa16 l Z a0 hw [] vb kb z LL p1 rf h0 n0 Z0 O0 S_SIOOBE_FORMATTER hrf S__assertionsDisabled S_HI_BYTE_SHIFT S_LO_BYTE_SHIFT V_vb hi hb0 hb1) (by decide) (by decide) (lenOf pd_5 rfl) rfl rfl rfl d13_21 e2 (by decide) (by decide) rfl ?_
  rintro _ T3 _ X3 ⟨rfl, N3q, hs3⟩
  have N3 := Fr.app N1 N3q
  rw [hΦ]
  refine own_ret X3 (v := some (.int (nar .char (own_c16 LL p1)))) (own_nr hret) hlk (fun fs hr => retN X3 hx (t := .char) hret (by simp) (hb hby d13_24) hr) ?_ (by decide) (by decide)
  rw [hs3]
  exact ⟨(congrArg (fun z => some (Value.int z)) (own_narc (c := own_c16 LL p1) (own_char _))), N3, rfl⟩
theorem d21_0 : decode jdk_52_method_3_code 0 = .ok (.iload_n 0, 1) := by decide +kernel
theorem d21_1 : decode jdk_52_method_3_code 1 = .ok (.ifCond .ge 11, 3) := by decide +kernel
theorem d21_12 : decode jdk_52_method_3_code 12 = .ok (.iload_n 0, 1) := by decide +kernel
theorem d21_13 : decode jdk_52_method_3_code 13 = .ok (.ldc 20, 2) := by decide +kernel
theorem wd_99 {Z : State} {a0 : Array Value} (hw : own_H Z a0) : ((Jvm.Cond.constant "java/lang/StringUTF16" (20 : Nat) (1073741823 : Int32)) : Jvm.Cond).before a0 Z = true := hw _ (List.mem_of_getElem? (i := 99) rfl)
theorem d21_15 : decode jdk_52_method_3_code 15 = .ok (.if_icmp .lt 40, 3) := by decide +kernel
theorem d21_55 : decode jdk_52_method_3_code 55 = .ok (.iload_n 0, 1) := by decide +kernel
theorem d21_56 : decode jdk_52_method_3_code 56 = .ok (.iconst 1, 1) := by decide +kernel
theorem d21_57 : decode jdk_52_method_3_code 57 = .ok (.ishl, 1) := by decide +kernel
theorem d21_58 : decode jdk_52_method_3_code 58 = .ok (.ireturn, 1) := by decide +kernel
theorem ef_rmNbl1 (m : MethodId)  : entryFrame m #[(.int 1)] 1 = mkF m 0 #[.val (.int 1)] [] := by first | (simp [entryFrame, mkF, argsToLocals, Value.category]; done) | rfl
def Q_rmNbl1 (Z : State)  (h0 : Heap) (n0 : Nat) (v : Option Value) (h : Heap) (L : List Loc) : Prop := v = some (.int 2) ∧ Fr n0 L ∧ h = h0
set_option maxRecDepth 65536 in
set_option maxHeartbeats 40000000 in
theorem rmNbl1 (l : Launch) (Z : State) (a0 : Array Value) (hw : own_H Z a0) (ws : List Jvm.Cond)  (h0 : Heap) (n0 : Nat) (Z0 : n0 ≤ h0.size)  :
    own_Met l (⟨"java/lang/StringUTF16", "newBytesLength", "(I)I"⟩ : MethodName) jdk_52_method_3_code 1 (some .int) ws (own_rm 0 0 0 0) Z h0 #[(.int 1)] (Q_rmNbl1 Z  h0 n0) := by
  refine own_met (plainFor_of_name pn_5) (fun m => ef_rmNbl1 m ) ?_
  intro p e s m below meth c s₁ Φ hΦ X0 hx hby hml hown hnm hret hlk hZ e0
  have N0 := Fr.nil n0
  have B : own_B p c _ _ := ⟨hx, hby, hml⟩
  show own_G p e below Φ s₁ (mkF m 0 #[.val (.int 1)] [])
  refine o_iloadN X0 B d21_0 rfl ?_
  refine o_ifY X0 B 12 d21_1 (XT.i0_ge_t (by decide : ¬ ((1 : Int32) < (0 : Int32)))) rfl ?_
  refine o_iloadN X0 B d21_12 rfl ?_
  refine own_go (fun _ => X0.ldcInt hx hown (mvT hZ (wd_99 hw)) (g := (mkF m 13 #[.val (.int 1)] [(.int 1)])) rfl (hb hby d21_13) _) ?_
  refine o_icY X0 B 55 d21_15 (XT.ii_lt_t (by decide : ((1 : Int32) < (1073741823 : Int32)))) rfl ?_
  show own_G p e below Φ s₁ (mkF m 55 #[.val (.int 1)] [])
  refine o_iloadN X0 B d21_55 rfl ?_
  refine o_iconst X0 B d21_56 ?_
  refine own_go (fun _ => XS.ishl X0.here hx rfl (hb hby d21_57) rfl) ?_
  rw [hΦ]
  refine own_ret X0 (v := some (.int 2)) (own_nr hret) hlk (fun fs hr => retOut X0 hx hret rfl (Or.inl ⟨rfl, Or.inl rfl, _, rfl⟩) (hb hby d21_58) hr) ?_ (by decide) (by decide)
  rw [e0]
  exact ⟨rfl, N0, rfl⟩
theorem ef_rmNbl2 (m : MethodId)  : entryFrame m #[(.int 2)] 1 = mkF m 0 #[.val (.int 2)] [] := by first | (simp [entryFrame, mkF, argsToLocals, Value.category]; done) | rfl
def Q_rmNbl2 (Z : State)  (h0 : Heap) (n0 : Nat) (v : Option Value) (h : Heap) (L : List Loc) : Prop := v = some (.int 4) ∧ Fr n0 L ∧ h = h0
set_option maxRecDepth 65536 in
set_option maxHeartbeats 40000000 in
theorem rmNbl2 (l : Launch) (Z : State) (a0 : Array Value) (hw : own_H Z a0) (ws : List Jvm.Cond)  (h0 : Heap) (n0 : Nat) (Z0 : n0 ≤ h0.size)  :
    own_Met l (⟨"java/lang/StringUTF16", "newBytesLength", "(I)I"⟩ : MethodName) jdk_52_method_3_code 1 (some .int) ws (own_rm 0 0 0 0) Z h0 #[(.int 2)] (Q_rmNbl2 Z  h0 n0) := by
  refine own_met (plainFor_of_name pn_5) (fun m => ef_rmNbl2 m ) ?_
  intro p e s m below meth c s₁ Φ hΦ X0 hx hby hml hown hnm hret hlk hZ e0
  have N0 := Fr.nil n0
  have B : own_B p c _ _ := ⟨hx, hby, hml⟩
  show own_G p e below Φ s₁ (mkF m 0 #[.val (.int 2)] [])
  refine o_iloadN X0 B d21_0 rfl ?_
  refine o_ifY X0 B 12 d21_1 (XT.i0_ge_t (by decide : ¬ ((2 : Int32) < (0 : Int32)))) rfl ?_
  refine o_iloadN X0 B d21_12 rfl ?_
  refine own_go (fun _ => X0.ldcInt hx hown (mvT hZ (wd_99 hw)) (g := (mkF m 13 #[.val (.int 2)] [(.int 2)])) rfl (hb hby d21_13) _) ?_
  refine o_icY X0 B 55 d21_15 (XT.ii_lt_t (by decide : ((2 : Int32) < (1073741823 : Int32)))) rfl ?_
  show own_G p e below Φ s₁ (mkF m 55 #[.val (.int 2)] [])
  refine o_iloadN X0 B d21_55 rfl ?_
  refine o_iconst X0 B d21_56 ?_
  refine own_go (fun _ => XS.ishl X0.here hx rfl (hb hby d21_57) rfl) ?_
  rw [hΦ]
  refine own_ret X0 (v := some (.int 4)) (own_nr hret) hlk (fun fs hr => retOut X0 hx hret rfl (Or.inl ⟨rfl, Or.inl rfl, _, rfl⟩) (hb hby d21_58) hr) ?_ (by decide) (by decide)
  rw [e0]
  exact ⟨rfl, N0, rfl⟩
theorem ef_rmNbl3 (m : MethodId)  : entryFrame m #[(.int 3)] 1 = mkF m 0 #[.val (.int 3)] [] := by first | (simp [entryFrame, mkF, argsToLocals, Value.category]; done) | rfl
def Q_rmNbl3 (Z : State)  (h0 : Heap) (n0 : Nat) (v : Option Value) (h : Heap) (L : List Loc) : Prop := v = some (.int 6) ∧ Fr n0 L ∧ h = h0
set_option maxRecDepth 65536 in
set_option maxHeartbeats 40000000 in
theorem rmNbl3 (l : Launch) (Z : State) (a0 : Array Value) (hw : own_H Z a0) (ws : List Jvm.Cond)  (h0 : Heap) (n0 : Nat) (Z0 : n0 ≤ h0.size)  :
    own_Met l (⟨"java/lang/StringUTF16", "newBytesLength", "(I)I"⟩ : MethodName) jdk_52_method_3_code 1 (some .int) ws (own_rm 0 0 0 0) Z h0 #[(.int 3)] (Q_rmNbl3 Z  h0 n0) := by
  refine own_met (plainFor_of_name pn_5) (fun m => ef_rmNbl3 m ) ?_
  intro p e s m below meth c s₁ Φ hΦ X0 hx hby hml hown hnm hret hlk hZ e0
  have N0 := Fr.nil n0
  have B : own_B p c _ _ := ⟨hx, hby, hml⟩
  show own_G p e below Φ s₁ (mkF m 0 #[.val (.int 3)] [])
  refine o_iloadN X0 B d21_0 rfl ?_
  refine o_ifY X0 B 12 d21_1 (XT.i0_ge_t (by decide : ¬ ((3 : Int32) < (0 : Int32)))) rfl ?_
  refine o_iloadN X0 B d21_12 rfl ?_
  refine own_go (fun _ => X0.ldcInt hx hown (mvT hZ (wd_99 hw)) (g := (mkF m 13 #[.val (.int 3)] [(.int 3)])) rfl (hb hby d21_13) _) ?_
  refine o_icY X0 B 55 d21_15 (XT.ii_lt_t (by decide : ((3 : Int32) < (1073741823 : Int32)))) rfl ?_
  show own_G p e below Φ s₁ (mkF m 55 #[.val (.int 3)] [])
  refine o_iloadN X0 B d21_55 rfl ?_
  refine o_iconst X0 B d21_56 ?_
  refine own_go (fun _ => XS.ishl X0.here hx rfl (hb hby d21_57) rfl) ?_
  rw [hΦ]
  refine own_ret X0 (v := some (.int 6)) (own_nr hret) hlk (fun fs hr => retOut X0 hx hret rfl (Or.inl ⟨rfl, Or.inl rfl, _, rfl⟩) (hb hby d21_58) hr) ?_ (by decide) (by decide)
  rw [e0]
  exact ⟨rfl, N0, rfl⟩
theorem ef_rmNbl4 (m : MethodId)  : entryFrame m #[(.int 4)] 1 = mkF m 0 #[.val (.int 4)] [] := by first | (simp [entryFrame, mkF, argsToLocals, Value.category]; done) | rfl
def Q_rmNbl4 (Z : State)  (h0 : Heap) (n0 : Nat) (v : Option Value) (h : Heap) (L : List Loc) : Prop := v = some (.int 8) ∧ Fr n0 L ∧ h = h0
set_option maxRecDepth 65536 in
set_option maxHeartbeats 40000000 in
theorem rmNbl4 (l : Launch) (Z : State) (a0 : Array Value) (hw : own_H Z a0) (ws : List Jvm.Cond)  (h0 : Heap) (n0 : Nat) (Z0 : n0 ≤ h0.size)  :
    own_Met l (⟨"java/lang/StringUTF16", "newBytesLength", "(I)I"⟩ : MethodName) jdk_52_method_3_code 1 (some .int) ws (own_rm 0 0 0 0) Z h0 #[(.int 4)] (Q_rmNbl4 Z  h0 n0) := by
  refine own_met (plainFor_of_name pn_5) (fun m => ef_rmNbl4 m ) ?_
  intro p e s m below meth c s₁ Φ hΦ X0 hx hby hml hown hnm hret hlk hZ e0
  have N0 := Fr.nil n0
  have B : own_B p c _ _ := ⟨hx, hby, hml⟩
  show own_G p e below Φ s₁ (mkF m 0 #[.val (.int 4)] [])
  refine o_iloadN X0 B d21_0 rfl ?_
  refine o_ifY X0 B 12 d21_1 (XT.i0_ge_t (by decide : ¬ ((4 : Int32) < (0 : Int32)))) rfl ?_
  refine o_iloadN X0 B d21_12 rfl ?_
  refine own_go (fun _ => X0.ldcInt hx hown (mvT hZ (wd_99 hw)) (g := (mkF m 13 #[.val (.int 4)] [(.int 4)])) rfl (hb hby d21_13) _) ?_
  refine o_icY X0 B 55 d21_15 (XT.ii_lt_t (by decide : ((4 : Int32) < (1073741823 : Int32)))) rfl ?_
  show own_G p e below Φ s₁ (mkF m 55 #[.val (.int 4)] [])
  refine o_iloadN X0 B d21_55 rfl ?_
  refine o_iconst X0 B d21_56 ?_
  refine own_go (fun _ => XS.ishl X0.here hx rfl (hb hby d21_57) rfl) ?_
  rw [hΦ]
  refine own_ret X0 (v := some (.int 8)) (own_nr hret) hlk (fun fs hr => retOut X0 hx hret rfl (Or.inl ⟨rfl, Or.inl rfl, _, rfl⟩) (hb hby d21_58) hr) ?_ (by decide) (by decide)
  rw [e0]
  exact ⟨rfl, N0, rfl⟩
theorem d20_0 : decode jdk_52_method_2_code 0 = .ok (.iload_n 0, 1) := by decide +kernel
theorem d20_1 : decode jdk_52_method_2_code 1 = .ok (.invokestatic 11, 3) := by decide +kernel
theorem wd_96 {Z : State} {a0 : Array Value} (hw : own_H Z a0) : ((Jvm.Cond.methodLink "java/lang/StringUTF16" (11 : Nat) ({ cls := "java/lang/StringUTF16", name := "newBytesLength", desc := "(I)I" } : Jvm.MethodName)) : Jvm.Cond).before a0 Z = true := hw _ (List.mem_of_getElem? (i := 96) rfl)
theorem wd_98 {Z : State} {a0 : Array Value} (hw : own_H Z a0) : ((Jvm.Cond.code ({ cls := "java/lang/StringUTF16", name := "newBytesLength", desc := "(I)I" } : Jvm.MethodName) jdk_52_method_3_code (1 : Nat) (Option.some Jvm.ClassFile.FieldType.int)) : Jvm.Cond).before a0 Z = true := hw _ (List.mem_of_getElem? (i := 98) rfl)
theorem pd_7 : parseMethodDescriptor "(I)I" = some ⟨[.int], some .int⟩ := by decide +kernel
theorem wd_97 {Z : State} {a0 : Array Value} (hw : own_H Z a0) : ((Jvm.Cond.static ({ cls := "java/lang/StringUTF16", name := "newBytesLength", desc := "(I)I" } : Jvm.MethodName)) : Jvm.Cond).before a0 Z = true := hw _ (List.mem_of_getElem? (i := 97) rfl)
theorem d20_4 : decode jdk_52_method_2_code 4 = .ok (.newarray .byte, 2) := by decide +kernel
theorem wd_22 {Z : State} {a0 : Array Value} (hw : own_H Z a0) : ((Jvm.Cond.arrayClass Jvm.ClassFile.FieldType.byte) : Jvm.Cond).before a0 Z = true := hw _ (List.mem_of_getElem? (i := 22) rfl)
theorem d20_6 : decode jdk_52_method_2_code 6 = .ok (.areturn, 1) := by decide +kernel
theorem ef_rmNbf1 (m : MethodId)  : entryFrame m #[(.int 1)] 1 = mkF m 0 #[.val (.int 1)] [] := by first | (simp [entryFrame, mkF, argsToLocals, Value.category]; done) | rfl
def Q_rmNbf1 (Z : State)  (h0 : Heap) (n0 : Nat) (v : Option Value) (h : Heap) (L : List Loc) : Prop := ∃ vb : Addr, h0.size ≤ vb ∧ ∃ kb : ClassId, v = some (.ref vb) ∧ Fr n0 L ∧ Keep h0 h [] ∧ Arv Z h vb kb .byte (2 : Int32) [(.int 0), (.int 0)] (.int 0)
set_option maxRecDepth 65536 in
set_option maxHeartbeats 40000000 in
theorem rmNbf1 (l : Launch) (Z : State) (a0 : Array Value) (hw : own_H Z a0) (ws : List Jvm.Cond)  (h0 : Heap) (n0 : Nat) (Z0 : n0 ≤ h0.size)  :
    own_Met l (⟨"java/lang/StringUTF16", "newBytesFor", "(I)[B"⟩ : MethodName) jdk_52_method_2_code 1 (some (.array .byte)) ws (own_rm 1 1 2 12) Z h0 #[(.int 1)] (Q_rmNbf1 Z  h0 n0) := by
  refine own_met (plainFor_of_name pn_5) (fun m => ef_rmNbf1 m ) ?_
  intro p e s m below meth c s₁ Φ hΦ X0 hx hby hml hown hnm hret hlk hZ e0
  have N0 := Fr.nil n0
  have B : own_B p c _ _ := ⟨hx, hby, hml⟩
  have K0 : Keep h0 h0 [] := Keep.refl _ _
  show own_G p e below Φ s₁ (mkF m 0 #[.val (.int 1)] [])
  refine o_iloadN X0 B d20_0 rfl ?_
  refine o_cS (argsL := [(.int 1)]) (rest := []) X0 B hZ hown (wd_96 hw) (wd_97 hw) (wd_98 hw) (wd_50 hw) (by decide) 0 (rmNbl1 l Z a0 hw []  h0 n0 Z0 ) (by decide) (by decide) (lenOf pd_7 rfl) rfl rfl rfl d20_1 e0 (by decide) (by decide) rfl ?_
  rintro _ T1 _ X1 ⟨rfl, N1q, hs1⟩
  have N1 := Fr.app N0 N1q
  obtain ⟨T2, h2, ka2, X2, e2, E2, A2, st2⟩ := newP (aty := .byte) X1 hx hZ (wd_22 hw) hs1 (g := (mkF m 4 #[.val (.int 1)] [(.int 2)])) rfl (hb hby d20_4) rfl (by decide) (cap := 2) (by decide) (by decide) (by decide) (by decide)
  obtain ⟨ob2, g2⟩ : ∃ z, z = h0.size := ⟨_, rfl⟩
  rw [← g2] at A2 st2
  have V2 : Arv Z h2 ob2 ka2 .byte (2 : Int32) [(.int 0), (.int 0)] (.int 0) := (Arv.new A2 (by decide)).pad (pad_rep [] (.int 0) 2)
  have g_ob2 : n0 ≤ ob2 := Nat.le_trans Z0 (Nat.le_of_eq g2.symm)
  have sz_ob2 : h0.size ≤ ob2 := Nat.le_trans K0.1 (Nat.le_of_eq g2.symm)
  have K2 := K0.ext E2
  have Zp2 : n0 ≤ h2.size := Nat.le_trans Z0 E2.1
  refine own_go st2 ?_
  rw [hΦ]
  refine own_ret X2 (v := some (.ref ob2)) (own_nr hret) hlk (fun fs hr => retOut X2 hx hret rfl (Or.inr (Or.inr (Or.inr (Or.inr ⟨rfl, rfl, rfl⟩)))) (hb hby d20_6) hr) ?_ (by decide) (by decide)
  rw [e2]
  exact ⟨ob2, sz_ob2, ka2, rfl, N1, K2, V2⟩
theorem ef_rmNbf2 (m : MethodId)  : entryFrame m #[(.int 2)] 1 = mkF m 0 #[.val (.int 2)] [] := by first | (simp [entryFrame, mkF, argsToLocals, Value.category]; done) | rfl
def Q_rmNbf2 (Z : State)  (h0 : Heap) (n0 : Nat) (v : Option Value) (h : Heap) (L : List Loc) : Prop := ∃ vb : Addr, h0.size ≤ vb ∧ ∃ kb : ClassId, v = some (.ref vb) ∧ Fr n0 L ∧ Keep h0 h [] ∧ Arv Z h vb kb .byte (4 : Int32) [(.int 0), (.int 0), (.int 0), (.int 0)] (.int 0)
set_option maxRecDepth 65536 in
set_option maxHeartbeats 40000000 in
theorem rmNbf2 (l : Launch) (Z : State) (a0 : Array Value) (hw : own_H Z a0) (ws : List Jvm.Cond)  (h0 : Heap) (n0 : Nat) (Z0 : n0 ≤ h0.size)  :
    own_Met l (⟨"java/lang/StringUTF16", "newBytesFor", "(I)[B"⟩ : MethodName) jdk_52_method_2_code 1 (some (.array .byte)) ws (own_rm 1 1 4 12) Z h0 #[(.int 2)] (Q_rmNbf2 Z  h0 n0) := by
  refine own_met (plainFor_of_name pn_5) (fun m => ef_rmNbf2 m ) ?_
  intro p e s m below meth c s₁ Φ hΦ X0 hx hby hml hown hnm hret hlk hZ e0
  have N0 := Fr.nil n0
  have B : own_B p c _ _ := ⟨hx, hby, hml⟩
  have K0 : Keep h0 h0 [] := Keep.refl _ _
  show own_G p e below Φ s₁ (mkF m 0 #[.val (.int 2)] [])
  refine o_iloadN X0 B d20_0 rfl ?_
  refine o_cS (argsL := [(.int 2)]) (rest := []) X0 B hZ hown (wd_96 hw) (wd_97 hw) (wd_98 hw) (wd_50 hw) (by decide) 0 (rmNbl2 l Z a0 hw []  h0 n0 Z0 ) (by decide) (by decide) (lenOf pd_7 rfl) rfl rfl rfl d20_1 e0 (by decide) (by decide) rfl ?_
  rintro _ T1 _ X1 ⟨rfl, N1q, hs1⟩
  have N1 := Fr.app N0 N1q
  obtain ⟨T2, h2, ka2, X2, e2, E2, A2, st2⟩ := newP (aty := .byte) X1 hx hZ (wd_22 hw) hs1 (g := (mkF m 4 #[.val (.int 2)] [(.int 4)])) rfl (hb hby d20_4) rfl (by decide) (cap := 4) (by decide) (by decide) (by decide) (by decide)
  obtain ⟨ob2, g2⟩ : ∃ z, z = h0.size := ⟨_, rfl⟩
  rw [← g2] at A2 st2
  have V2 : Arv Z h2 ob2 ka2 .byte (4 : Int32) [(.int 0), (.int 0), (.int 0), (.int 0)] (.int 0) := (Arv.new A2 (by decide)).pad (pad_rep [] (.int 0) 4)
  have g_ob2 : n0 ≤ ob2 := Nat.le_trans Z0 (Nat.le_of_eq g2.symm)
  have sz_ob2 : h0.size ≤ ob2 := Nat.le_trans K0.1 (Nat.le_of_eq g2.symm)
  have K2 := K0.ext E2
  have Zp2 : n0 ≤ h2.size := Nat.le_trans Z0 E2.1
  refine own_go st2 ?_
  rw [hΦ]
  refine own_ret X2 (v := some (.ref ob2)) (own_nr hret) hlk (fun fs hr => retOut X2 hx hret rfl (Or.inr (Or.inr (Or.inr (Or.inr ⟨rfl, rfl, rfl⟩)))) (hb hby d20_6) hr) ?_ (by decide) (by decide)
  rw [e2]
  exact ⟨ob2, sz_ob2, ka2, rfl, N1, K2, V2⟩
theorem ef_rmNbf3 (m : MethodId)  : entryFrame m #[(.int 3)] 1 = mkF m 0 #[.val (.int 3)] [] := by first | (simp [entryFrame, mkF, argsToLocals, Value.category]; done) | rfl
def Q_rmNbf3 (Z : State)  (h0 : Heap) (n0 : Nat) (v : Option Value) (h : Heap) (L : List Loc) : Prop := ∃ vb : Addr, h0.size ≤ vb ∧ ∃ kb : ClassId, v = some (.ref vb) ∧ Fr n0 L ∧ Keep h0 h [] ∧ Arv Z h vb kb .byte (6 : Int32) [(.int 0), (.int 0), (.int 0), (.int 0), (.int 0), (.int 0)] (.int 0)
set_option maxRecDepth 65536 in
set_option maxHeartbeats 40000000 in
theorem rmNbf3 (l : Launch) (Z : State) (a0 : Array Value) (hw : own_H Z a0) (ws : List Jvm.Cond)  (h0 : Heap) (n0 : Nat) (Z0 : n0 ≤ h0.size)  :
    own_Met l (⟨"java/lang/StringUTF16", "newBytesFor", "(I)[B"⟩ : MethodName) jdk_52_method_2_code 1 (some (.array .byte)) ws (own_rm 1 1 6 12) Z h0 #[(.int 3)] (Q_rmNbf3 Z  h0 n0) := by
  refine own_met (plainFor_of_name pn_5) (fun m => ef_rmNbf3 m ) ?_
  intro p e s m below meth c s₁ Φ hΦ X0 hx hby hml hown hnm hret hlk hZ e0
  have N0 := Fr.nil n0
  have B : own_B p c _ _ := ⟨hx, hby, hml⟩
  have K0 : Keep h0 h0 [] := Keep.refl _ _
  show own_G p e below Φ s₁ (mkF m 0 #[.val (.int 3)] [])
  refine o_iloadN X0 B d20_0 rfl ?_
  refine o_cS (argsL := [(.int 3)]) (rest := []) X0 B hZ hown (wd_96 hw) (wd_97 hw) (wd_98 hw) (wd_50 hw) (by decide) 0 (rmNbl3 l Z a0 hw []  h0 n0 Z0 ) (by decide) (by decide) (lenOf pd_7 rfl) rfl rfl rfl d20_1 e0 (by decide) (by decide) rfl ?_
  rintro _ T1 _ X1 ⟨rfl, N1q, hs1⟩
  have N1 := Fr.app N0 N1q
  obtain ⟨T2, h2, ka2, X2, e2, E2, A2, st2⟩ := newP (aty := .byte) X1 hx hZ (wd_22 hw) hs1 (g := (mkF m 4 #[.val (.int 3)] [(.int 6)])) rfl (hb hby d20_4) rfl (by decide) (cap := 6) (by decide) (by decide) (by decide) (by decide)
  obtain ⟨ob2, g2⟩ : ∃ z, z = h0.size := ⟨_, rfl⟩
  rw [← g2] at A2 st2
  have V2 : Arv Z h2 ob2 ka2 .byte (6 : Int32) [(.int 0), (.int 0), (.int 0), (.int 0), (.int 0), (.int 0)] (.int 0) := (Arv.new A2 (by decide)).pad (pad_rep [] (.int 0) 6)
  have g_ob2 : n0 ≤ ob2 := Nat.le_trans Z0 (Nat.le_of_eq g2.symm)
  have sz_ob2 : h0.size ≤ ob2 := Nat.le_trans K0.1 (Nat.le_of_eq g2.symm)
  have K2 := K0.ext E2
  have Zp2 : n0 ≤ h2.size := Nat.le_trans Z0 E2.1
  refine own_go st2 ?_
  rw [hΦ]
  refine own_ret X2 (v := some (.ref ob2)) (own_nr hret) hlk (fun fs hr => retOut X2 hx hret rfl (Or.inr (Or.inr (Or.inr (Or.inr ⟨rfl, rfl, rfl⟩)))) (hb hby d20_6) hr) ?_ (by decide) (by decide)
  rw [e2]
  exact ⟨ob2, sz_ob2, ka2, rfl, N1, K2, V2⟩
theorem ef_rmNbf4 (m : MethodId)  : entryFrame m #[(.int 4)] 1 = mkF m 0 #[.val (.int 4)] [] := by first | (simp [entryFrame, mkF, argsToLocals, Value.category]; done) | rfl
def Q_rmNbf4 (Z : State)  (h0 : Heap) (n0 : Nat) (v : Option Value) (h : Heap) (L : List Loc) : Prop := ∃ vb : Addr, h0.size ≤ vb ∧ ∃ kb : ClassId, v = some (.ref vb) ∧ Fr n0 L ∧ Keep h0 h [] ∧ Arv Z h vb kb .byte (8 : Int32) [(.int 0), (.int 0), (.int 0), (.int 0), (.int 0), (.int 0), (.int 0), (.int 0)] (.int 0)
set_option maxRecDepth 65536 in
set_option maxHeartbeats 40000000 in
theorem rmNbf4 (l : Launch) (Z : State) (a0 : Array Value) (hw : own_H Z a0) (ws : List Jvm.Cond)  (h0 : Heap) (n0 : Nat) (Z0 : n0 ≤ h0.size)  :
    own_Met l (⟨"java/lang/StringUTF16", "newBytesFor", "(I)[B"⟩ : MethodName) jdk_52_method_2_code 1 (some (.array .byte)) ws (own_rm 1 1 8 12) Z h0 #[(.int 4)] (Q_rmNbf4 Z  h0 n0) := by
  refine own_met (plainFor_of_name pn_5) (fun m => ef_rmNbf4 m ) ?_
  intro p e s m below meth c s₁ Φ hΦ X0 hx hby hml hown hnm hret hlk hZ e0
  have N0 := Fr.nil n0
  have B : own_B p c _ _ := ⟨hx, hby, hml⟩
  have K0 : Keep h0 h0 [] := Keep.refl _ _
  show own_G p e below Φ s₁ (mkF m 0 #[.val (.int 4)] [])
  refine o_iloadN X0 B d20_0 rfl ?_
  refine o_cS (argsL := [(.int 4)]) (rest := []) X0 B hZ hown (wd_96 hw) (wd_97 hw) (wd_98 hw) (wd_50 hw) (by decide) 0 (rmNbl4 l Z a0 hw []  h0 n0 Z0 ) (by decide) (by decide) (lenOf pd_7 rfl) rfl rfl rfl d20_1 e0 (by decide) (by decide) rfl ?_
  rintro _ T1 _ X1 ⟨rfl, N1q, hs1⟩
  have N1 := Fr.app N0 N1q
  obtain ⟨T2, h2, ka2, X2, e2, E2, A2, st2⟩ := newP (aty := .byte) X1 hx hZ (wd_22 hw) hs1 (g := (mkF m 4 #[.val (.int 4)] [(.int 8)])) rfl (hb hby d20_4) rfl (by decide) (cap := 8) (by decide) (by decide) (by decide) (by decide)
  obtain ⟨ob2, g2⟩ : ∃ z, z = h0.size := ⟨_, rfl⟩
  rw [← g2] at A2 st2
  have V2 : Arv Z h2 ob2 ka2 .byte (8 : Int32) [(.int 0), (.int 0), (.int 0), (.int 0), (.int 0), (.int 0), (.int 0), (.int 0)] (.int 0) := (Arv.new A2 (by decide)).pad (pad_rep [] (.int 0) 8)
  have g_ob2 : n0 ≤ ob2 := Nat.le_trans Z0 (Nat.le_of_eq g2.symm)
  have sz_ob2 : h0.size ≤ ob2 := Nat.le_trans K0.1 (Nat.le_of_eq g2.symm)
  have K2 := K0.ext E2
  have Zp2 : n0 ≤ h2.size := Nat.le_trans Z0 E2.1
  refine own_go st2 ?_
  rw [hΦ]
  refine own_ret X2 (v := some (.ref ob2)) (own_nr hret) hlk (fun fs hr => retOut X2 hx hret rfl (Or.inr (Or.inr (Or.inr (Or.inr ⟨rfl, rfl, rfl⟩)))) (hb hby d20_6) hr) ?_ (by decide) (by decide)
  rw [e2]
  exact ⟨ob2, sz_ob2, ka2, rfl, N1, K2, V2⟩
theorem d19_0 : decode jdk_52_method_14_code 0 = .ok (.iload_n 2, 1) := by decide +kernel
theorem d19_1 : decode jdk_52_method_14_code 1 = .ok (.invokestatic 107, 3) := by decide +kernel
theorem wd_93 {Z : State} {a0 : Array Value} (hw : own_H Z a0) : ((Jvm.Cond.methodLink "java/lang/StringUTF16" (107 : Nat) ({ cls := "java/lang/StringUTF16", name := "newBytesFor", desc := "(I)[B" } : Jvm.MethodName)) : Jvm.Cond).before a0 Z = true := hw _ (List.mem_of_getElem? (i := 93) rfl)
theorem wd_95 {Z : State} {a0 : Array Value} (hw : own_H Z a0) : ((Jvm.Cond.code ({ cls := "java/lang/StringUTF16", name := "newBytesFor", desc := "(I)[B" } : Jvm.MethodName) jdk_52_method_2_code (1 : Nat) (Option.some (Jvm.ClassFile.FieldType.array Jvm.ClassFile.FieldType.byte))) : Jvm.Cond).before a0 Z = true := hw _ (List.mem_of_getElem? (i := 95) rfl)
theorem pd_8 : parseMethodDescriptor "(I)[B" = some ⟨[.int], some (.array .byte)⟩ := by decide +kernel
theorem wd_94 {Z : State} {a0 : Array Value} (hw : own_H Z a0) : ((Jvm.Cond.static ({ cls := "java/lang/StringUTF16", name := "newBytesFor", desc := "(I)[B" } : Jvm.MethodName)) : Jvm.Cond).before a0 Z = true := hw _ (List.mem_of_getElem? (i := 94) rfl)
theorem d19_4 : decode jdk_52_method_14_code 4 = .ok (.astore_n 3, 1) := by decide +kernel
theorem d19_5 : decode jdk_52_method_14_code 5 = .ok (.iconst 0, 1) := by decide +kernel
theorem d19_6 : decode jdk_52_method_14_code 6 = .ok (.istore 4, 2) := by decide +kernel
theorem d19_8 : decode jdk_52_method_14_code 8 = .ok (.iload 4, 2) := by decide +kernel
theorem d19_10 : decode jdk_52_method_14_code 10 = .ok (.iload_n 2, 1) := by decide +kernel
theorem d19_11 : decode jdk_52_method_14_code 11 = .ok (.if_icmp .ge 21, 3) := by decide +kernel
theorem d19_14 : decode jdk_52_method_14_code 14 = .ok (.aload_n 3, 1) := by decide +kernel
theorem d19_15 : decode jdk_52_method_14_code 15 = .ok (.iload 4, 2) := by decide +kernel
theorem d19_17 : decode jdk_52_method_14_code 17 = .ok (.aload_n 0, 1) := by decide +kernel
theorem d19_18 : decode jdk_52_method_14_code 18 = .ok (.iload_n 1, 1) := by decide +kernel
theorem d19_19 : decode jdk_52_method_14_code 19 = .ok (.caload, 1) := by decide +kernel
theorem d19_20 : decode jdk_52_method_14_code 20 = .ok (.invokestatic 111, 3) := by decide +kernel
theorem wd_100 {Z : State} {a0 : Array Value} (hw : own_H Z a0) : ((Jvm.Cond.methodLink "java/lang/StringUTF16" (111 : Nat) ({ cls := "java/lang/StringUTF16", name := "putChar", desc := "([BII)V" } : Jvm.MethodName)) : Jvm.Cond).before a0 Z = true := hw _ (List.mem_of_getElem? (i := 100) rfl)
theorem wd_102 {Z : State} {a0 : Array Value} (hw : own_H Z a0) : ((Jvm.Cond.code ({ cls := "java/lang/StringUTF16", name := "putChar", desc := "([BII)V" } : Jvm.MethodName) jdk_52_method_4_code (3 : Nat) (Option.none : Option Jvm.ClassFile.FieldType)) : Jvm.Cond).before a0 Z = true := hw _ (List.mem_of_getElem? (i := 102) rfl)
theorem pd_9 : parseMethodDescriptor "([BII)V" = some ⟨[(.array .byte), .int, .int], none⟩ := by decide +kernel
theorem wd_101 {Z : State} {a0 : Array Value} (hw : own_H Z a0) : ((Jvm.Cond.static ({ cls := "java/lang/StringUTF16", name := "putChar", desc := "([BII)V" } : Jvm.MethodName)) : Jvm.Cond).before a0 Z = true := hw _ (List.mem_of_getElem? (i := 101) rfl)
theorem d19_23 : decode jdk_52_method_14_code 23 = .ok (.iinc 1 1, 3) := by decide +kernel
theorem d19_26 : decode jdk_52_method_14_code 26 = .ok (.iinc 4 1, 3) := by decide +kernel
theorem d19_29 : decode jdk_52_method_14_code 29 = .ok (.goto (-21), 3) := by decide +kernel
theorem d19_32 : decode jdk_52_method_14_code 32 = .ok (.aload_n 3, 1) := by decide +kernel
theorem d19_33 : decode jdk_52_method_14_code 33 = .ok (.areturn, 1) := by decide +kernel
theorem ef_rmTob1 (m : MethodId) (ca : Addr) : entryFrame m #[(.ref ca), (.int 0), (.int 1)] 5 = mkF m 0 #[.val (.ref ca), .val (.int 0), .val (.int 1), .unset, .unset] [] := by first | (simp [entryFrame, mkF, argsToLocals, Value.category]; done) | rfl
def Q_rmTob1 (Z : State) (ca : Addr) (kc : ClassId) (c0 : Int32) (h0 : Heap) (n0 : Nat) (v : Option Value) (h : Heap) (L : List Loc) : Prop := ∃ vb : Addr, h0.size ≤ vb ∧ ∃ kb : ClassId, v = some (.ref vb) ∧ Fr n0 L ∧ Keep h0 h [] ∧ Arv Z h vb kb .byte (2 : Int32) [(.int (own_h0 c0)), (.int (own_h8 c0))] (.int 0)
set_option maxRecDepth 65536 in
set_option maxHeartbeats 40000000 in
theorem rmTob1 (l : Launch) (Z : State) (a0 : Array Value) (hw : own_H Z a0) (ws : List Jvm.Cond) (ca : Addr) (kc : ClassId) (c0 : Int32) (h0 : Heap) (n0 : Nat) (Z0 : n0 ≤ h0.size) (O0 : Old Z n0 h0) (S__assertionsDisabled : Sta Z Z.heap "java/lang/StringUTF16" "$assertionsDisabled" "Z" (.int 1)) (S_HI_BYTE_SHIFT : Sta Z Z.heap "java/lang/StringUTF16" "HI_BYTE_SHIFT" "I" (.int 0)) (S_LO_BYTE_SHIFT : Sta Z Z.heap "java/lang/StringUTF16" "LO_BYTE_SHIFT" "I" (.int 8)) (V_ca : Arv Z h0 ca kc .char (1 : Int32) [(.int c0)] (.int 0)) :
    own_Met l (⟨"java/lang/StringUTF16", "toBytes", "([CII)[B"⟩ : MethodName) jdk_52_method_14_code 5 (some (.array .byte)) ws (own_rm 2 1 2 24) Z h0 #[(.ref ca), (.int 0), (.int 1)] (Q_rmTob1 Z ca kc c0 h0 n0) := by
  refine own_met (plainFor_of_name pn_5) (fun m => ef_rmTob1 m ca) ?_
  intro p e s m below meth c s₁ Φ hΦ X0 hx hby hml hown hnm hret hlk hZ e0
  have N0 := Fr.nil n0
  have B : own_B p c _ _ := ⟨hx, hby, hml⟩
  have K0 : Keep h0 h0 [] := Keep.refl _ _
  show own_G p e below Φ s₁ (mkF m 0 #[.val (.ref ca), .val (.int 0), .val (.int 1), .unset, .unset] [])
  refine o_iloadN X0 B d19_0 rfl ?_
  refine o_cS (argsL := [(.int 1)]) (rest := []) X0 B hZ hown (wd_93 hw) (wd_94 hw) (wd_95 hw) (wd_50 hw) (by decide) 0 (rmNbf1 l Z a0 hw []  h0 n0 Z0 ) (by decide) (by decide) (lenOf pd_8 rfl) rfl rfl rfl d19_1 e0 (by decide) (by decide) rfl ?_
  rintro _ T1 _ X1 ⟨vb_1, ns_vb_1, kb_1, rfl, N1q, Kq1, p1_0⟩
  have N1 := Fr.app N0 N1q
  have ne_ca_vb_1 : ca ≠ vb_1 := Nat.ne_of_lt (Nat.lt_of_lt_of_le V_ca.lt ns_vb_1)
  have sz_vb_1 : h0.size ≤ vb_1 := Nat.le_trans K0.1 ns_vb_1
  have K1 := K0.trans Kq1 all0
  have g_vb_1 : n0 ≤ vb_1 := Nat.le_trans Z0 ns_vb_1
  have Zp1 : n0 ≤ T1.heap.size := Nat.le_trans Z0 Kq1.1
  have O2 := O0.keep Kq1 all0
  refine o_astoreN (L' := #[.val (.ref ca), .val (.int 0), .val (.int 1), .val (.ref vb_1), .unset]) X1 B d19_4 rfl rfl ?_
  refine o_iconst X1 B d19_5 ?_
  refine o_istore (L' := #[.val (.ref ca), .val (.int 0), .val (.int 1), .val (.ref vb_1), .val (.int 0)]) X1 B d19_6 rfl ?_
  refine o_iload X1 B d19_8 rfl ?_
  refine o_iloadN X1 B d19_10 rfl ?_
  refine o_icN X1 B d19_11 (XT.ii_ge_f (by decide : ((0 : Int32) < (1 : Int32)))) ?_
  show own_G p e below Φ T1 (mkF m 14 #[.val (.ref ca), .val (.int 0), .val (.int 1), .val (.ref vb_1), .val (.int 0)] [])
  refine o_aloadN X1 B d19_14 rfl rfl ?_
  refine o_iload X1 B d19_15 rfl ?_
  refine o_aloadN X1 B d19_17 rfl rfl ?_
  refine o_iloadN X1 B d19_18 rfl ?_
  have f3 : Arv Z T1.heap ca kc .char (1 : Int32) [(.int c0)] (.int 0) := V_ca.keep Kq1 nin0
  obtain ⟨cl4, Ar4, zq4, S4, M4, H4, G4⟩ := id f3
  have hin4 : ¬ ((0 : Int32) < 0 ∨ cl4.slots.size ≤ ((0 : Int32)).toNatClampNeg) := inb_of S4 ⟨by decide, by decide⟩
  refine own_go (fun _ => X1.caload hx (j := (0 : Int32)) (v := (.int c0)) Ar4.1 (State.isArrayOf_alike hZ.alike Ar4.2.1) Ar4.2.2 hin4 (H4.at hin4 rfl) (g := (mkF m 19 #[.val (.ref ca), .val (.int 0), .val (.int 1), .val (.ref vb_1), .val (.int 0)] [(.int 0), (.ref ca), (.int 0), (.ref vb_1)])) rfl rfl (hb hby d19_19) _) ?_
  show own_G p e below Φ T1 (mkF m 20 #[.val (.ref ca), .val (.int 0), .val (.int 1), .val (.ref vb_1), .val (.int 0)] [(.int c0), (.int 0), (.ref vb_1)])
  refine o_cS (argsL := [(.ref vb_1), (.int 0), (.int c0)]) (rest := []) X1 B hZ hown (wd_100 hw) (wd_101 hw) (wd_102 hw) (wd_50 hw) (by decide) 0 (rmPch l Z a0 hw [] vb_1 kb_1 (2 : Int32) ([(0 : Int32), (0 : Int32)]) (0 : Int32) c0 T1.heap n0 Zp1 O2 S__assertionsDisabled S_HI_BYTE_SHIFT S_LO_BYTE_SHIFT p1_0 g_vb_1 ⟨by decide, by decide⟩ ⟨by decide, by decide⟩ rfl) (by decide) (by decide) (lenOf pd_9 rfl) rfl rfl rfl d19_20 rfl (by decide) (by decide) rfl ?_
  rintro _ T5 _ X5 ⟨rfl, N5q, Kq5, p5_0⟩
  have N5 := Fr.app N1 N5q
  have K5 := K1.trans Kq5 (allS (Or.inr sz_vb_1) all0)
  have Zp5 : n0 ≤ T5.heap.size := Nat.le_trans Zp1 Kq5.1
  have O6 := O2.keep Kq5 (allS g_vb_1 all0)
  have Vx7 : Arv Z T5.heap vb_1 kb_1 .byte (2 : Int32) [(.int (own_h0 c0)), (.int (own_h8 c0))] (.int 0) := p5_0
  refine o_iinc (L' := #[.val (.ref ca), .val (.int 1), .val (.int 1), .val (.ref vb_1), .val (.int 0)]) X5 B d19_23 rfl rfl ?_
  refine o_iinc (L' := #[.val (.ref ca), .val (.int 1), .val (.int 1), .val (.ref vb_1), .val (.int 1)]) X5 B d19_26 rfl rfl ?_
  refine o_goto X5 B 8 d19_29 rfl ?_
  refine o_iload X5 B d19_8 rfl ?_
  refine o_iloadN X5 B d19_10 rfl ?_
  refine o_icY X5 B 32 d19_11 (XT.ii_ge_t (by decide : ¬ ((1 : Int32) < (1 : Int32)))) rfl ?_
  refine o_aloadN X5 B d19_32 rfl rfl ?_
  show own_G p e below Φ T5 (mkF m 33 #[.val (.ref ca), .val (.int 1), .val (.int 1), .val (.ref vb_1), .val (.int 1)] [(.ref vb_1)])
  rw [hΦ]
  refine own_ret X5 (v := some (.ref vb_1)) (own_nr hret) hlk (fun fs hr => retOut X5 hx hret rfl (Or.inr (Or.inr (Or.inr (Or.inr ⟨rfl, rfl, rfl⟩)))) (hb hby d19_33) hr) ?_ (by decide) (by decide)
  exact ⟨vb_1, sz_vb_1, kb_1, rfl, N5, K5, Vx7⟩
theorem ef_rmTob2 (m : MethodId) (ca : Addr) : entryFrame m #[(.ref ca), (.int 0), (.int 2)] 5 = mkF m 0 #[.val (.ref ca), .val (.int 0), .val (.int 2), .unset, .unset] [] := by first | (simp [entryFrame, mkF, argsToLocals, Value.category]; done) | rfl
def Q_rmTob2 (Z : State) (ca : Addr) (kc : ClassId) (c0 : Int32) (c1 : Int32) (h0 : Heap) (n0 : Nat) (v : Option Value) (h : Heap) (L : List Loc) : Prop := ∃ vb : Addr, h0.size ≤ vb ∧ ∃ kb : ClassId, v = some (.ref vb) ∧ Fr n0 L ∧ Keep h0 h [] ∧ Arv Z h vb kb .byte (4 : Int32) [(.int (own_h0 c0)), (.int (own_h8 c0)), (.int (own_h0 c1)), (.int (own_h8 c1))] (.int 0)
set_option maxRecDepth 65536 in
set_option maxHeartbeats 40000000 in
theorem rmTob2 (l : Launch) (Z : State) (a0 : Array Value) (hw : own_H Z a0) (ws : List Jvm.Cond) (ca : Addr) (kc : ClassId) (c0 : Int32) (c1 : Int32) (h0 : Heap) (n0 : Nat) (Z0 : n0 ≤ h0.size) (O0 : Old Z n0 h0) (S__assertionsDisabled : Sta Z Z.heap "java/lang/StringUTF16" "$assertionsDisabled" "Z" (.int 1)) (S_HI_BYTE_SHIFT : Sta Z Z.heap "java/lang/StringUTF16" "HI_BYTE_SHIFT" "I" (.int 0)) (S_LO_BYTE_SHIFT : Sta Z Z.heap "java/lang/StringUTF16" "LO_BYTE_SHIFT" "I" (.int 8)) (V_ca : Arv Z h0 ca kc .char (2 : Int32) [(.int c0), (.int c1)] (.int 0)) :
    own_Met l (⟨"java/lang/StringUTF16", "toBytes", "([CII)[B"⟩ : MethodName) jdk_52_method_14_code 5 (some (.array .byte)) ws (own_rm 2 1 4 24) Z h0 #[(.ref ca), (.int 0), (.int 2)] (Q_rmTob2 Z ca kc c0 c1 h0 n0) := by
  refine own_met (plainFor_of_name pn_5) (fun m => ef_rmTob2 m ca) ?_
  intro p e s m below meth c s₁ Φ hΦ X0 hx hby hml hown hnm hret hlk hZ e0
  have N0 := Fr.nil n0
  have B : own_B p c _ _ := ⟨hx, hby, hml⟩
  have K0 : Keep h0 h0 [] := Keep.refl _ _
  show own_G p e below Φ s₁ (mkF m 0 #[.val (.ref ca), .val (.int 0), .val (.int 2), .unset, .unset] [])
  refine o_iloadN X0 B d19_0 rfl ?_
  refine o_cS (argsL := [(.int 2)]) (rest := []) X0 B hZ hown (wd_93 hw) (wd_94 hw) (wd_95 hw) (wd_50 hw) (by decide) 0 (rmNbf2 l Z a0 hw []  h0 n0 Z0 ) (by decide) (by decide) (lenOf pd_8 rfl) rfl rfl rfl d19_1 e0 (by decide) (by decide) rfl ?_
  rintro _ T1 _ X1 ⟨vb_1, ns_vb_1, kb_1, rfl, N1q, Kq1, p1_0⟩
  have N1 := Fr.app N0 N1q
  have ne_ca_vb_1 : ca ≠ vb_1 := Nat.ne_of_lt (Nat.lt_of_lt_of_le V_ca.lt ns_vb_1)
  have sz_vb_1 : h0.size ≤ vb_1 := Nat.le_trans K0.1 ns_vb_1
  have K1 := K0.trans Kq1 all0
  have g_vb_1 : n0 ≤ vb_1 := Nat.le_trans Z0 ns_vb_1
  have Zp1 : n0 ≤ T1.heap.size := Nat.le_trans Z0 Kq1.1
  have O2 := O0.keep Kq1 all0
  refine o_astoreN (L' := #[.val (.ref ca), .val (.int 0), .val (.int 2), .val (.ref vb_1), .unset]) X1 B d19_4 rfl rfl ?_
  refine o_iconst X1 B d19_5 ?_
  refine o_istore (L' := #[.val (.ref ca), .val (.int 0), .val (.int 2), .val (.ref vb_1), .val (.int 0)]) X1 B d19_6 rfl ?_
  refine o_iload X1 B d19_8 rfl ?_
  refine o_iloadN X1 B d19_10 rfl ?_
  refine o_icN X1 B d19_11 (XT.ii_ge_f (by decide : ((0 : Int32) < (2 : Int32)))) ?_
  show own_G p e below Φ T1 (mkF m 14 #[.val (.ref ca), .val (.int 0), .val (.int 2), .val (.ref vb_1), .val (.int 0)] [])
  refine o_aloadN X1 B d19_14 rfl rfl ?_
  refine o_iload X1 B d19_15 rfl ?_
  refine o_aloadN X1 B d19_17 rfl rfl ?_
  refine o_iloadN X1 B d19_18 rfl ?_
  have f3 : Arv Z T1.heap ca kc .char (2 : Int32) [(.int c0), (.int c1)] (.int 0) := V_ca.keep Kq1 nin0
  obtain ⟨cl4, Ar4, zq4, S4, M4, H4, G4⟩ := id f3
  have hin4 : ¬ ((0 : Int32) < 0 ∨ cl4.slots.size ≤ ((0 : Int32)).toNatClampNeg) := inb_of S4 ⟨by decide, by decide⟩
  refine own_go (fun _ => X1.caload hx (j := (0 : Int32)) (v := (.int c0)) Ar4.1 (State.isArrayOf_alike hZ.alike Ar4.2.1) Ar4.2.2 hin4 (H4.at hin4 rfl) (g := (mkF m 19 #[.val (.ref ca), .val (.int 0), .val (.int 2), .val (.ref vb_1), .val (.int 0)] [(.int 0), (.ref ca), (.int 0), (.ref vb_1)])) rfl rfl (hb hby d19_19) _) ?_
  show own_G p e below Φ T1 (mkF m 20 #[.val (.ref ca), .val (.int 0), .val (.int 2), .val (.ref vb_1), .val (.int 0)] [(.int c0), (.int 0), (.ref vb_1)])
  refine o_cS (argsL := [(.ref vb_1), (.int 0), (.int c0)]) (rest := []) X1 B hZ hown (wd_100 hw) (wd_101 hw) (wd_102 hw) (wd_50 hw) (by decide) 0 (rmPch l Z a0 hw [] vb_1 kb_1 (4 : Int32) ([(0 : Int32), (0 : Int32), (0 : Int32), (0 : Int32)]) (0 : Int32) c0 T1.heap n0 Zp1 O2 S__assertionsDisabled S_HI_BYTE_SHIFT S_LO_BYTE_SHIFT p1_0 g_vb_1 ⟨by decide, by decide⟩ ⟨by decide, by decide⟩ rfl) (by decide) (by decide) (lenOf pd_9 rfl) rfl rfl rfl d19_20 rfl (by decide) (by decide) rfl ?_
  rintro _ T5 _ X5 ⟨rfl, N5q, Kq5, p5_0⟩
  have N5 := Fr.app N1 N5q
  have K5 := K1.trans Kq5 (allS (Or.inr sz_vb_1) all0)
  have Zp5 : n0 ≤ T5.heap.size := Nat.le_trans Zp1 Kq5.1
  have O6 := O2.keep Kq5 (allS g_vb_1 all0)
  have Vx7 : Arv Z T5.heap vb_1 kb_1 .byte (4 : Int32) [(.int (own_h0 c0)), (.int (own_h8 c0)), (.int 0), (.int 0)] (.int 0) := p5_0
  refine o_iinc (L' := #[.val (.ref ca), .val (.int 1), .val (.int 2), .val (.ref vb_1), .val (.int 0)]) X5 B d19_23 rfl rfl ?_
  refine o_iinc (L' := #[.val (.ref ca), .val (.int 1), .val (.int 2), .val (.ref vb_1), .val (.int 1)]) X5 B d19_26 rfl rfl ?_
  refine o_goto X5 B 8 d19_29 rfl ?_
  refine o_iload X5 B d19_8 rfl ?_
  refine o_iloadN X5 B d19_10 rfl ?_
  refine o_icN X5 B d19_11 (XT.ii_ge_f (by decide : ((1 : Int32) < (2 : Int32)))) ?_
  refine o_aloadN X5 B d19_14 rfl rfl ?_
  show own_G p e below Φ T5 (mkF m 15 #[.val (.ref ca), .val (.int 1), .val (.int 2), .val (.ref vb_1), .val (.int 1)] [(.ref vb_1)])
  refine o_iload X5 B d19_15 rfl ?_
  refine o_aloadN X5 B d19_17 rfl rfl ?_
  refine o_iloadN X5 B d19_18 rfl ?_
  have f8 : Arv Z T5.heap ca kc .char (2 : Int32) [(.int c0), (.int c1)] (.int 0) := f3.keep Kq5 (ninS ne_ca_vb_1 nin0)
  obtain ⟨cl9, Ar9, zq9, S9, M9, H9, G9⟩ := id f8
  have hin9 : ¬ ((1 : Int32) < 0 ∨ cl9.slots.size ≤ ((1 : Int32)).toNatClampNeg) := inb_of S9 ⟨by decide, by decide⟩
  refine own_go (fun _ => X5.caload hx (j := (1 : Int32)) (v := (.int c1)) Ar9.1 (State.isArrayOf_alike hZ.alike Ar9.2.1) Ar9.2.2 hin9 (H9.at hin9 rfl) (g := (mkF m 19 #[.val (.ref ca), .val (.int 1), .val (.int 2), .val (.ref vb_1), .val (.int 1)] [(.int 1), (.ref ca), (.int 1), (.ref vb_1)])) rfl rfl (hb hby d19_19) _) ?_
  refine o_cS (argsL := [(.ref vb_1), (.int 1), (.int c1)]) (rest := []) X5 B hZ hown (wd_100 hw) (wd_101 hw) (wd_102 hw) (wd_50 hw) (by decide) 0 (rmPch l Z a0 hw [] vb_1 kb_1 (4 : Int32) ([(own_h0 c0), (own_h8 c0), (0 : Int32), (0 : Int32)]) (1 : Int32) c1 T5.heap n0 Zp5 O6 S__assertionsDisabled S_HI_BYTE_SHIFT S_LO_BYTE_SHIFT Vx7 g_vb_1 ⟨by decide, by decide⟩ ⟨by decide, by decide⟩ rfl) (by decide) (by decide) (lenOf pd_9 rfl) rfl rfl rfl d19_20 rfl (by decide) (by decide) rfl ?_
  rintro _ T10 _ X10 ⟨rfl, N10q, Kq10, p10_0⟩
  have N10 := Fr.app N5 N10q
  have K10 := K5.trans Kq10 (allS (Or.inr sz_vb_1) all0)
  have Zp10 : n0 ≤ T10.heap.size := Nat.le_trans Zp5 Kq10.1
  have O11 := O6.keep Kq10 (allS g_vb_1 all0)
  have Vx12 : Arv Z T10.heap vb_1 kb_1 .byte (4 : Int32) [(.int (own_h0 c0)), (.int (own_h8 c0)), (.int (own_h0 c1)), (.int (own_h8 c1))] (.int 0) := p10_0
  show own_G p e below Φ T10 (mkF m 23 #[.val (.ref ca), .val (.int 1), .val (.int 2), .val (.ref vb_1), .val (.int 1)] [])
  refine o_iinc (L' := #[.val (.ref ca), .val (.int 2), .val (.int 2), .val (.ref vb_1), .val (.int 1)]) X10 B d19_23 rfl rfl ?_
  refine o_iinc (L' := #[.val (.ref ca), .val (.int 2), .val (.int 2), .val (.ref vb_1), .val (.int 2)]) X10 B d19_26 rfl rfl ?_
  refine o_goto X10 B 8 d19_29 rfl ?_
  refine o_iload X10 B d19_8 rfl ?_
  refine o_iloadN X10 B d19_10 rfl ?_
  refine o_icY X10 B 32 d19_11 (XT.ii_ge_t (by decide : ¬ ((2 : Int32) < (2 : Int32)))) rfl ?_
  refine o_aloadN X10 B d19_32 rfl rfl ?_
  rw [hΦ]
  refine own_ret X10 (v := some (.ref vb_1)) (own_nr hret) hlk (fun fs hr => retOut X10 hx hret rfl (Or.inr (Or.inr (Or.inr (Or.inr ⟨rfl, rfl, rfl⟩)))) (hb hby d19_33) hr) ?_ (by decide) (by decide)
  exact ⟨vb_1, sz_vb_1, kb_1, rfl, N10, K10, Vx12⟩
theorem ef_rmTob3 (m : MethodId) (ca : Addr) : entryFrame m #[(.ref ca), (.int 0), (.int 3)] 5 = mkF m 0 #[.val (.ref ca), .val (.int 0), .val (.int 3), .unset, .unset] [] := by first | (simp [entryFrame, mkF, argsToLocals, Value.category]; done) | rfl
def Q_rmTob3 (Z : State) (ca : Addr) (kc : ClassId) (c0 : Int32) (c1 : Int32) (c2 : Int32) (h0 : Heap) (n0 : Nat) (v : Option Value) (h : Heap) (L : List Loc) : Prop := ∃ vb : Addr, h0.size ≤ vb ∧ ∃ kb : ClassId, v = some (.ref vb) ∧ Fr n0 L ∧ Keep h0 h [] ∧ Arv Z h vb kb .byte (6 : Int32) [(.int (own_h0 c0)), (.int (own_h8 c0)), (.int (own_h0 c1)), (.int (own_h8 c1)), (.int (own_h0 c2)), (.int (own_h8 c2))] (.int 0)
set_option maxRecDepth 65536 in
set_option maxHeartbeats 40000000 in
theorem rmTob3 (l : Launch) (Z : State) (a0 : Array Value) (hw : own_H Z a0) (ws : List Jvm.Cond) (ca : Addr) (kc : ClassId) (c0 : Int32) (c1 : Int32) (c2 : Int32) (h0 : Heap) (n0 : Nat) (Z0 : n0 ≤ h0.size) (O0 : Old Z n0 h0) (S__assertionsDisabled : Sta Z Z.heap "java/lang/StringUTF16" "$assertionsDisabled" "Z" (.int 1)) (S_HI_BYTE_SHIFT : Sta Z Z.heap "java/lang/StringUTF16" "HI_BYTE_SHIFT" "I" (.int 0)) (S_LO_BYTE_SHIFT : Sta Z Z.heap "java/lang/StringUTF16" "LO_BYTE_SHIFT" "I" (.int 8)) (V_ca : Arv Z h0 ca kc .char (3 : Int32) [(.int c0), (.int c1), (.int c2)] (.int 0)) :
    own_Met l (⟨"java/lang/StringUTF16", "toBytes", "([CII)[B"⟩ : MethodName) jdk_52_method_14_code 5 (some (.array .byte)) ws (own_rm 2 1 6 24) Z h0 #[(.ref ca), (.int 0), (.int 3)] (Q_rmTob3 Z ca kc c0 c1 c2 h0 n0) := by
  refine own_met (plainFor_of_name pn_5) (fun m => ef_rmTob3 m ca) ?_
  intro p e s m below meth c s₁ Φ hΦ X0 hx hby hml hown hnm hret hlk hZ e0
  have N0 := Fr.nil n0
  have B : own_B p c _ _ := ⟨hx, hby, hml⟩
  have K0 : Keep h0 h0 [] := Keep.refl _ _
  show own_G p e below Φ s₁ (mkF m 0 #[.val (.ref ca), .val (.int 0), .val (.int 3), .unset, .unset] [])
  refine o_iloadN X0 B d19_0 rfl ?_
  refine o_cS (argsL := [(.int 3)]) (rest := []) X0 B hZ hown (wd_93 hw) (wd_94 hw) (wd_95 hw) (wd_50 hw) (by decide) 0 (rmNbf3 l Z a0 hw []  h0 n0 Z0 ) (by decide) (by decide) (lenOf pd_8 rfl) rfl rfl rfl d19_1 e0 (by decide) (by decide) rfl ?_
  rintro _ T1 _ X1 ⟨vb_1, ns_vb_1, kb_1, rfl, N1q, Kq1, p1_0⟩
  have N1 := Fr.app N0 N1q
  have ne_ca_vb_1 : ca ≠ vb_1 := Nat.ne_of_lt (Nat.lt_of_lt_of_le V_ca.lt ns_vb_1)
  have sz_vb_1 : h0.size ≤ vb_1 := Nat.le_trans K0.1 ns_vb_1
  have K1 := K0.trans Kq1 all0
  have g_vb_1 : n0 ≤ vb_1 := Nat.le_trans Z0 ns_vb_1
  have Zp1 : n0 ≤ T1.heap.size := Nat.le_trans Z0 Kq1.1
  have O2 := O0.keep Kq1 all0
  refine o_astoreN (L' := #[.val (.ref ca), .val (.int 0), .val (.int 3), .val (.ref vb_1), .unset]) X1 B d19_4 rfl rfl ?_
  refine o_iconst X1 B d19_5 ?_
  refine o_istore (L' := #[.val (.ref ca), .val (.int 0), .val (.int 3), .val (.ref vb_1), .val (.int 0)]) X1 B d19_6 rfl ?_
  refine o_iload X1 B d19_8 rfl ?_
  refine o_iloadN X1 B d19_10 rfl ?_
  refine o_icN X1 B d19_11 (XT.ii_ge_f (by decide : ((0 : Int32) < (3 : Int32)))) ?_
  show own_G p e below Φ T1 (mkF m 14 #[.val (.ref ca), .val (.int 0), .val (.int 3), .val (.ref vb_1), .val (.int 0)] [])
  refine o_aloadN X1 B d19_14 rfl rfl ?_
  refine o_iload X1 B d19_15 rfl ?_
  refine o_aloadN X1 B d19_17 rfl rfl ?_
  refine o_iloadN X1 B d19_18 rfl ?_
  have f3 : Arv Z T1.heap ca kc .char (3 : Int32) [(.int c0), (.int c1), (.int c2)] (.int 0) := V_ca.keep Kq1 nin0
  obtain ⟨cl4, Ar4, zq4, S4, M4, H4, G4⟩ := id f3
  have hin4 : ¬ ((0 : Int32) < 0 ∨ cl4.slots.size ≤ ((0 : Int32)).toNatClampNeg) := inb_of S4 ⟨by decide, by decide⟩
  refine own_go (fun _ => X1.caload hx (j := (0 : Int32)) (v := (.int c0)) Ar4.1 (State.isArrayOf_alike hZ.alike Ar4.2.1) Ar4.2.2 hin4 (H4.at hin4 rfl) (g := (mkF m 19 #[.val (.ref ca), .val (.int 0), .val (.int 3), .val (.ref vb_1), .val (.int 0)] [(.int 0), (.ref ca), (.int 0), (.ref vb_1)])) rfl rfl (hb hby d19_19) _) ?_
  show own_G p e below Φ T1 (mkF m 20 #[.val (.ref ca), .val (.int 0), .val (.int 3), .val (.ref vb_1), .val (.int 0)] [(.int c0), (.int 0), (.ref vb_1)])
  refine o_cS (argsL := [(.ref vb_1), (.int 0), (.int c0)]) (rest := []) X1 B hZ hown (wd_100 hw) (wd_101 hw) (wd_102 hw) (wd_50 hw) (by decide) 0 (rmPch l Z a0 hw [] vb_1 kb_1 (6 : Int32) ([(0 : Int32), (0 : Int32), (0 : Int32), (0 : Int32), (0 : Int32), (0 : Int32)]) (0 : Int32) c0 T1.heap n0 Zp1 O2 S__assertionsDisabled S_HI_BYTE_SHIFT S_LO_BYTE_SHIFT p1_0 g_vb_1 ⟨by decide, by decide⟩ ⟨by decide, by decide⟩ rfl) (by decide) (by decide) (lenOf pd_9 rfl) rfl rfl rfl d19_20 rfl (by decide) (by decide) rfl ?_
  rintro _ T5 _ X5 ⟨rfl, N5q, Kq5, p5_0⟩
  have N5 := Fr.app N1 N5q
  have K5 := K1.trans Kq5 (allS (Or.inr sz_vb_1) all0)
  have Zp5 : n0 ≤ T5.heap.size := Nat.le_trans Zp1 Kq5.1
  have O6 := O2.keep Kq5 (allS g_vb_1 all0)
  have Vx7 : Arv Z T5.heap vb_1 kb_1 .byte (6 : Int32) [(.int (own_h0 c0)), (.int (own_h8 c0)), (.int 0), (.int 0), (.int 0), (.int 0)] (.int 0) := p5_0
  refine o_iinc (L' := #[.val (.ref ca), .val (.int 1), .val (.int 3), .val (.ref vb_1), .val (.int 0)]) X5 B d19_23 rfl rfl ?_
  refine o_iinc (L' := #[.val (.ref ca), .val (.int 1), .val (.int 3), .val (.ref vb_1), .val (.int 1)]) X5 B d19_26 rfl rfl ?_
  refine o_goto X5 B 8 d19_29 rfl ?_
  refine o_iload X5 B d19_8 rfl ?_
  refine o_iloadN X5 B d19_10 rfl ?_
  refine o_icN X5 B d19_11 (XT.ii_ge_f (by decide : ((1 : Int32) < (3 : Int32)))) ?_
  refine o_aloadN X5 B d19_14 rfl rfl ?_
  show own_G p e below Φ T5 (mkF m 15 #[.val (.ref ca), .val (.int 1), .val (.int 3), .val (.ref vb_1), .val (.int 1)] [(.ref vb_1)])
  refine o_iload X5 B d19_15 rfl ?_
  refine o_aloadN X5 B d19_17 rfl rfl ?_
  refine o_iloadN X5 B d19_18 rfl ?_
  have f8 : Arv Z T5.heap ca kc .char (3 : Int32) [(.int c0), (.int c1), (.int c2)] (.int 0) := f3.keep Kq5 (ninS ne_ca_vb_1 nin0)
  obtain ⟨cl9, Ar9, zq9, S9, M9, H9, G9⟩ := id f8
  have hin9 : ¬ ((1 : Int32) < 0 ∨ cl9.slots.size ≤ ((1 : Int32)).toNatClampNeg) := inb_of S9 ⟨by decide, by decide⟩
  refine own_go (fun _ => X5.caload hx (j := (1 : Int32)) (v := (.int c1)) Ar9.1 (State.isArrayOf_alike hZ.alike Ar9.2.1) Ar9.2.2 hin9 (H9.at hin9 rfl) (g := (mkF m 19 #[.val (.ref ca), .val (.int 1), .val (.int 3), .val (.ref vb_1), .val (.int 1)] [(.int 1), (.ref ca), (.int 1), (.ref vb_1)])) rfl rfl (hb hby d19_19) _) ?_
  refine o_cS (argsL := [(.ref vb_1), (.int 1), (.int c1)]) (rest := []) X5 B hZ hown (wd_100 hw) (wd_101 hw) (wd_102 hw) (wd_50 hw) (by decide) 0 (rmPch l Z a0 hw [] vb_1 kb_1 (6 : Int32) ([(own_h0 c0), (own_h8 c0), (0 : Int32), (0 : Int32), (0 : Int32), (0 : Int32)]) (1 : Int32) c1 T5.heap n0 Zp5 O6 S__assertionsDisabled S_HI_BYTE_SHIFT S_LO_BYTE_SHIFT Vx7 g_vb_1 ⟨by decide, by decide⟩ ⟨by decide, by decide⟩ rfl) (by decide) (by decide) (lenOf pd_9 rfl) rfl rfl rfl d19_20 rfl (by decide) (by decide) rfl ?_
  rintro _ T10 _ X10 ⟨rfl, N10q, Kq10, p10_0⟩
  have N10 := Fr.app N5 N10q
  have K10 := K5.trans Kq10 (allS (Or.inr sz_vb_1) all0)
  have Zp10 : n0 ≤ T10.heap.size := Nat.le_trans Zp5 Kq10.1
  have O11 := O6.keep Kq10 (allS g_vb_1 all0)
  have Vx12 : Arv Z T10.heap vb_1 kb_1 .byte (6 : Int32) [(.int (own_h0 c0)), (.int (own_h8 c0)), (.int (own_h0 c1)), (.int (own_h8 c1)), (.int 0), (.int 0)] (.int 0) := p10_0
  show own_G p e below Φ T10 (mkF m 23 #[.val (.ref ca), .val (.int 1), .val (.int 3), .val (.ref vb_1), .val (.int 1)] [])
  refine o_iinc (L' := #[.val (.ref ca), .val (.int 2), .val (.int 3), .val (.ref vb_1), .val (.int 1)]) X10 B d19_23 rfl rfl ?_
  refine o_iinc (L' := #[.val (.ref ca), .val (.int 2), .val (.int 3), .val (.ref vb_1), .val (.int 2)]) X10 B d19_26 rfl rfl ?_
  refine o_goto X10 B 8 d19_29 rfl ?_
  refine o_iload X10 B d19_8 rfl ?_
  refine o_iloadN X10 B d19_10 rfl ?_
  refine o_icN X10 B d19_11 (XT.ii_ge_f (by decide : ((2 : Int32) < (3 : Int32)))) ?_
  refine o_aloadN X10 B d19_14 rfl rfl ?_
  refine o_iload X10 B d19_15 rfl ?_
  show own_G p e below Φ T10 (mkF m 17 #[.val (.ref ca), .val (.int 2), .val (.int 3), .val (.ref vb_1), .val (.int 2)] [(.int 2), (.ref vb_1)])
  refine o_aloadN X10 B d19_17 rfl rfl ?_
  refine o_iloadN X10 B d19_18 rfl ?_
  have f13 : Arv Z T10.heap ca kc .char (3 : Int32) [(.int c0), (.int c1), (.int c2)] (.int 0) := f8.keep Kq10 (ninS ne_ca_vb_1 nin0)
  obtain ⟨cl14, Ar14, zq14, S14, M14, H14, G14⟩ := id f13
  have hin14 : ¬ ((2 : Int32) < 0 ∨ cl14.slots.size ≤ ((2 : Int32)).toNatClampNeg) := inb_of S14 ⟨by decide, by decide⟩
  refine own_go (fun _ => X10.caload hx (j := (2 : Int32)) (v := (.int c2)) Ar14.1 (State.isArrayOf_alike hZ.alike Ar14.2.1) Ar14.2.2 hin14 (H14.at hin14 rfl) (g := (mkF m 19 #[.val (.ref ca), .val (.int 2), .val (.int 3), .val (.ref vb_1), .val (.int 2)] [(.int 2), (.ref ca), (.int 2), (.ref vb_1)])) rfl rfl (hb hby d19_19) _) ?_
  refine o_cS (argsL := [(.ref vb_1), (.int 2), (.int c2)]) (rest := []) X10 B hZ hown (wd_100 hw) (wd_101 hw) (wd_102 hw) (wd_50 hw) (by decide) 0 (rmPch l Z a0 hw [] vb_1 kb_1 (6 : Int32) ([(own_h0 c0), (own_h8 c0), (own_h0 c1), (own_h8 c1), (0 : Int32), (0 : Int32)]) (2 : Int32) c2 T10.heap n0 Zp10 O11 S__assertionsDisabled S_HI_BYTE_SHIFT S_LO_BYTE_SHIFT Vx12 g_vb_1 ⟨by decide, by decide⟩ ⟨by decide, by decide⟩ rfl) (by decide) (by decide) (lenOf pd_9 rfl) rfl rfl rfl d19_20 rfl (by decide) (by decide) rfl ?_
  rintro _ T15 _ X15 ⟨rfl, N15q, Kq15, p15_0⟩
  have N15 := Fr.app N10 N15q
  have K15 := K10.trans Kq15 (allS (Or.inr sz_vb_1) all0)
  have Zp15 : n0 ≤ T15.heap.size := Nat.le_trans Zp10 Kq15.1
  have O16 := O11.keep Kq15 (allS g_vb_1 all0)
  have Vx17 : Arv Z T15.heap vb_1 kb_1 .byte (6 : Int32) [(.int (own_h0 c0)), (.int (own_h8 c0)), (.int (own_h0 c1)), (.int (own_h8 c1)), (.int (own_h0 c2)), (.int (own_h8 c2))] (.int 0) := p15_0
  refine o_iinc (L' := #[.val (.ref ca), .val (.int 3), .val (.int 3), .val (.ref vb_1), .val (.int 2)]) X15 B d19_23 rfl rfl ?_
  show own_G p e below Φ T15 (mkF m 26 #[.val (.ref ca), .val (.int 3), .val (.int 3), .val (.ref vb_1), .val (.int 2)] [])
  refine o_iinc (L' := #[.val (.ref ca), .val (.int 3), .val (.int 3), .val (.ref vb_1), .val (.int 3)]) X15 B d19_26 rfl rfl ?_
  refine o_goto X15 B 8 d19_29 rfl ?_
  refine o_iload X15 B d19_8 rfl ?_
  refine o_iloadN X15 B d19_10 rfl ?_
  refine o_icY X15 B 32 d19_11 (XT.ii_ge_t (by decide : ¬ ((3 : Int32) < (3 : Int32)))) rfl ?_
  refine o_aloadN X15 B d19_32 rfl rfl ?_
  rw [hΦ]
  refine own_ret X15 (v := some (.ref vb_1)) (own_nr hret) hlk (fun fs hr => retOut X15 hx hret rfl (Or.inr (Or.inr (Or.inr (Or.inr ⟨rfl, rfl, rfl⟩)))) (hb hby d19_33) hr) ?_ (by decide) (by decide)
  exact ⟨vb_1, sz_vb_1, kb_1, rfl, N15, K15, Vx17⟩
theorem ef_rmTob4 (m : MethodId) (ca : Addr) : entryFrame m #[(.ref ca), (.int 0), (.int 4)] 5 = mkF m 0 #[.val (.ref ca), .val (.int 0), .val (.int 4), .unset, .unset] [] := by first | (simp [entryFrame, mkF, argsToLocals, Value.category]; done) | rfl
def Q_rmTob4 (Z : State) (ca : Addr) (kc : ClassId) (c0 : Int32) (c1 : Int32) (c2 : Int32) (c3 : Int32) (h0 : Heap) (n0 : Nat) (v : Option Value) (h : Heap) (L : List Loc) : Prop := ∃ vb : Addr, h0.size ≤ vb ∧ ∃ kb : ClassId, v = some (.ref vb) ∧ Fr n0 L ∧ Keep h0 h [] ∧ Arv Z h vb kb .byte (8 : Int32) [(.int (own_h0 c0)), (.int (own_h8 c0)), (.int (own_h0 c1)), (.int (own_h8 c1)), (.int (own_h0 c2)), (.int (own_h8 c2)), (.int (own_h0 c3)), (.int (own_h8 c3))] (.int 0)
set_option maxRecDepth 65536 in
set_option maxHeartbeats 40000000 in
theorem rmTob4 (l : Launch) (Z : State) (a0 : Array Value) (hw : own_H Z a0) (ws : List Jvm.Cond) (ca : Addr) (kc : ClassId) (c0 : Int32) (c1 : Int32) (c2 : Int32) (c3 : Int32) (h0 : Heap) (n0 : Nat) (Z0 : n0 ≤ h0.size) (O0 : Old Z n0 h0) (S__assertionsDisabled : Sta Z Z.heap "java/lang/StringUTF16" "$assertionsDisabled" "Z" (.int 1)) (S_HI_BYTE_SHIFT : Sta Z Z.heap "java/lang/StringUTF16" "HI_BYTE_SHIFT" "I" (.int 0)) (S_LO_BYTE_SHIFT : Sta Z Z.heap "java/lang/StringUTF16" "LO_BYTE_SHIFT" "I" (.int 8)) (V_ca : Arv Z h0 ca kc .char (4 : Int32) [(.int c0), (.int c1), (.int c2), (.int c3)] (.int 0)) :
    own_Met l (⟨"java/lang/StringUTF16", "toBytes", "([CII)[B"⟩ : MethodName) jdk_52_method_14_code 5 (some (.array .byte)) ws (own_rm 2 1 8 24) Z h0 #[(.ref ca), (.int 0), (.int 4)] (Q_rmTob4 Z ca kc c0 c1 c2 c3 h0 n0) := by
  refine own_met (plainFor_of_name pn_5) (fun m => ef_rmTob4 m ca) ?_
  intro p e s m below meth c s₁ Φ hΦ X0 hx hby hml hown hnm hret hlk hZ e0
  have N0 := Fr.nil n0
  have B : own_B p c _ _ := ⟨hx, hby, hml⟩
  have K0 : Keep h0 h0 [] := Keep.refl _ _
  show own_G p e below Φ s₁ (mkF m 0 #[.val (.ref ca), .val (.int 0), .val (.int 4), .unset, .unset] [])
  refine o_iloadN X0 B d19_0 rfl ?_
  refine o_cS (argsL := [(.int 4)]) (rest := []) X0 B hZ hown (wd_93 hw) (wd_94 hw) (wd_95 hw) (wd_50 hw) (by decide) 0 (rmNbf4 l Z a0 hw []  h0 n0 Z0 ) (by decide) (by decide) (lenOf pd_8 rfl) rfl rfl rfl d19_1 e0 (by decide) (by decide) rfl ?_
  rintro _ T1 _ X1 ⟨vb_1, ns_vb_1, kb_1, rfl, N1q, Kq1, p1_0⟩
  have N1 := Fr.app N0 N1q
  have ne_ca_vb_1 : ca ≠ vb_1 := Nat.ne_of_lt (Nat.lt_of_lt_of_le V_ca.lt ns_vb_1)
  have sz_vb_1 : h0.size ≤ vb_1 := Nat.le_trans K0.1 ns_vb_1
  have K1 := K0.trans Kq1 all0
  have g_vb_1 : n0 ≤ vb_1 := Nat.le_trans Z0 ns_vb_1
  have Zp1 : n0 ≤ T1.heap.size := Nat.le_trans Z0 Kq1.1
  have O2 := O0.keep Kq1 all0
  refine o_astoreN (L' := #[.val (.ref ca), .val (.int 0), .val (.int 4), .val (.ref vb_1), .unset]) X1 B d19_4 rfl rfl ?_
  refine o_iconst X1 B d19_5 ?_
  refine o_istore (L' := #[.val (.ref ca), .val (.int 0), .val (.int 4), .val (.ref vb_1), .val (.int 0)]) X1 B d19_6 rfl ?_
  refine o_iload X1 B d19_8 rfl ?_
  refine o_iloadN X1 B d19_10 rfl ?_
  refine o_icN X1 B d19_11 (XT.ii_ge_f (by decide : ((0 : Int32) < (4 : Int32)))) ?_
  show own_G p e below Φ T1 (mkF m 14 #[.val (.ref ca), .val (.int 0), .val (.int 4), .val (.ref vb_1), .val (.int 0)] [])
  refine o_aloadN X1 B d19_14 rfl rfl ?_
  refine o_iload X1 B d19_15 rfl ?_
  refine o_aloadN X1 B d19_17 rfl rfl ?_
  refine o_iloadN X1 B d19_18 rfl ?_
  have f3 : Arv Z T1.heap ca kc .char (4 : Int32) [(.int c0), (.int c1), (.int c2), (.int c3)] (.int 0) := V_ca.keep Kq1 nin0
  obtain ⟨cl4, Ar4, zq4, S4, M4, H4, G4⟩ := id f3
  have hin4 : ¬ ((0 : Int32) < 0 ∨ cl4.slots.size ≤ ((0 : Int32)).toNatClampNeg) := inb_of S4 ⟨by decide, by decide⟩
  refine own_go (fun _ => X1.caload hx (j := (0 : Int32)) (v := (.int c0)) Ar4.1 (State.isArrayOf_alike hZ.alike Ar4.2.1) Ar4.2.2 hin4 (H4.at hin4 rfl) (g := (mkF m 19 #[.val (.ref ca), .val (.int 0), .val (.int 4), .val (.ref vb_1), .val (.int 0)] [(.int 0), (.ref ca), (.int 0), (.ref vb_1)])) rfl rfl (hb hby d19_19) _) ?_
  show own_G p e below Φ T1 (mkF m 20 #[.val (.ref ca), .val (.int 0), .val (.int 4), .val (.ref vb_1), .val (.int 0)] [(.int c0), (.int 0), (.ref vb_1)])
  refine o_cS (argsL := [(.ref vb_1), (.int 0), (.int c0)]) (rest := []) X1 B hZ hown (wd_100 hw) (wd_101 hw) (wd_102 hw) (wd_50 hw) (by decide) 0 (rmPch l Z a0 hw [] vb_1 kb_1 (8 : Int32) ([(0 : Int32), (0 : Int32), (0 : Int32), (0 : Int32), (0 : Int32), (0 : Int32), (0 : Int32), (0 : Int32)]) (0 : Int32) c0 T1.heap n0 Zp1 O2 S__assertionsDisabled S_HI_BYTE_SHIFT S_LO_BYTE_SHIFT p1_0 g_vb_1 ⟨by decide, by decide⟩ ⟨by decide, by decide⟩ rfl) (by decide) (by decide) (lenOf pd_9 rfl) rfl rfl rfl d19_20 rfl (by decide) (by decide) rfl ?_
  rintro _ T5 _ X5 ⟨rfl, N5q, Kq5, p5_0⟩
  have N5 := Fr.app N1 N5q
  have K5 := K1.trans Kq5 (allS (Or.inr sz_vb_1) all0)
  have Zp5 : n0 ≤ T5.heap.size := Nat.le_trans Zp1 Kq5.1
  have O6 := O2.keep Kq5 (allS g_vb_1 all0)
  have Vx7 : Arv Z T5.heap vb_1 kb_1 .byte (8 : Int32) [(.int (own_h0 c0)), (.int (own_h8 c0)), (.int 0), (.int 0), (.int 0), (.int 0), (.int 0), (.int 0)] (.int 0) := p5_0
  refine o_iinc (L' := #[.val (.ref ca), .val (.int 1), .val (.int 4), .val (.ref vb_1), .val (.int 0)]) X5 B d19_23 rfl rfl ?_
  refine o_iinc (L' := #[.val (.ref ca), .val (.int 1), .val (.int 4), .val (.ref vb_1), .val (.int 1)]) X5 B d19_26 rfl rfl ?_
  refine o_goto X5 B 8 d19_29 rfl ?_
  refine o_iload X5 B d19_8 rfl ?_
  refine o_iloadN X5 B d19_10 rfl ?_
  refine o_icN X5 B d19_11 (XT.ii_ge_f (by decide : ((1 : Int32) < (4 : Int32)))) ?_
  refine o_aloadN X5 B d19_14 rfl rfl ?_
  show own_G p e below Φ T5 (mkF m 15 #[.val (.ref ca), .val (.int 1), .val (.int 4), .val (.ref vb_1), .val (.int 1)] [(.ref vb_1)])
  refine o_iload X5 B d19_15 rfl ?_
  refine o_aloadN X5 B d19_17 rfl rfl ?_
  refine o_iloadN X5 B d19_18 rfl ?_
  have f8 : Arv Z T5.heap ca kc .char (4 : Int32) [(.int c0), (.int c1), (.int c2), (.int c3)] (.int 0) := f3.keep Kq5 (ninS ne_ca_vb_1 nin0)
  obtain ⟨cl9, Ar9, zq9, S9, M9, H9, G9⟩ := id f8
  have hin9 : ¬ ((1 : Int32) < 0 ∨ cl9.slots.size ≤ ((1 : Int32)).toNatClampNeg) := inb_of S9 ⟨by decide, by decide⟩
  refine own_go (fun _ => X5.caload hx (j := (1 : Int32)) (v := (.int c1)) Ar9.1 (State.isArrayOf_alike hZ.alike Ar9.2.1) Ar9.2.2 hin9 (H9.at hin9 rfl) (g := (mkF m 19 #[.val (.ref ca), .val (.int 1), .val (.int 4), .val (.ref vb_1), .val (.int 1)] [(.int 1), (.ref ca), (.int 1), (.ref vb_1)])) rfl rfl (hb hby d19_19) _) ?_
  refine o_cS (argsL := [(.ref vb_1), (.int 1), (.int c1)]) (rest := []) X5 B hZ hown (wd_100 hw) (wd_101 hw) (wd_102 hw) (wd_50 hw) (by decide) 0 (rmPch l Z a0 hw [] vb_1 kb_1 (8 : Int32) ([(own_h0 c0), (own_h8 c0), (0 : Int32), (0 : Int32), (0 : Int32), (0 : Int32), (0 : Int32), (0 : Int32)]) (1 : Int32) c1 T5.heap n0 Zp5 O6 S__assertionsDisabled S_HI_BYTE_SHIFT S_LO_BYTE_SHIFT Vx7 g_vb_1 ⟨by decide, by decide⟩ ⟨by decide, by decide⟩ rfl) (by decide) (by decide) (lenOf pd_9 rfl) rfl rfl rfl d19_20 rfl (by decide) (by decide) rfl ?_
  rintro _ T10 _ X10 ⟨rfl, N10q, Kq10, p10_0⟩
  have N10 := Fr.app N5 N10q
  have K10 := K5.trans Kq10 (allS (Or.inr sz_vb_1) all0)
  have Zp10 : n0 ≤ T10.heap.size := Nat.le_trans Zp5 Kq10.1
  have O11 := O6.keep Kq10 (allS g_vb_1 all0)
  have Vx12 : Arv Z T10.heap vb_1 kb_1 .byte (8 : Int32) [(.int (own_h0 c0)), (.int (own_h8 c0)), (.int (own_h0 c1)), (.int (own_h8 c1)), (.int 0), (.int 0), (.int 0), (.int 0)] (.int 0) := p10_0
  show own_G p e below Φ T10 (mkF m 23 #[.val (.ref ca), .val (.int 1), .val (.int 4), .val (.ref vb_1), .val (.int 1)] [])
  refine o_iinc (L' := #[.val (.ref ca), .val (.int 2), .val (.int 4), .val (.ref vb_1), .val (.int 1)]) X10 B d19_23 rfl rfl ?_
  refine o_iinc (L' := #[.val (.ref ca), .val (.int 2), .val (.int 4), .val (.ref vb_1), .val (.int 2)]) X10 B d19_26 rfl rfl ?_
  refine o_goto X10 B 8 d19_29 rfl ?_
  refine o_iload X10 B d19_8 rfl ?_
  refine o_iloadN X10 B d19_10 rfl ?_
  refine o_icN X10 B d19_11 (XT.ii_ge_f (by decide : ((2 : Int32) < (4 : Int32)))) ?_
  refine o_aloadN X10 B d19_14 rfl rfl ?_
  refine o_iload X10 B d19_15 rfl ?_
  show own_G p e below Φ T10 (mkF m 17 #[.val (.ref ca), .val (.int 2), .val (.int 4), .val (.ref vb_1), .val (.int 2)] [(.int 2), (.ref vb_1)])
  refine o_aloadN X10 B d19_17 rfl rfl ?_
  refine o_iloadN X10 B d19_18 rfl ?_
  have f13 : Arv Z T10.heap ca kc .char (4 : Int32) [(.int c0), (.int c1), (.int c2), (.int c3)] (.int 0) := f8.keep Kq10 (ninS ne_ca_vb_1 nin0)
  obtain ⟨cl14, Ar14, zq14, S14, M14, H14, G14⟩ := id f13
  have hin14 : ¬ ((2 : Int32) < 0 ∨ cl14.slots.size ≤ ((2 : Int32)).toNatClampNeg) := inb_of S14 ⟨by decide, by decide⟩
  refine own_go (fun _ => X10.caload hx (j := (2 : Int32)) (v := (.int c2)) Ar14.1 (State.isArrayOf_alike hZ.alike Ar14.2.1) Ar14.2.2 hin14 (H14.at hin14 rfl) (g := (mkF m 19 #[.val (.ref ca), .val (.int 2), .val (.int 4), .val (.ref vb_1), .val (.int 2)] [(.int 2), (.ref ca), (.int 2), (.ref vb_1)])) rfl rfl (hb hby d19_19) _) ?_
  refine o_cS (argsL := [(.ref vb_1), (.int 2), (.int c2)]) (rest := []) X10 B hZ hown (wd_100 hw) (wd_101 hw) (wd_102 hw) (wd_50 hw) (by decide) 0 (rmPch l Z a0 hw [] vb_1 kb_1 (8 : Int32) ([(own_h0 c0), (own_h8 c0), (own_h0 c1), (own_h8 c1), (0 : Int32), (0 : Int32), (0 : Int32), (0 : Int32)]) (2 : Int32) c2 T10.heap n0 Zp10 O11 S__assertionsDisabled S_HI_BYTE_SHIFT S_LO_BYTE_SHIFT Vx12 g_vb_1 ⟨by decide, by decide⟩ ⟨by decide, by decide⟩ rfl) (by decide) (by decide) (lenOf pd_9 rfl) rfl rfl rfl d19_20 rfl (by decide) (by decide) rfl ?_
  rintro _ T15 _ X15 ⟨rfl, N15q, Kq15, p15_0⟩
  have N15 := Fr.app N10 N15q
  have K15 := K10.trans Kq15 (allS (Or.inr sz_vb_1) all0)
  have Zp15 : n0 ≤ T15.heap.size := Nat.le_trans Zp10 Kq15.1
  have O16 := O11.keep Kq15 (allS g_vb_1 all0)
  have Vx17 : Arv Z T15.heap vb_1 kb_1 .byte (8 : Int32) [(.int (own_h0 c0)), (.int (own_h8 c0)), (.int (own_h0 c1)), (.int (own_h8 c1)), (.int (own_h0 c2)), (.int (own_h8 c2)), (.int 0), (.int 0)] (.int 0) := p15_0
  refine o_iinc (L' := #[.val (.ref ca), .val (.int 3), .val (.int 4), .val (.ref vb_1), .val (.int 2)]) X15 B d19_23 rfl rfl ?_
  show own_G p e below Φ T15 (mkF m 26 #[.val (.ref ca), .val (.int 3), .val (.int 4), .val (.ref vb_1), .val (.int 2)] [])
  refine o_iinc (L' := #[.val (.ref ca), .val (.int 3), .val (.int 4), .val (.ref vb_1), .val (.int 3)]) X15 B d19_26 rfl rfl ?_
  refine o_goto X15 B 8 d19_29 rfl ?_
  refine o_iload X15 B d19_8 rfl ?_
  refine o_iloadN X15 B d19_10 rfl ?_
  refine o_icN X15 B d19_11 (XT.ii_ge_f (by decide : ((3 : Int32) < (4 : Int32)))) ?_
  refine o_aloadN X15 B d19_14 rfl rfl ?_
  refine o_iload X15 B d19_15 rfl ?_
  refine o_aloadN X15 B d19_17 rfl rfl ?_
  show own_G p e below Φ T15 (mkF m 18 #[.val (.ref ca), .val (.int 3), .val (.int 4), .val (.ref vb_1), .val (.int 3)] [(.ref ca), (.int 3), (.ref vb_1)])
  refine o_iloadN X15 B d19_18 rfl ?_
  have f18 : Arv Z T15.heap ca kc .char (4 : Int32) [(.int c0), (.int c1), (.int c2), (.int c3)] (.int 0) := f13.keep Kq15 (ninS ne_ca_vb_1 nin0)
  obtain ⟨cl19, Ar19, zq19, S19, M19, H19, G19⟩ := id f18
  have hin19 : ¬ ((3 : Int32) < 0 ∨ cl19.slots.size ≤ ((3 : Int32)).toNatClampNeg) := inb_of S19 ⟨by decide, by decide⟩
  refine own_go (fun _ => X15.caload hx (j := (3 : Int32)) (v := (.int c3)) Ar19.1 (State.isArrayOf_alike hZ.alike Ar19.2.1) Ar19.2.2 hin19 (H19.at hin19 rfl) (g := (mkF m 19 #[.val (.ref ca), .val (.int 3), .val (.int 4), .val (.ref vb_1), .val (.int 3)] [(.int 3), (.ref ca), (.int 3), (.ref vb_1)])) rfl rfl (hb hby d19_19) _) ?_
  refine o_cS (argsL := [(.ref vb_1), (.int 3), (.int c3)]) (rest := []) X15 B hZ hown (wd_100 hw) (wd_101 hw) (wd_102 hw) (wd_50 hw) (by decide) 0 (rmPch l Z a0 hw [] vb_1 kb_1 (8 : Int32) ([(own_h0 c0), (own_h8 c0), (own_h0 c1), (own_h8 c1), (own_h0 c2), (own_h8 c2), (0 : Int32), (0 : Int32)]) (3 : Int32) c3 T15.heap n0 Zp15 O16 S__assertionsDisabled S_HI_BYTE_SHIFT S_LO_BYTE_SHIFT Vx17 g_vb_1 ⟨by decide, by decide⟩ ⟨by decide, by decide⟩ rfl) (by decide) (by decide) (lenOf pd_9 rfl) rfl rfl rfl d19_20 rfl (by decide) (by decide) rfl ?_
  rintro _ T20 _ X20 ⟨rfl, N20q, Kq20, p20_0⟩
  have N20 := Fr.app N15 N20q
  have K20 := K15.trans Kq20 (allS (Or.inr sz_vb_1) all0)
  have Zp20 : n0 ≤ T20.heap.size := Nat.le_trans Zp15 Kq20.1
  have O21 := O16.keep Kq20 (allS g_vb_1 all0)
  have Vx22 : Arv Z T20.heap vb_1 kb_1 .byte (8 : Int32) [(.int (own_h0 c0)), (.int (own_h8 c0)), (.int (own_h0 c1)), (.int (own_h8 c1)), (.int (own_h0 c2)), (.int (own_h8 c2)), (.int (own_h0 c3)), (.int (own_h8 c3))] (.int 0) := p20_0
  refine o_iinc (L' := #[.val (.ref ca), .val (.int 4), .val (.int 4), .val (.ref vb_1), .val (.int 3)]) X20 B d19_23 rfl rfl ?_
  refine o_iinc (L' := #[.val (.ref ca), .val (.int 4), .val (.int 4), .val (.ref vb_1), .val (.int 4)]) X20 B d19_26 rfl rfl ?_
  show own_G p e below Φ T20 (mkF m 29 #[.val (.ref ca), .val (.int 4), .val (.int 4), .val (.ref vb_1), .val (.int 4)] [])
  refine o_goto X20 B 8 d19_29 rfl ?_
  refine o_iload X20 B d19_8 rfl ?_
  refine o_iloadN X20 B d19_10 rfl ?_
  refine o_icY X20 B 32 d19_11 (XT.ii_ge_t (by decide : ¬ ((4 : Int32) < (4 : Int32)))) rfl ?_
  refine o_aloadN X20 B d19_32 rfl rfl ?_
  rw [hΦ]
  refine own_ret X20 (v := some (.ref vb_1)) (own_nr hret) hlk (fun fs hr => retOut X20 hx hret rfl (Or.inr (Or.inr (Or.inr (Or.inr ⟨rfl, rfl, rfl⟩)))) (hb hby d19_33) hr) ?_ (by decide) (by decide)
  exact ⟨vb_1, sz_vb_1, kb_1, rfl, N20, K20, Vx22⟩
theorem d10_0 : decode jdk_52_method_21_code 0 = .ok (.iconst 0, 1) := by decide +kernel
theorem d10_1 : decode jdk_52_method_21_code 1 = .ok (.istore 5, 2) := by decide +kernel
theorem d10_3 : decode jdk_52_method_21_code 3 = .ok (.iload 5, 2) := by decide +kernel
theorem d10_5 : decode jdk_52_method_21_code 5 = .ok (.iload 4, 2) := by decide +kernel
theorem d10_7 : decode jdk_52_method_21_code 7 = .ok (.if_icmp .ge 37, 3) := by decide +kernel
theorem d10_10 : decode jdk_52_method_21_code 10 = .ok (.aload_n 0, 1) := by decide +kernel
theorem d10_11 : decode jdk_52_method_21_code 11 = .ok (.iload_n 1, 1) := by decide +kernel
theorem d10_12 : decode jdk_52_method_21_code 12 = .ok (.caload, 1) := by decide +kernel
theorem d10_13 : decode jdk_52_method_21_code 13 = .ok (.istore 6, 2) := by decide +kernel
theorem d10_15 : decode jdk_52_method_21_code 15 = .ok (.iload 6, 2) := by decide +kernel
theorem d10_17 : decode jdk_52_method_21_code 17 = .ok (.sipush 255, 3) := by decide +kernel
theorem d10_20 : decode jdk_52_method_21_code 20 = .ok (.if_icmp .le 6, 3) := by decide +kernel
theorem d10_26 : decode jdk_52_method_21_code 26 = .ok (.aload_n 2, 1) := by decide +kernel
theorem d10_27 : decode jdk_52_method_21_code 27 = .ok (.iload_n 3, 1) := by decide +kernel
theorem d10_28 : decode jdk_52_method_21_code 28 = .ok (.iload 6, 2) := by decide +kernel
theorem d10_30 : decode jdk_52_method_21_code 30 = .ok (.i2b, 1) := by decide +kernel
theorem d10_31 : decode jdk_52_method_21_code 31 = .ok (.bastore, 1) := by decide +kernel
theorem d10_32 : decode jdk_52_method_21_code 32 = .ok (.iinc 1 1, 3) := by decide +kernel
theorem d10_35 : decode jdk_52_method_21_code 35 = .ok (.iinc 3 1, 3) := by decide +kernel
theorem d10_38 : decode jdk_52_method_21_code 38 = .ok (.iinc 5 1, 3) := by decide +kernel
theorem d10_41 : decode jdk_52_method_21_code 41 = .ok (.goto (-38), 3) := by decide +kernel
theorem d10_44 : decode jdk_52_method_21_code 44 = .ok (.iload 4, 2) := by decide +kernel
theorem d10_46 : decode jdk_52_method_21_code 46 = .ok (.ireturn, 1) := by decide +kernel
theorem ef_rmInn1_a (m : MethodId) (ca : Addr) (da : Addr) : entryFrame m #[(.ref ca), (.int 0), (.ref da), (.int 0), (.int 1)] 7 = mkF m 0 #[.val (.ref ca), .val (.int 0), .val (.ref da), .val (.int 0), .val (.int 1), .unset, .unset] [] := by first | (simp [entryFrame, mkF, argsToLocals, Value.category]; done) | rfl
def Q_rmInn1_a (Z : State) (ca : Addr) (kc : ClassId) (da : Addr) (kd : ClassId) (c0 : Int32) (h0 : Heap) (n0 : Nat) (v : Option Value) (h : Heap) (L : List Loc) : Prop := v = some (.int 1) ∧ Fr n0 L ∧ Keep h0 h [da] ∧ Arv Z h da kd .byte (1 : Int32) [(.int (own_lo c0))] (.int 0)
set_option maxRecDepth 65536 in
set_option maxHeartbeats 40000000 in
theorem rmInn1_a (l : Launch) (Z : State) (a0 : Array Value) (hw : own_H Z a0) (ws : List Jvm.Cond) (ca : Addr) (kc : ClassId) (da : Addr) (kd : ClassId) (c0 : Int32) (h0 : Heap) (n0 : Nat) (Z0 : n0 ≤ h0.size) (V_ca : Arv Z h0 ca kc .char (1 : Int32) [(.int c0)] (.int 0)) (V_da : Arv Z h0 da kd .byte (1 : Int32) [(.int 0)] (.int 0)) (g_da : n0 ≤ da) (ne_ca_da : ca ≠ da) (hl0 : ¬ (255 : Int32) < c0) :
    own_Met l (⟨"java/lang/StringUTF16", "compress", "([CI[BII)I"⟩ : MethodName) jdk_52_method_21_code 7 (some .int) ws (own_rm 0 0 0 0) Z h0 #[(.ref ca), (.int 0), (.ref da), (.int 0), (.int 1)] (Q_rmInn1_a Z ca kc da kd c0 h0 n0) := by
  refine own_met (plainFor_of_name pn_5) (fun m => ef_rmInn1_a m ca da) ?_
  intro p e s m below meth c s₁ Φ hΦ X0 hx hby hml hown hnm hret hlk hZ e0
  have N0 := Fr.nil n0
  have B : own_B p c _ _ := ⟨hx, hby, hml⟩
  have K0 : Keep h0 h0 [da] := Keep.refl _ _
  show own_G p e below Φ s₁ (mkF m 0 #[.val (.ref ca), .val (.int 0), .val (.ref da), .val (.int 0), .val (.int 1), .unset, .unset] [])
  refine o_iconst X0 B d10_0 ?_
  refine o_istore (L' := #[.val (.ref ca), .val (.int 0), .val (.ref da), .val (.int 0), .val (.int 1), .val (.int 0), .unset]) X0 B d10_1 rfl ?_
  refine o_iload X0 B d10_3 rfl ?_
  refine o_iload X0 B d10_5 rfl ?_
  refine o_icN X0 B d10_7 (XT.ii_ge_f (by decide : ((0 : Int32) < (1 : Int32)))) ?_
  refine o_aloadN X0 B d10_10 rfl rfl ?_
  refine o_iloadN X0 B d10_11 rfl ?_
  obtain ⟨cl1, Ar1, zq1, S1, M1, H1, G1⟩ := id V_ca
  have hin1 : ¬ ((0 : Int32) < 0 ∨ cl1.slots.size ≤ ((0 : Int32)).toNatClampNeg) := inb_of S1 ⟨by decide, by decide⟩
  refine own_go (fun _ => X0.caload hx (j := (0 : Int32)) (v := (.int c0)) (by rw [e0]; exact Ar1.1) (State.isArrayOf_alike hZ.alike Ar1.2.1) Ar1.2.2 hin1 (H1.at hin1 rfl) (g := (mkF m 12 #[.val (.ref ca), .val (.int 0), .val (.ref da), .val (.int 0), .val (.int 1), .val (.int 0), .unset] [(.int 0), (.ref ca)])) rfl rfl (hb hby d10_12) _) ?_
  show own_G p e below Φ s₁ (mkF m 13 #[.val (.ref ca), .val (.int 0), .val (.ref da), .val (.int 0), .val (.int 1), .val (.int 0), .unset] [(.int c0)])
  refine o_istore (L' := #[.val (.ref ca), .val (.int 0), .val (.ref da), .val (.int 0), .val (.int 1), .val (.int 0), .val (.int c0)]) X0 B d10_13 rfl ?_
  refine o_iload X0 B d10_15 rfl ?_
  refine o_sipush X0 B d10_17 ?_
  refine o_icY X0 B 26 d10_20 (XT.ii_le_t hl0) rfl ?_
  refine o_aloadN X0 B d10_26 rfl rfl ?_
  refine o_iloadN X0 B d10_27 rfl ?_
  refine o_iload X0 B d10_28 rfl ?_
  refine own_go (fun _ => XS.i2b X0.here hx rfl (hb hby d10_30) rfl) ?_
  show own_G p e below Φ s₁ (mkF m 31 #[.val (.ref ca), .val (.int 0), .val (.ref da), .val (.int 0), .val (.int 1), .val (.int 0), .val (.int c0)] [(.int (c0.toInt8.toInt32)), (.int 0), (.ref da)])
  obtain ⟨cl2, Ar2, zq2, S2, M2, H2, G2⟩ := id V_da
  have hin2 : ¬ ((0 : Int32) < 0 ∨ cl2.slots.size ≤ ((0 : Int32)).toNatClampNeg) := inb_of S2 ⟨by decide, by decide⟩
  obtain ⟨T2, h2, X2, e2, W2, st2⟩ := stB X0 hx hZ e0 Ar2 (j := (0 : Int32)) hin2 (g := (mkF m 31 #[.val (.ref ca), .val (.int 0), .val (.ref da), .val (.int 0), .val (.int 1), .val (.int 0), .val (.int c0)] [(.int (c0.toInt8.toInt32)), (.int 0), (.ref da)])) rfl rfl (hb hby d10_31)
  refine own_go st2 ?_
  have V2 : Arv Z h2 da kd .byte (1 : Int32) [(.int (nar .byte (c0.toInt8.toInt32)))] (.int 0) := Arv.set Ar2 zq2 S2 M2 H2 G2 (fits_nar_byte (c0.toInt8.toInt32)) W2 0 rfl (Nat.le_of_ble_eq_true rfl)
  have N2 := Fr.snoc X2 N0 g_da
  have K2 := K0.wr W2 (Or.inl (List.mem_of_getElem? (i := 0) rfl))
  have Zp2 : n0 ≤ h2.size := Nat.le_trans Z0 (Keep.of_wr W2).1
  refine o_iinc (L' := #[.val (.ref ca), .val (.int 1), .val (.ref da), .val (.int 0), .val (.int 1), .val (.int 0), .val (.int c0)]) X2 B d10_32 rfl rfl ?_
  refine o_iinc (L' := #[.val (.ref ca), .val (.int 1), .val (.ref da), .val (.int 1), .val (.int 1), .val (.int 0), .val (.int c0)]) X2 B d10_35 rfl rfl ?_
  refine o_iinc (L' := #[.val (.ref ca), .val (.int 1), .val (.ref da), .val (.int 1), .val (.int 1), .val (.int 1), .val (.int c0)]) X2 B d10_38 rfl rfl ?_
  refine o_goto X2 B 3 d10_41 rfl ?_
  refine o_iload X2 B d10_3 rfl ?_
  refine o_iload X2 B d10_5 rfl ?_
  refine o_icY X2 B 44 d10_7 (XT.ii_ge_t (by decide : ¬ ((1 : Int32) < (1 : Int32)))) rfl ?_
  show own_G p e below Φ T2 (mkF m 44 #[.val (.ref ca), .val (.int 1), .val (.ref da), .val (.int 1), .val (.int 1), .val (.int 1), .val (.int c0)] [])
  refine o_iload X2 B d10_44 rfl ?_
  rw [hΦ]
  refine own_ret X2 (v := some (.int 1)) (own_nr hret) hlk (fun fs hr => retOut X2 hx hret rfl (Or.inl ⟨rfl, Or.inl rfl, _, rfl⟩) (hb hby d10_46) hr) ?_ (by decide) (by decide)
  rw [e2]
  exact ⟨rfl, N2, K2, V2⟩
theorem d10_23 : decode jdk_52_method_21_code 23 = .ok (.iload 5, 2) := by decide +kernel
theorem d10_25 : decode jdk_52_method_21_code 25 = .ok (.ireturn, 1) := by decide +kernel
theorem ef_rmInn1_0 (m : MethodId) (ca : Addr) (da : Addr) : entryFrame m #[(.ref ca), (.int 0), (.ref da), (.int 0), (.int 1)] 7 = mkF m 0 #[.val (.ref ca), .val (.int 0), .val (.ref da), .val (.int 0), .val (.int 1), .unset, .unset] [] := by first | (simp [entryFrame, mkF, argsToLocals, Value.category]; done) | rfl
def Q_rmInn1_0 (Z : State) (ca : Addr) (kc : ClassId) (da : Addr) (kd : ClassId) (c0 : Int32) (h0 : Heap) (n0 : Nat) (v : Option Value) (h : Heap) (L : List Loc) : Prop := v = some (.int 0) ∧ Fr n0 L ∧ Keep h0 h [da] ∧ Arv Z h da kd .byte (1 : Int32) [(.int 0)] (.int 0)
set_option maxRecDepth 65536 in
set_option maxHeartbeats 40000000 in
theorem rmInn1_0 (l : Launch) (Z : State) (a0 : Array Value) (hw : own_H Z a0) (ws : List Jvm.Cond) (ca : Addr) (kc : ClassId) (da : Addr) (kd : ClassId) (c0 : Int32) (h0 : Heap) (n0 : Nat) (Z0 : n0 ≤ h0.size) (V_ca : Arv Z h0 ca kc .char (1 : Int32) [(.int c0)] (.int 0)) (V_da : Arv Z h0 da kd .byte (1 : Int32) [(.int 0)] (.int 0)) (g_da : n0 ≤ da) (ne_ca_da : ca ≠ da) (hg0 : (255 : Int32) < c0) :
    own_Met l (⟨"java/lang/StringUTF16", "compress", "([CI[BII)I"⟩ : MethodName) jdk_52_method_21_code 7 (some .int) ws (own_rm 0 0 0 0) Z h0 #[(.ref ca), (.int 0), (.ref da), (.int 0), (.int 1)] (Q_rmInn1_0 Z ca kc da kd c0 h0 n0) := by
  refine own_met (plainFor_of_name pn_5) (fun m => ef_rmInn1_0 m ca da) ?_
  intro p e s m below meth c s₁ Φ hΦ X0 hx hby hml hown hnm hret hlk hZ e0
  have N0 := Fr.nil n0
  have B : own_B p c _ _ := ⟨hx, hby, hml⟩
  have K0 : Keep h0 h0 [da] := Keep.refl _ _
  show own_G p e below Φ s₁ (mkF m 0 #[.val (.ref ca), .val (.int 0), .val (.ref da), .val (.int 0), .val (.int 1), .unset, .unset] [])
  refine o_iconst X0 B d10_0 ?_
  refine o_istore (L' := #[.val (.ref ca), .val (.int 0), .val (.ref da), .val (.int 0), .val (.int 1), .val (.int 0), .unset]) X0 B d10_1 rfl ?_
  refine o_iload X0 B d10_3 rfl ?_
  refine o_iload X0 B d10_5 rfl ?_
  refine o_icN X0 B d10_7 (XT.ii_ge_f (by decide : ((0 : Int32) < (1 : Int32)))) ?_
  refine o_aloadN X0 B d10_10 rfl rfl ?_
  refine o_iloadN X0 B d10_11 rfl ?_
  obtain ⟨cl1, Ar1, zq1, S1, M1, H1, G1⟩ := id V_ca
  have hin1 : ¬ ((0 : Int32) < 0 ∨ cl1.slots.size ≤ ((0 : Int32)).toNatClampNeg) := inb_of S1 ⟨by decide, by decide⟩
  refine own_go (fun _ => X0.caload hx (j := (0 : Int32)) (v := (.int c0)) (by rw [e0]; exact Ar1.1) (State.isArrayOf_alike hZ.alike Ar1.2.1) Ar1.2.2 hin1 (H1.at hin1 rfl) (g := (mkF m 12 #[.val (.ref ca), .val (.int 0), .val (.ref da), .val (.int 0), .val (.int 1), .val (.int 0), .unset] [(.int 0), (.ref ca)])) rfl rfl (hb hby d10_12) _) ?_
  show own_G p e below Φ s₁ (mkF m 13 #[.val (.ref ca), .val (.int 0), .val (.ref da), .val (.int 0), .val (.int 1), .val (.int 0), .unset] [(.int c0)])
  refine o_istore (L' := #[.val (.ref ca), .val (.int 0), .val (.ref da), .val (.int 0), .val (.int 1), .val (.int 0), .val (.int c0)]) X0 B d10_13 rfl ?_
  refine o_iload X0 B d10_15 rfl ?_
  refine o_sipush X0 B d10_17 ?_
  refine o_icN X0 B d10_20 (XT.ii_le_f hg0) ?_
  refine o_iload X0 B d10_23 rfl ?_
  rw [hΦ]
  refine own_ret X0 (v := some (.int 0)) (own_nr hret) hlk (fun fs hr => retOut X0 hx hret rfl (Or.inl ⟨rfl, Or.inl rfl, _, rfl⟩) (hb hby d10_25) hr) ?_ (by decide) (by decide)
  rw [e0]
  exact ⟨rfl, N0, K0, V_da⟩
theorem ef_rmInn2_a (m : MethodId) (ca : Addr) (da : Addr) : entryFrame m #[(.ref ca), (.int 0), (.ref da), (.int 0), (.int 2)] 7 = mkF m 0 #[.val (.ref ca), .val (.int 0), .val (.ref da), .val (.int 0), .val (.int 2), .unset, .unset] [] := by first | (simp [entryFrame, mkF, argsToLocals, Value.category]; done) | rfl
def Q_rmInn2_a (Z : State) (ca : Addr) (kc : ClassId) (da : Addr) (kd : ClassId) (c0 : Int32) (c1 : Int32) (h0 : Heap) (n0 : Nat) (v : Option Value) (h : Heap) (L : List Loc) : Prop := v = some (.int 2) ∧ Fr n0 L ∧ Keep h0 h [da] ∧ Arv Z h da kd .byte (2 : Int32) [(.int (own_lo c0)), (.int (own_lo c1))] (.int 0)
set_option maxRecDepth 65536 in
set_option maxHeartbeats 40000000 in
theorem rmInn2_a (l : Launch) (Z : State) (a0 : Array Value) (hw : own_H Z a0) (ws : List Jvm.Cond) (ca : Addr) (kc : ClassId) (da : Addr) (kd : ClassId) (c0 : Int32) (c1 : Int32) (h0 : Heap) (n0 : Nat) (Z0 : n0 ≤ h0.size) (V_ca : Arv Z h0 ca kc .char (2 : Int32) [(.int c0), (.int c1)] (.int 0)) (V_da : Arv Z h0 da kd .byte (2 : Int32) [(.int 0), (.int 0)] (.int 0)) (g_da : n0 ≤ da) (ne_ca_da : ca ≠ da) (hl0 : ¬ (255 : Int32) < c0) (hl1 : ¬ (255 : Int32) < c1) :
    own_Met l (⟨"java/lang/StringUTF16", "compress", "([CI[BII)I"⟩ : MethodName) jdk_52_method_21_code 7 (some .int) ws (own_rm 0 0 0 0) Z h0 #[(.ref ca), (.int 0), (.ref da), (.int 0), (.int 2)] (Q_rmInn2_a Z ca kc da kd c0 c1 h0 n0) := by
  refine own_met (plainFor_of_name pn_5) (fun m => ef_rmInn2_a m ca da) ?_
  intro p e s m below meth c s₁ Φ hΦ X0 hx hby hml hown hnm hret hlk hZ e0
  have N0 := Fr.nil n0
  have B : own_B p c _ _ := ⟨hx, hby, hml⟩
  have K0 : Keep h0 h0 [da] := Keep.refl _ _
  show own_G p e below Φ s₁ (mkF m 0 #[.val (.ref ca), .val (.int 0), .val (.ref da), .val (.int 0), .val (.int 2), .unset, .unset] [])
  refine o_iconst X0 B d10_0 ?_
  refine o_istore (L' := #[.val (.ref ca), .val (.int 0), .val (.ref da), .val (.int 0), .val (.int 2), .val (.int 0), .unset]) X0 B d10_1 rfl ?_
  refine o_iload X0 B d10_3 rfl ?_
  refine o_iload X0 B d10_5 rfl ?_
  refine o_icN X0 B d10_7 (XT.ii_ge_f (by decide : ((0 : Int32) < (2 : Int32)))) ?_
  refine o_aloadN X0 B d10_10 rfl rfl ?_
  refine o_iloadN X0 B d10_11 rfl ?_
  obtain ⟨cl1, Ar1, zq1, S1, M1, H1, G1⟩ := id V_ca
  have hin1 : ¬ ((0 : Int32) < 0 ∨ cl1.slots.size ≤ ((0 : Int32)).toNatClampNeg) := inb_of S1 ⟨by decide, by decide⟩
  refine own_go (fun _ => X0.caload hx (j := (0 : Int32)) (v := (.int c0)) (by rw [e0]; exact Ar1.1) (State.isArrayOf_alike hZ.alike Ar1.2.1) Ar1.2.2 hin1 (H1.at hin1 rfl) (g := (mkF m 12 #[.val (.ref ca), .val (.int 0), .val (.ref da), .val (.int 0), .val (.int 2), .val (.int 0), .unset] [(.int 0), (.ref ca)])) rfl rfl (hb hby d10_12) _) ?_
  show own_G p e below Φ s₁ (mkF m 13 #[.val (.ref ca), .val (.int 0), .val (.ref da), .val (.int 0), .val (.int 2), .val (.int 0), .unset] [(.int c0)])
  refine o_istore (L' := #[.val (.ref ca), .val (.int 0), .val (.ref da), .val (.int 0), .val (.int 2), .val (.int 0), .val (.int c0)]) X0 B d10_13 rfl ?_
  refine o_iload X0 B d10_15 rfl ?_
  refine o_sipush X0 B d10_17 ?_
  refine o_icY X0 B 26 d10_20 (XT.ii_le_t hl0) rfl ?_
  refine o_aloadN X0 B d10_26 rfl rfl ?_
  refine o_iloadN X0 B d10_27 rfl ?_
  refine o_iload X0 B d10_28 rfl ?_
  refine own_go (fun _ => XS.i2b X0.here hx rfl (hb hby d10_30) rfl) ?_
  show own_G p e below Φ s₁ (mkF m 31 #[.val (.ref ca), .val (.int 0), .val (.ref da), .val (.int 0), .val (.int 2), .val (.int 0), .val (.int c0)] [(.int (c0.toInt8.toInt32)), (.int 0), (.ref da)])
  obtain ⟨cl2, Ar2, zq2, S2, M2, H2, G2⟩ := id V_da
  have hin2 : ¬ ((0 : Int32) < 0 ∨ cl2.slots.size ≤ ((0 : Int32)).toNatClampNeg) := inb_of S2 ⟨by decide, by decide⟩
  obtain ⟨T2, h2, X2, e2, W2, st2⟩ := stB X0 hx hZ e0 Ar2 (j := (0 : Int32)) hin2 (g := (mkF m 31 #[.val (.ref ca), .val (.int 0), .val (.ref da), .val (.int 0), .val (.int 2), .val (.int 0), .val (.int c0)] [(.int (c0.toInt8.toInt32)), (.int 0), (.ref da)])) rfl rfl (hb hby d10_31)
  refine own_go st2 ?_
  have V2 : Arv Z h2 da kd .byte (2 : Int32) [(.int (nar .byte (c0.toInt8.toInt32))), (.int 0)] (.int 0) := Arv.set Ar2 zq2 S2 M2 H2 G2 (fits_nar_byte (c0.toInt8.toInt32)) W2 0 rfl (Nat.le_of_ble_eq_true rfl)
  have N2 := Fr.snoc X2 N0 g_da
  have K2 := K0.wr W2 (Or.inl (List.mem_of_getElem? (i := 0) rfl))
  have Zp2 : n0 ≤ h2.size := Nat.le_trans Z0 (Keep.of_wr W2).1
  refine o_iinc (L' := #[.val (.ref ca), .val (.int 1), .val (.ref da), .val (.int 0), .val (.int 2), .val (.int 0), .val (.int c0)]) X2 B d10_32 rfl rfl ?_
  refine o_iinc (L' := #[.val (.ref ca), .val (.int 1), .val (.ref da), .val (.int 1), .val (.int 2), .val (.int 0), .val (.int c0)]) X2 B d10_35 rfl rfl ?_
  refine o_iinc (L' := #[.val (.ref ca), .val (.int 1), .val (.ref da), .val (.int 1), .val (.int 2), .val (.int 1), .val (.int c0)]) X2 B d10_38 rfl rfl ?_
  refine o_goto X2 B 3 d10_41 rfl ?_
  refine o_iload X2 B d10_3 rfl ?_
  refine o_iload X2 B d10_5 rfl ?_
  refine o_icN X2 B d10_7 (XT.ii_ge_f (by decide : ((1 : Int32) < (2 : Int32)))) ?_
  show own_G p e below Φ T2 (mkF m 10 #[.val (.ref ca), .val (.int 1), .val (.ref da), .val (.int 1), .val (.int 2), .val (.int 1), .val (.int c0)] [])
  refine o_aloadN X2 B d10_10 rfl rfl ?_
  refine o_iloadN X2 B d10_11 rfl ?_
  have f3 : Arv Z h2 ca kc .char (2 : Int32) [(.int c0), (.int c1)] (.int 0) := V_ca.other W2 ne_ca_da
  obtain ⟨cl4, Ar4, zq4, S4, M4, H4, G4⟩ := id f3
  have hin4 : ¬ ((1 : Int32) < 0 ∨ cl4.slots.size ≤ ((1 : Int32)).toNatClampNeg) := inb_of S4 ⟨by decide, by decide⟩
  refine own_go (fun _ => X2.caload hx (j := (1 : Int32)) (v := (.int c1)) (by rw [e2]; exact Ar4.1) (State.isArrayOf_alike hZ.alike Ar4.2.1) Ar4.2.2 hin4 (H4.at hin4 rfl) (g := (mkF m 12 #[.val (.ref ca), .val (.int 1), .val (.ref da), .val (.int 1), .val (.int 2), .val (.int 1), .val (.int c0)] [(.int 1), (.ref ca)])) rfl rfl (hb hby d10_12) _) ?_
  refine o_istore (L' := #[.val (.ref ca), .val (.int 1), .val (.ref da), .val (.int 1), .val (.int 2), .val (.int 1), .val (.int c1)]) X2 B d10_13 rfl ?_
  refine o_iload X2 B d10_15 rfl ?_
  show own_G p e below Φ T2 (mkF m 17 #[.val (.ref ca), .val (.int 1), .val (.ref da), .val (.int 1), .val (.int 2), .val (.int 1), .val (.int c1)] [(.int c1)])
  refine o_sipush X2 B d10_17 ?_
  refine o_icY X2 B 26 d10_20 (XT.ii_le_t hl1) rfl ?_
  refine o_aloadN X2 B d10_26 rfl rfl ?_
  refine o_iloadN X2 B d10_27 rfl ?_
  refine o_iload X2 B d10_28 rfl ?_
  refine own_go (fun _ => XS.i2b X2.here hx rfl (hb hby d10_30) rfl) ?_
  show own_G p e below Φ T2 (mkF m 31 #[.val (.ref ca), .val (.int 1), .val (.ref da), .val (.int 1), .val (.int 2), .val (.int 1), .val (.int c1)] [(.int (c1.toInt8.toInt32)), (.int 1), (.ref da)])
  obtain ⟨cl5, Ar5, zq5, S5, M5, H5, G5⟩ := id V2
  have hin5 : ¬ ((1 : Int32) < 0 ∨ cl5.slots.size ≤ ((1 : Int32)).toNatClampNeg) := inb_of S5 ⟨by decide, by decide⟩
  obtain ⟨T5, h5, X5, e5, W5, st5⟩ := stB X2 hx hZ e2 Ar5 (j := (1 : Int32)) hin5 (g := (mkF m 31 #[.val (.ref ca), .val (.int 1), .val (.ref da), .val (.int 1), .val (.int 2), .val (.int 1), .val (.int c1)] [(.int (c1.toInt8.toInt32)), (.int 1), (.ref da)])) rfl rfl (hb hby d10_31)
  refine own_go st5 ?_
  have V5 : Arv Z h5 da kd .byte (2 : Int32) [(.int (nar .byte (c0.toInt8.toInt32))), (.int (nar .byte (c1.toInt8.toInt32)))] (.int 0) := Arv.set Ar5 zq5 S5 M5 H5 G5 (fits_nar_byte (c1.toInt8.toInt32)) W5 1 rfl (Nat.le_of_ble_eq_true rfl)
  have N5 := Fr.snoc X5 N2 g_da
  have K5 := K2.wr W5 (Or.inl (List.mem_of_getElem? (i := 0) rfl))
  have Zp5 : n0 ≤ h5.size := Nat.le_trans Zp2 (Keep.of_wr W5).1
  refine o_iinc (L' := #[.val (.ref ca), .val (.int 2), .val (.ref da), .val (.int 1), .val (.int 2), .val (.int 1), .val (.int c1)]) X5 B d10_32 rfl rfl ?_
  refine o_iinc (L' := #[.val (.ref ca), .val (.int 2), .val (.ref da), .val (.int 2), .val (.int 2), .val (.int 1), .val (.int c1)]) X5 B d10_35 rfl rfl ?_
  refine o_iinc (L' := #[.val (.ref ca), .val (.int 2), .val (.ref da), .val (.int 2), .val (.int 2), .val (.int 2), .val (.int c1)]) X5 B d10_38 rfl rfl ?_
  refine o_goto X5 B 3 d10_41 rfl ?_
  refine o_iload X5 B d10_3 rfl ?_
  refine o_iload X5 B d10_5 rfl ?_
  refine o_icY X5 B 44 d10_7 (XT.ii_ge_t (by decide : ¬ ((2 : Int32) < (2 : Int32)))) rfl ?_
  show own_G p e below Φ T5 (mkF m 44 #[.val (.ref ca), .val (.int 2), .val (.ref da), .val (.int 2), .val (.int 2), .val (.int 2), .val (.int c1)] [])
  refine o_iload X5 B d10_44 rfl ?_
  rw [hΦ]
  refine own_ret X5 (v := some (.int 2)) (own_nr hret) hlk (fun fs hr => retOut X5 hx hret rfl (Or.inl ⟨rfl, Or.inl rfl, _, rfl⟩) (hb hby d10_46) hr) ?_ (by decide) (by decide)
  rw [e5]
  exact ⟨rfl, N5, K5, V5⟩
theorem ef_rmInn2_0 (m : MethodId) (ca : Addr) (da : Addr) : entryFrame m #[(.ref ca), (.int 0), (.ref da), (.int 0), (.int 2)] 7 = mkF m 0 #[.val (.ref ca), .val (.int 0), .val (.ref da), .val (.int 0), .val (.int 2), .unset, .unset] [] := by first | (simp [entryFrame, mkF, argsToLocals, Value.category]; done) | rfl
def Q_rmInn2_0 (Z : State) (ca : Addr) (kc : ClassId) (da : Addr) (kd : ClassId) (c0 : Int32) (c1 : Int32) (h0 : Heap) (n0 : Nat) (v : Option Value) (h : Heap) (L : List Loc) : Prop := v = some (.int 0) ∧ Fr n0 L ∧ Keep h0 h [da] ∧ Arv Z h da kd .byte (2 : Int32) [(.int 0), (.int 0)] (.int 0)
set_option maxRecDepth 65536 in
set_option maxHeartbeats 40000000 in
theorem rmInn2_0 (l : Launch) (Z : State) (a0 : Array Value) (hw : own_H Z a0) (ws : List Jvm.Cond) (ca : Addr) (kc : ClassId) (da : Addr) (kd : ClassId) (c0 : Int32) (c1 : Int32) (h0 : Heap) (n0 : Nat) (Z0 : n0 ≤ h0.size) (V_ca : Arv Z h0 ca kc .char (2 : Int32) [(.int c0), (.int c1)] (.int 0)) (V_da : Arv Z h0 da kd .byte (2 : Int32) [(.int 0), (.int 0)] (.int 0)) (g_da : n0 ≤ da) (ne_ca_da : ca ≠ da) (hg0 : (255 : Int32) < c0) :
    own_Met l (⟨"java/lang/StringUTF16", "compress", "([CI[BII)I"⟩ : MethodName) jdk_52_method_21_code 7 (some .int) ws (own_rm 0 0 0 0) Z h0 #[(.ref ca), (.int 0), (.ref da), (.int 0), (.int 2)] (Q_rmInn2_0 Z ca kc da kd c0 c1 h0 n0) := by
  refine own_met (plainFor_of_name pn_5) (fun m => ef_rmInn2_0 m ca da) ?_
  intro p e s m below meth c s₁ Φ hΦ X0 hx hby hml hown hnm hret hlk hZ e0
  have N0 := Fr.nil n0
  have B : own_B p c _ _ := ⟨hx, hby, hml⟩
  have K0 : Keep h0 h0 [da] := Keep.refl _ _
  show own_G p e below Φ s₁ (mkF m 0 #[.val (.ref ca), .val (.int 0), .val (.ref da), .val (.int 0), .val (.int 2), .unset, .unset] [])
  refine o_iconst X0 B d10_0 ?_
  refine o_istore (L' := #[.val (.ref ca), .val (.int 0), .val (.ref da), .val (.int 0), .val (.int 2), .val (.int 0), .unset]) X0 B d10_1 rfl ?_
  refine o_iload X0 B d10_3 rfl ?_
  refine o_iload X0 B d10_5 rfl ?_
  refine o_icN X0 B d10_7 (XT.ii_ge_f (by decide : ((0 : Int32) < (2 : Int32)))) ?_
  refine o_aloadN X0 B d10_10 rfl rfl ?_
  refine o_iloadN X0 B d10_11 rfl ?_
  obtain ⟨cl1, Ar1, zq1, S1, M1, H1, G1⟩ := id V_ca
  have hin1 : ¬ ((0 : Int32) < 0 ∨ cl1.slots.size ≤ ((0 : Int32)).toNatClampNeg) := inb_of S1 ⟨by decide, by decide⟩
  refine own_go (fun _ => X0.caload hx (j := (0 : Int32)) (v := (.int c0)) (by rw [e0]; exact Ar1.1) (State.isArrayOf_alike hZ.alike Ar1.2.1) Ar1.2.2 hin1 (H1.at hin1 rfl) (g := (mkF m 12 #[.val (.ref ca), .val (.int 0), .val (.ref da), .val (.int 0), .val (.int 2), .val (.int 0), .unset] [(.int 0), (.ref ca)])) rfl rfl (hb hby d10_12) _) ?_
  show own_G p e below Φ s₁ (mkF m 13 #[.val (.ref ca), .val (.int 0), .val (.ref da), .val (.int 0), .val (.int 2), .val (.int 0), .unset] [(.int c0)])
  refine o_istore (L' := #[.val (.ref ca), .val (.int 0), .val (.ref da), .val (.int 0), .val (.int 2), .val (.int 0), .val (.int c0)]) X0 B d10_13 rfl ?_
  refine o_iload X0 B d10_15 rfl ?_
  refine o_sipush X0 B d10_17 ?_
  refine o_icN X0 B d10_20 (XT.ii_le_f hg0) ?_
  refine o_iload X0 B d10_23 rfl ?_
  rw [hΦ]
  refine own_ret X0 (v := some (.int 0)) (own_nr hret) hlk (fun fs hr => retOut X0 hx hret rfl (Or.inl ⟨rfl, Or.inl rfl, _, rfl⟩) (hb hby d10_25) hr) ?_ (by decide) (by decide)
  rw [e0]
  exact ⟨rfl, N0, K0, V_da⟩
theorem ef_rmInn2_1 (m : MethodId) (ca : Addr) (da : Addr) : entryFrame m #[(.ref ca), (.int 0), (.ref da), (.int 0), (.int 2)] 7 = mkF m 0 #[.val (.ref ca), .val (.int 0), .val (.ref da), .val (.int 0), .val (.int 2), .unset, .unset] [] := by first | (simp [entryFrame, mkF, argsToLocals, Value.category]; done) | rfl
def Q_rmInn2_1 (Z : State) (ca : Addr) (kc : ClassId) (da : Addr) (kd : ClassId) (c0 : Int32) (c1 : Int32) (h0 : Heap) (n0 : Nat) (v : Option Value) (h : Heap) (L : List Loc) : Prop := v = some (.int 1) ∧ Fr n0 L ∧ Keep h0 h [da] ∧ Arv Z h da kd .byte (2 : Int32) [(.int (own_lo c0)), (.int 0)] (.int 0)
set_option maxRecDepth 65536 in
set_option maxHeartbeats 40000000 in
theorem rmInn2_1 (l : Launch) (Z : State) (a0 : Array Value) (hw : own_H Z a0) (ws : List Jvm.Cond) (ca : Addr) (kc : ClassId) (da : Addr) (kd : ClassId) (c0 : Int32) (c1 : Int32) (h0 : Heap) (n0 : Nat) (Z0 : n0 ≤ h0.size) (V_ca : Arv Z h0 ca kc .char (2 : Int32) [(.int c0), (.int c1)] (.int 0)) (V_da : Arv Z h0 da kd .byte (2 : Int32) [(.int 0), (.int 0)] (.int 0)) (g_da : n0 ≤ da) (ne_ca_da : ca ≠ da) (hl0 : ¬ (255 : Int32) < c0) (hg1 : (255 : Int32) < c1) :
    own_Met l (⟨"java/lang/StringUTF16", "compress", "([CI[BII)I"⟩ : MethodName) jdk_52_method_21_code 7 (some .int) ws (own_rm 0 0 0 0) Z h0 #[(.ref ca), (.int 0), (.ref da), (.int 0), (.int 2)] (Q_rmInn2_1 Z ca kc da kd c0 c1 h0 n0) := by
  refine own_met (plainFor_of_name pn_5) (fun m => ef_rmInn2_1 m ca da) ?_
  intro p e s m below meth c s₁ Φ hΦ X0 hx hby hml hown hnm hret hlk hZ e0
  have N0 := Fr.nil n0
  have B : own_B p c _ _ := ⟨hx, hby, hml⟩
  have K0 : Keep h0 h0 [da] := Keep.refl _ _
  show own_G p e below Φ s₁ (mkF m 0 #[.val (.ref ca), .val (.int 0), .val (.ref da), .val (.int 0), .val (.int 2), .unset, .unset] [])
  refine o_iconst X0 B d10_0 ?_
  refine o_istore (L' := #[.val (.ref ca), .val (.int 0), .val (.ref da), .val (.int 0), .val (.int 2), .val (.int 0), .unset]) X0 B d10_1 rfl ?_
  refine o_iload X0 B d10_3 rfl ?_
  refine o_iload X0 B d10_5 rfl ?_
  refine o_icN X0 B d10_7 (XT.ii_ge_f (by decide : ((0 : Int32) < (2 : Int32)))) ?_
  refine o_aloadN X0 B d10_10 rfl rfl ?_
  refine o_iloadN X0 B d10_11 rfl ?_
  obtain ⟨cl1, Ar1, zq1, S1, M1, H1, G1⟩ := id V_ca
  have hin1 : ¬ ((0 : Int32) < 0 ∨ cl1.slots.size ≤ ((0 : Int32)).toNatClampNeg) := inb_of S1 ⟨by decide, by decide⟩
  refine own_go (fun _ => X0.caload hx (j := (0 : Int32)) (v := (.int c0)) (by rw [e0]; exact Ar1.1) (State.isArrayOf_alike hZ.alike Ar1.2.1) Ar1.2.2 hin1 (H1.at hin1 rfl) (g := (mkF m 12 #[.val (.ref ca), .val (.int 0), .val (.ref da), .val (.int 0), .val (.int 2), .val (.int 0), .unset] [(.int 0), (.ref ca)])) rfl rfl (hb hby d10_12) _) ?_
  show own_G p e below Φ s₁ (mkF m 13 #[.val (.ref ca), .val (.int 0), .val (.ref da), .val (.int 0), .val (.int 2), .val (.int 0), .unset] [(.int c0)])
  refine o_istore (L' := #[.val (.ref ca), .val (.int 0), .val (.ref da), .val (.int 0), .val (.int 2), .val (.int 0), .val (.int c0)]) X0 B d10_13 rfl ?_
  refine o_iload X0 B d10_15 rfl ?_
  refine o_sipush X0 B d10_17 ?_
  refine o_icY X0 B 26 d10_20 (XT.ii_le_t hl0) rfl ?_
  refine o_aloadN X0 B d10_26 rfl rfl ?_
  refine o_iloadN X0 B d10_27 rfl ?_
  refine o_iload X0 B d10_28 rfl ?_
  refine own_go (fun _ => XS.i2b X0.here hx rfl (hb hby d10_30) rfl) ?_
  show own_G p e below Φ s₁ (mkF m 31 #[.val (.ref ca), .val (.int 0), .val (.ref da), .val (.int 0), .val (.int 2), .val (.int 0), .val (.int c0)] [(.int (c0.toInt8.toInt32)), (.int 0), (.ref da)])
  obtain ⟨cl2, Ar2, zq2, S2, M2, H2, G2⟩ := id V_da
  have hin2 : ¬ ((0 : Int32) < 0 ∨ cl2.slots.size ≤ ((0 : Int32)).toNatClampNeg) := inb_of S2 ⟨by decide, by decide⟩
  obtain ⟨T2, h2, X2, e2, W2, st2⟩ := stB X0 hx hZ e0 Ar2 (j := (0 : Int32)) hin2 (g := (mkF m 31 #[.val (.ref ca), .val (.int 0), .val (.ref da), .val (.int 0), .val (.int 2), .val (.int 0), .val (.int c0)] [(.int (c0.toInt8.toInt32)), (.int 0), (.ref da)])) rfl rfl (hb hby d10_31)
  refine own_go st2 ?_
  have V2 : Arv Z h2 da kd .byte (2 : Int32) [(.int (nar .byte (c0.toInt8.toInt32))), (.int 0)] (.int 0) := Arv.set Ar2 zq2 S2 M2 H2 G2 (fits_nar_byte (c0.toInt8.toInt32)) W2 0 rfl (Nat.le_of_ble_eq_true rfl)
  have N2 := Fr.snoc X2 N0 g_da
  have K2 := K0.wr W2 (Or.inl (List.mem_of_getElem? (i := 0) rfl))
  have Zp2 : n0 ≤ h2.size := Nat.le_trans Z0 (Keep.of_wr W2).1
  refine o_iinc (L' := #[.val (.ref ca), .val (.int 1), .val (.ref da), .val (.int 0), .val (.int 2), .val (.int 0), .val (.int c0)]) X2 B d10_32 rfl rfl ?_
  refine o_iinc (L' := #[.val (.ref ca), .val (.int 1), .val (.ref da), .val (.int 1), .val (.int 2), .val (.int 0), .val (.int c0)]) X2 B d10_35 rfl rfl ?_
  refine o_iinc (L' := #[.val (.ref ca), .val (.int 1), .val (.ref da), .val (.int 1), .val (.int 2), .val (.int 1), .val (.int c0)]) X2 B d10_38 rfl rfl ?_
  refine o_goto X2 B 3 d10_41 rfl ?_
  refine o_iload X2 B d10_3 rfl ?_
  refine o_iload X2 B d10_5 rfl ?_
  refine o_icN X2 B d10_7 (XT.ii_ge_f (by decide : ((1 : Int32) < (2 : Int32)))) ?_
  show own_G p e below Φ T2 (mkF m 10 #[.val (.ref ca), .val (.int 1), .val (.ref da), .val (.int 1), .val (.int 2), .val (.int 1), .val (.int c0)] [])
  refine o_aloadN X2 B d10_10 rfl rfl ?_
  refine o_iloadN X2 B d10_11 rfl ?_
  have f3 : Arv Z h2 ca kc .char (2 : Int32) [(.int c0), (.int c1)] (.int 0) := V_ca.other W2 ne_ca_da
  obtain ⟨cl4, Ar4, zq4, S4, M4, H4, G4⟩ := id f3
  have hin4 : ¬ ((1 : Int32) < 0 ∨ cl4.slots.size ≤ ((1 : Int32)).toNatClampNeg) := inb_of S4 ⟨by decide, by decide⟩
  refine own_go (fun _ => X2.caload hx (j := (1 : Int32)) (v := (.int c1)) (by rw [e2]; exact Ar4.1) (State.isArrayOf_alike hZ.alike Ar4.2.1) Ar4.2.2 hin4 (H4.at hin4 rfl) (g := (mkF m 12 #[.val (.ref ca), .val (.int 1), .val (.ref da), .val (.int 1), .val (.int 2), .val (.int 1), .val (.int c0)] [(.int 1), (.ref ca)])) rfl rfl (hb hby d10_12) _) ?_
  refine o_istore (L' := #[.val (.ref ca), .val (.int 1), .val (.ref da), .val (.int 1), .val (.int 2), .val (.int 1), .val (.int c1)]) X2 B d10_13 rfl ?_
  refine o_iload X2 B d10_15 rfl ?_
  show own_G p e below Φ T2 (mkF m 17 #[.val (.ref ca), .val (.int 1), .val (.ref da), .val (.int 1), .val (.int 2), .val (.int 1), .val (.int c1)] [(.int c1)])
  refine o_sipush X2 B d10_17 ?_
  refine o_icN X2 B d10_20 (XT.ii_le_f hg1) ?_
  refine o_iload X2 B d10_23 rfl ?_
  rw [hΦ]
  refine own_ret X2 (v := some (.int 1)) (own_nr hret) hlk (fun fs hr => retOut X2 hx hret rfl (Or.inl ⟨rfl, Or.inl rfl, _, rfl⟩) (hb hby d10_25) hr) ?_ (by decide) (by decide)
  rw [e2]
  exact ⟨rfl, N2, K2, V2⟩
theorem ef_rmInn3_a (m : MethodId) (ca : Addr) (da : Addr) : entryFrame m #[(.ref ca), (.int 0), (.ref da), (.int 0), (.int 3)] 7 = mkF m 0 #[.val (.ref ca), .val (.int 0), .val (.ref da), .val (.int 0), .val (.int 3), .unset, .unset] [] := by first | (simp [entryFrame, mkF, argsToLocals, Value.category]; done) | rfl
def Q_rmInn3_a (Z : State) (ca : Addr) (kc : ClassId) (da : Addr) (kd : ClassId) (c0 : Int32) (c1 : Int32) (c2 : Int32) (h0 : Heap) (n0 : Nat) (v : Option Value) (h : Heap) (L : List Loc) : Prop := v = some (.int 3) ∧ Fr n0 L ∧ Keep h0 h [da] ∧ Arv Z h da kd .byte (3 : Int32) [(.int (own_lo c0)), (.int (own_lo c1)), (.int (own_lo c2))] (.int 0)
set_option maxRecDepth 65536 in
set_option maxHeartbeats 40000000 in
theorem rmInn3_a (l : Launch) (Z : State) (a0 : Array Value) (hw : own_H Z a0) (ws : List Jvm.Cond) (ca : Addr) (kc : ClassId) (da : Addr) (kd : ClassId) (c0 : Int32) (c1 : Int32) (c2 : Int32) (h0 : Heap) (n0 : Nat) (Z0 : n0 ≤ h0.size) (V_ca : Arv Z h0 ca kc .char (3 : Int32) [(.int c0), (.int c1), (.int c2)] (.int 0)) (V_da : Arv Z h0 da kd .byte (3 : Int32) [(.int 0), (.int 0), (.int 0)] (.int 0)) (g_da : n0 ≤ da) (ne_ca_da : ca ≠ da) (hl0 : ¬ (255 : Int32) < c0) (hl1 : ¬ (255 : Int32) < c1) (hl2 : ¬ (255 : Int32) < c2) :
    own_Met l (⟨"java/lang/StringUTF16", "compress", "([CI[BII)I"⟩ : MethodName) jdk_52_method_21_code 7 (some .int) ws (own_rm 0 0 0 0) Z h0 #[(.ref ca), (.int 0), (.ref da), (.int 0), (.int 3)] (Q_rmInn3_a Z ca kc da kd c0 c1 c2 h0 n0) := by
  refine own_met (plainFor_of_name pn_5) (fun m => ef_rmInn3_a m ca da) ?_
  intro p e s m below meth c s₁ Φ hΦ X0 hx hby hml hown hnm hret hlk hZ e0
  have N0 := Fr.nil n0
  have B : own_B p c _ _ := ⟨hx, hby, hml⟩
  have K0 : Keep h0 h0 [da] := Keep.refl _ _
  show own_G p e below Φ s₁ (mkF m 0 #[.val (.ref ca), .val (.int 0), .val (.ref da), .val (.int 0), .val (.int 3), .unset, .unset] [])
  refine o_iconst X0 B d10_0 ?_
  refine o_istore (L' := #[.val (.ref ca), .val (.int 0), .val (.ref da), .val (.int 0), .val (.int 3), .val (.int 0), .unset]) X0 B d10_1 rfl ?_
  refine o_iload X0 B d10_3 rfl ?_
  refine o_iload X0 B d10_5 rfl ?_
  refine o_icN X0 B d10_7 (XT.ii_ge_f (by decide : ((0 : Int32) < (3 : Int32)))) ?_
  refine o_aloadN X0 B d10_10 rfl rfl ?_
  refine o_iloadN X0 B d10_11 rfl ?_
  obtain ⟨cl1, Ar1, zq1, S1, M1, H1, G1⟩ := id V_ca
  have hin1 : ¬ ((0 : Int32) < 0 ∨ cl1.slots.size ≤ ((0 : Int32)).toNatClampNeg) := inb_of S1 ⟨by decide, by decide⟩
  refine own_go (fun _ => X0.caload hx (j := (0 : Int32)) (v := (.int c0)) (by rw [e0]; exact Ar1.1) (State.isArrayOf_alike hZ.alike Ar1.2.1) Ar1.2.2 hin1 (H1.at hin1 rfl) (g := (mkF m 12 #[.val (.ref ca), .val (.int 0), .val (.ref da), .val (.int 0), .val (.int 3), .val (.int 0), .unset] [(.int 0), (.ref ca)])) rfl rfl (hb hby d10_12) _) ?_
  show own_G p e below Φ s₁ (mkF m 13 #[.val (.ref ca), .val (.int 0), .val (.ref da), .val (.int 0), .val (.int 3), .val (.int 0), .unset] [(.int c0)])
  refine o_istore (L' := #[.val (.ref ca), .val (.int 0), .val (.ref da), .val (.int 0), .val (.int 3), .val (.int 0), .val (.int c0)]) X0 B d10_13 rfl ?_
  refine o_iload X0 B d10_15 rfl ?_
  refine o_sipush X0 B d10_17 ?_
  refine o_icY X0 B 26 d10_20 (XT.ii_le_t hl0) rfl ?_
  refine o_aloadN X0 B d10_26 rfl rfl ?_
  refine o_iloadN X0 B d10_27 rfl ?_
  refine o_iload X0 B d10_28 rfl ?_
  refine own_go (fun _ => XS.i2b X0.here hx rfl (hb hby d10_30) rfl) ?_
  show own_G p e below Φ s₁ (mkF m 31 #[.val (.ref ca), .val (.int 0), .val (.ref da), .val (.int 0), .val (.int 3), .val (.int 0), .val (.int c0)] [(.int (c0.toInt8.toInt32)), (.int 0), (.ref da)])
  obtain ⟨cl2, Ar2, zq2, S2, M2, H2, G2⟩ := id V_da
  have hin2 : ¬ ((0 : Int32) < 0 ∨ cl2.slots.size ≤ ((0 : Int32)).toNatClampNeg) := inb_of S2 ⟨by decide, by decide⟩
  obtain ⟨T2, h2, X2, e2, W2, st2⟩ := stB X0 hx hZ e0 Ar2 (j := (0 : Int32)) hin2 (g := (mkF m 31 #[.val (.ref ca), .val (.int 0), .val (.ref da), .val (.int 0), .val (.int 3), .val (.int 0), .val (.int c0)] [(.int (c0.toInt8.toInt32)), (.int 0), (.ref da)])) rfl rfl (hb hby d10_31)
  refine own_go st2 ?_
  have V2 : Arv Z h2 da kd .byte (3 : Int32) [(.int (nar .byte (c0.toInt8.toInt32))), (.int 0), (.int 0)] (.int 0) := Arv.set Ar2 zq2 S2 M2 H2 G2 (fits_nar_byte (c0.toInt8.toInt32)) W2 0 rfl (Nat.le_of_ble_eq_true rfl)
  have N2 := Fr.snoc X2 N0 g_da
  have K2 := K0.wr W2 (Or.inl (List.mem_of_getElem? (i := 0) rfl))
  have Zp2 : n0 ≤ h2.size := Nat.le_trans Z0 (Keep.of_wr W2).1
  refine o_iinc (L' := #[.val (.ref ca), .val (.int 1), .val (.ref da), .val (.int 0), .val (.int 3), .val (.int 0), .val (.int c0)]) X2 B d10_32 rfl rfl ?_
  refine o_iinc (L' := #[.val (.ref ca), .val (.int 1), .val (.ref da), .val (.int 1), .val (.int 3), .val (.int 0), .val (.int c0)]) X2 B d10_35 rfl rfl ?_
  refine o_iinc (L' := #[.val (.ref ca), .val (.int 1), .val (.ref da), .val (.int 1), .val (.int 3), .val (.int 1), .val (.int c0)]) X2 B d10_38 rfl rfl ?_
  refine o_goto X2 B 3 d10_41 rfl ?_
  refine o_iload X2 B d10_3 rfl ?_
  refine o_iload X2 B d10_5 rfl ?_
  refine o_icN X2 B d10_7 (XT.ii_ge_f (by decide : ((1 : Int32) < (3 : Int32)))) ?_
  show own_G p e below Φ T2 (mkF m 10 #[.val (.ref ca), .val (.int 1), .val (.ref da), .val (.int 1), .val (.int 3), .val (.int 1), .val (.int c0)] [])
  refine o_aloadN X2 B d10_10 rfl rfl ?_
  refine o_iloadN X2 B d10_11 rfl ?_
  have f3 : Arv Z h2 ca kc .char (3 : Int32) [(.int c0), (.int c1), (.int c2)] (.int 0) := V_ca.other W2 ne_ca_da
  obtain ⟨cl4, Ar4, zq4, S4, M4, H4, G4⟩ := id f3
  have hin4 : ¬ ((1 : Int32) < 0 ∨ cl4.slots.size ≤ ((1 : Int32)).toNatClampNeg) := inb_of S4 ⟨by decide, by decide⟩
  refine own_go (fun _ => X2.caload hx (j := (1 : Int32)) (v := (.int c1)) (by rw [e2]; exact Ar4.1) (State.isArrayOf_alike hZ.alike Ar4.2.1) Ar4.2.2 hin4 (H4.at hin4 rfl) (g := (mkF m 12 #[.val (.ref ca), .val (.int 1), .val (.ref da), .val (.int 1), .val (.int 3), .val (.int 1), .val (.int c0)] [(.int 1), (.ref ca)])) rfl rfl (hb hby d10_12) _) ?_
  refine o_istore (L' := #[.val (.ref ca), .val (.int 1), .val (.ref da), .val (.int 1), .val (.int 3), .val (.int 1), .val (.int c1)]) X2 B d10_13 rfl ?_
  refine o_iload X2 B d10_15 rfl ?_
  show own_G p e below Φ T2 (mkF m 17 #[.val (.ref ca), .val (.int 1), .val (.ref da), .val (.int 1), .val (.int 3), .val (.int 1), .val (.int c1)] [(.int c1)])
  refine o_sipush X2 B d10_17 ?_
  refine o_icY X2 B 26 d10_20 (XT.ii_le_t hl1) rfl ?_
  refine o_aloadN X2 B d10_26 rfl rfl ?_
  refine o_iloadN X2 B d10_27 rfl ?_
  refine o_iload X2 B d10_28 rfl ?_
  refine own_go (fun _ => XS.i2b X2.here hx rfl (hb hby d10_30) rfl) ?_
  show own_G p e below Φ T2 (mkF m 31 #[.val (.ref ca), .val (.int 1), .val (.ref da), .val (.int 1), .val (.int 3), .val (.int 1), .val (.int c1)] [(.int (c1.toInt8.toInt32)), (.int 1), (.ref da)])
  obtain ⟨cl5, Ar5, zq5, S5, M5, H5, G5⟩ := id V2
  have hin5 : ¬ ((1 : Int32) < 0 ∨ cl5.slots.size ≤ ((1 : Int32)).toNatClampNeg) := inb_of S5 ⟨by decide, by decide⟩
  obtain ⟨T5, h5, X5, e5, W5, st5⟩ := stB X2 hx hZ e2 Ar5 (j := (1 : Int32)) hin5 (g := (mkF m 31 #[.val (.ref ca), .val (.int 1), .val (.ref da), .val (.int 1), .val (.int 3), .val (.int 1), .val (.int c1)] [(.int (c1.toInt8.toInt32)), (.int 1), (.ref da)])) rfl rfl (hb hby d10_31)
  refine own_go st5 ?_
  have V5 : Arv Z h5 da kd .byte (3 : Int32) [(.int (nar .byte (c0.toInt8.toInt32))), (.int (nar .byte (c1.toInt8.toInt32))), (.int 0)] (.int 0) := Arv.set Ar5 zq5 S5 M5 H5 G5 (fits_nar_byte (c1.toInt8.toInt32)) W5 1 rfl (Nat.le_of_ble_eq_true rfl)
  have N5 := Fr.snoc X5 N2 g_da
  have K5 := K2.wr W5 (Or.inl (List.mem_of_getElem? (i := 0) rfl))
  have Zp5 : n0 ≤ h5.size := Nat.le_trans Zp2 (Keep.of_wr W5).1
  refine o_iinc (L' := #[.val (.ref ca), .val (.int 2), .val (.ref da), .val (.int 1), .val (.int 3), .val (.int 1), .val (.int c1)]) X5 B d10_32 rfl rfl ?_
  refine o_iinc (L' := #[.val (.ref ca), .val (.int 2), .val (.ref da), .val (.int 2), .val (.int 3), .val (.int 1), .val (.int c1)]) X5 B d10_35 rfl rfl ?_
  refine o_iinc (L' := #[.val (.ref ca), .val (.int 2), .val (.ref da), .val (.int 2), .val (.int 3), .val (.int 2), .val (.int c1)]) X5 B d10_38 rfl rfl ?_
  refine o_goto X5 B 3 d10_41 rfl ?_
  refine o_iload X5 B d10_3 rfl ?_
  refine o_iload X5 B d10_5 rfl ?_
  refine o_icN X5 B d10_7 (XT.ii_ge_f (by decide : ((2 : Int32) < (3 : Int32)))) ?_
  show own_G p e below Φ T5 (mkF m 10 #[.val (.ref ca), .val (.int 2), .val (.ref da), .val (.int 2), .val (.int 3), .val (.int 2), .val (.int c1)] [])
  refine o_aloadN X5 B d10_10 rfl rfl ?_
  refine o_iloadN X5 B d10_11 rfl ?_
  have f6 : Arv Z h5 ca kc .char (3 : Int32) [(.int c0), (.int c1), (.int c2)] (.int 0) := f3.other W5 ne_ca_da
  obtain ⟨cl7, Ar7, zq7, S7, M7, H7, G7⟩ := id f6
  have hin7 : ¬ ((2 : Int32) < 0 ∨ cl7.slots.size ≤ ((2 : Int32)).toNatClampNeg) := inb_of S7 ⟨by decide, by decide⟩
  refine own_go (fun _ => X5.caload hx (j := (2 : Int32)) (v := (.int c2)) (by rw [e5]; exact Ar7.1) (State.isArrayOf_alike hZ.alike Ar7.2.1) Ar7.2.2 hin7 (H7.at hin7 rfl) (g := (mkF m 12 #[.val (.ref ca), .val (.int 2), .val (.ref da), .val (.int 2), .val (.int 3), .val (.int 2), .val (.int c1)] [(.int 2), (.ref ca)])) rfl rfl (hb hby d10_12) _) ?_
  refine o_istore (L' := #[.val (.ref ca), .val (.int 2), .val (.ref da), .val (.int 2), .val (.int 3), .val (.int 2), .val (.int c2)]) X5 B d10_13 rfl ?_
  refine o_iload X5 B d10_15 rfl ?_
  show own_G p e below Φ T5 (mkF m 17 #[.val (.ref ca), .val (.int 2), .val (.ref da), .val (.int 2), .val (.int 3), .val (.int 2), .val (.int c2)] [(.int c2)])
  refine o_sipush X5 B d10_17 ?_
  refine o_icY X5 B 26 d10_20 (XT.ii_le_t hl2) rfl ?_
  refine o_aloadN X5 B d10_26 rfl rfl ?_
  refine o_iloadN X5 B d10_27 rfl ?_
  refine o_iload X5 B d10_28 rfl ?_
  refine own_go (fun _ => XS.i2b X5.here hx rfl (hb hby d10_30) rfl) ?_
  show own_G p e below Φ T5 (mkF m 31 #[.val (.ref ca), .val (.int 2), .val (.ref da), .val (.int 2), .val (.int 3), .val (.int 2), .val (.int c2)] [(.int (c2.toInt8.toInt32)), (.int 2), (.ref da)])
  obtain ⟨cl8, Ar8, zq8, S8, M8, H8, G8⟩ := id V5
  have hin8 : ¬ ((2 : Int32) < 0 ∨ cl8.slots.size ≤ ((2 : Int32)).toNatClampNeg) := inb_of S8 ⟨by decide, by decide⟩
  obtain ⟨T8, h8, X8, e8, W8, st8⟩ := stB X5 hx hZ e5 Ar8 (j := (2 : Int32)) hin8 (g := (mkF m 31 #[.val (.ref ca), .val (.int 2), .val (.ref da), .val (.int 2), .val (.int 3), .val (.int 2), .val (.int c2)] [(.int (c2.toInt8.toInt32)), (.int 2), (.ref da)])) rfl rfl (hb hby d10_31)
  refine own_go st8 ?_
  have V8 : Arv Z h8 da kd .byte (3 : Int32) [(.int (nar .byte (c0.toInt8.toInt32))), (.int (nar .byte (c1.toInt8.toInt32))), (.int (nar .byte (c2.toInt8.toInt32)))] (.int 0) := Arv.set Ar8 zq8 S8 M8 H8 G8 (fits_nar_byte (c2.toInt8.toInt32)) W8 2 rfl (Nat.le_of_ble_eq_true rfl)
  have N8 := Fr.snoc X8 N5 g_da
  have K8 := K5.wr W8 (Or.inl (List.mem_of_getElem? (i := 0) rfl))
  have Zp8 : n0 ≤ h8.size := Nat.le_trans Zp5 (Keep.of_wr W8).1
  refine o_iinc (L' := #[.val (.ref ca), .val (.int 3), .val (.ref da), .val (.int 2), .val (.int 3), .val (.int 2), .val (.int c2)]) X8 B d10_32 rfl rfl ?_
  refine o_iinc (L' := #[.val (.ref ca), .val (.int 3), .val (.ref da), .val (.int 3), .val (.int 3), .val (.int 2), .val (.int c2)]) X8 B d10_35 rfl rfl ?_
  refine o_iinc (L' := #[.val (.ref ca), .val (.int 3), .val (.ref da), .val (.int 3), .val (.int 3), .val (.int 3), .val (.int c2)]) X8 B d10_38 rfl rfl ?_
  refine o_goto X8 B 3 d10_41 rfl ?_
  refine o_iload X8 B d10_3 rfl ?_
  refine o_iload X8 B d10_5 rfl ?_
  refine o_icY X8 B 44 d10_7 (XT.ii_ge_t (by decide : ¬ ((3 : Int32) < (3 : Int32)))) rfl ?_
  show own_G p e below Φ T8 (mkF m 44 #[.val (.ref ca), .val (.int 3), .val (.ref da), .val (.int 3), .val (.int 3), .val (.int 3), .val (.int c2)] [])
  refine o_iload X8 B d10_44 rfl ?_
  rw [hΦ]
  refine own_ret X8 (v := some (.int 3)) (own_nr hret) hlk (fun fs hr => retOut X8 hx hret rfl (Or.inl ⟨rfl, Or.inl rfl, _, rfl⟩) (hb hby d10_46) hr) ?_ (by decide) (by decide)
  rw [e8]
  exact ⟨rfl, N8, K8, V8⟩
theorem ef_rmInn3_0 (m : MethodId) (ca : Addr) (da : Addr) : entryFrame m #[(.ref ca), (.int 0), (.ref da), (.int 0), (.int 3)] 7 = mkF m 0 #[.val (.ref ca), .val (.int 0), .val (.ref da), .val (.int 0), .val (.int 3), .unset, .unset] [] := by first | (simp [entryFrame, mkF, argsToLocals, Value.category]; done) | rfl
def Q_rmInn3_0 (Z : State) (ca : Addr) (kc : ClassId) (da : Addr) (kd : ClassId) (c0 : Int32) (c1 : Int32) (c2 : Int32) (h0 : Heap) (n0 : Nat) (v : Option Value) (h : Heap) (L : List Loc) : Prop := v = some (.int 0) ∧ Fr n0 L ∧ Keep h0 h [da] ∧ Arv Z h da kd .byte (3 : Int32) [(.int 0), (.int 0), (.int 0)] (.int 0)
set_option maxRecDepth 65536 in
set_option maxHeartbeats 40000000 in
theorem rmInn3_0 (l : Launch) (Z : State) (a0 : Array Value) (hw : own_H Z a0) (ws : List Jvm.Cond) (ca : Addr) (kc : ClassId) (da : Addr) (kd : ClassId) (c0 : Int32) (c1 : Int32) (c2 : Int32) (h0 : Heap) (n0 : Nat) (Z0 : n0 ≤ h0.size) (V_ca : Arv Z h0 ca kc .char (3 : Int32) [(.int c0), (.int c1), (.int c2)] (.int 0)) (V_da : Arv Z h0 da kd .byte (3 : Int32) [(.int 0), (.int 0), (.int 0)] (.int 0)) (g_da : n0 ≤ da) (ne_ca_da : ca ≠ da) (hg0 : (255 : Int32) < c0) :
    own_Met l (⟨"java/lang/StringUTF16", "compress", "([CI[BII)I"⟩ : MethodName) jdk_52_method_21_code 7 (some .int) ws (own_rm 0 0 0 0) Z h0 #[(.ref ca), (.int 0), (.ref da), (.int 0), (.int 3)] (Q_rmInn3_0 Z ca kc da kd c0 c1 c2 h0 n0) := by
  refine own_met (plainFor_of_name pn_5) (fun m => ef_rmInn3_0 m ca da) ?_
  intro p e s m below meth c s₁ Φ hΦ X0 hx hby hml hown hnm hret hlk hZ e0
  have N0 := Fr.nil n0
  have B : own_B p c _ _ := ⟨hx, hby, hml⟩
  have K0 : Keep h0 h0 [da] := Keep.refl _ _
  show own_G p e below Φ s₁ (mkF m 0 #[.val (.ref ca), .val (.int 0), .val (.ref da), .val (.int 0), .val (.int 3), .unset, .unset] [])
  refine o_iconst X0 B d10_0 ?_
  refine o_istore (L' := #[.val (.ref ca), .val (.int 0), .val (.ref da), .val (.int 0), .val (.int 3), .val (.int 0), .unset]) X0 B d10_1 rfl ?_
  refine o_iload X0 B d10_3 rfl ?_
  refine o_iload X0 B d10_5 rfl ?_
  refine o_icN X0 B d10_7 (XT.ii_ge_f (by decide : ((0 : Int32) < (3 : Int32)))) ?_
  refine o_aloadN X0 B d10_10 rfl rfl ?_
  refine o_iloadN X0 B d10_11 rfl ?_
  obtain ⟨cl1, Ar1, zq1, S1, M1, H1, G1⟩ := id V_ca
  have hin1 : ¬ ((0 : Int32) < 0 ∨ cl1.slots.size ≤ ((0 : Int32)).toNatClampNeg) := inb_of S1 ⟨by decide, by decide⟩
  refine own_go (fun _ => X0.caload hx (j := (0 : Int32)) (v := (.int c0)) (by rw [e0]; exact Ar1.1) (State.isArrayOf_alike hZ.alike Ar1.2.1) Ar1.2.2 hin1 (H1.at hin1 rfl) (g := (mkF m 12 #[.val (.ref ca), .val (.int 0), .val (.ref da), .val (.int 0), .val (.int 3), .val (.int 0), .unset] [(.int 0), (.ref ca)])) rfl rfl (hb hby d10_12) _) ?_
  show own_G p e below Φ s₁ (mkF m 13 #[.val (.ref ca), .val (.int 0), .val (.ref da), .val (.int 0), .val (.int 3), .val (.int 0), .unset] [(.int c0)])
  refine o_istore (L' := #[.val (.ref ca), .val (.int 0), .val (.ref da), .val (.int 0), .val (.int 3), .val (.int 0), .val (.int c0)]) X0 B d10_13 rfl ?_
  refine o_iload X0 B d10_15 rfl ?_
  refine o_sipush X0 B d10_17 ?_
  refine o_icN X0 B d10_20 (XT.ii_le_f hg0) ?_
  refine o_iload X0 B d10_23 rfl ?_
  rw [hΦ]
  refine own_ret X0 (v := some (.int 0)) (own_nr hret) hlk (fun fs hr => retOut X0 hx hret rfl (Or.inl ⟨rfl, Or.inl rfl, _, rfl⟩) (hb hby d10_25) hr) ?_ (by decide) (by decide)
  rw [e0]
  exact ⟨rfl, N0, K0, V_da⟩
theorem ef_rmInn3_1 (m : MethodId) (ca : Addr) (da : Addr) : entryFrame m #[(.ref ca), (.int 0), (.ref da), (.int 0), (.int 3)] 7 = mkF m 0 #[.val (.ref ca), .val (.int 0), .val (.ref da), .val (.int 0), .val (.int 3), .unset, .unset] [] := by first | (simp [entryFrame, mkF, argsToLocals, Value.category]; done) | rfl
def Q_rmInn3_1 (Z : State) (ca : Addr) (kc : ClassId) (da : Addr) (kd : ClassId) (c0 : Int32) (c1 : Int32) (c2 : Int32) (h0 : Heap) (n0 : Nat) (v : Option Value) (h : Heap) (L : List Loc) : Prop := v = some (.int 1) ∧ Fr n0 L ∧ Keep h0 h [da] ∧ Arv Z h da kd .byte (3 : Int32) [(.int (own_lo c0)), (.int 0), (.int 0)] (.int 0)
set_option maxRecDepth 65536 in
set_option maxHeartbeats 40000000 in
theorem rmInn3_1 (l : Launch) (Z : State) (a0 : Array Value) (hw : own_H Z a0) (ws : List Jvm.Cond) (ca : Addr) (kc : ClassId) (da : Addr) (kd : ClassId) (c0 : Int32) (c1 : Int32) (c2 : Int32) (h0 : Heap) (n0 : Nat) (Z0 : n0 ≤ h0.size) (V_ca : Arv Z h0 ca kc .char (3 : Int32) [(.int c0), (.int c1), (.int c2)] (.int 0)) (V_da : Arv Z h0 da kd .byte (3 : Int32) [(.int 0), (.int 0), (.int 0)] (.int 0)) (g_da : n0 ≤ da) (ne_ca_da : ca ≠ da) (hl0 : ¬ (255 : Int32) < c0) (hg1 : (255 : Int32) < c1) :
    own_Met l (⟨"java/lang/StringUTF16", "compress", "([CI[BII)I"⟩ : MethodName) jdk_52_method_21_code 7 (some .int) ws (own_rm 0 0 0 0) Z h0 #[(.ref ca), (.int 0), (.ref da), (.int 0), (.int 3)] (Q_rmInn3_1 Z ca kc da kd c0 c1 c2 h0 n0) := by
  refine own_met (plainFor_of_name pn_5) (fun m => ef_rmInn3_1 m ca da) ?_
  intro p e s m below meth c s₁ Φ hΦ X0 hx hby hml hown hnm hret hlk hZ e0
  have N0 := Fr.nil n0
  have B : own_B p c _ _ := ⟨hx, hby, hml⟩
  have K0 : Keep h0 h0 [da] := Keep.refl _ _
  show own_G p e below Φ s₁ (mkF m 0 #[.val (.ref ca), .val (.int 0), .val (.ref da), .val (.int 0), .val (.int 3), .unset, .unset] [])
  refine o_iconst X0 B d10_0 ?_
  refine o_istore (L' := #[.val (.ref ca), .val (.int 0), .val (.ref da), .val (.int 0), .val (.int 3), .val (.int 0), .unset]) X0 B d10_1 rfl ?_
  refine o_iload X0 B d10_3 rfl ?_
  refine o_iload X0 B d10_5 rfl ?_
  refine o_icN X0 B d10_7 (XT.ii_ge_f (by decide : ((0 : Int32) < (3 : Int32)))) ?_
  refine o_aloadN X0 B d10_10 rfl rfl ?_
  refine o_iloadN X0 B d10_11 rfl ?_
  obtain ⟨cl1, Ar1, zq1, S1, M1, H1, G1⟩ := id V_ca
  have hin1 : ¬ ((0 : Int32) < 0 ∨ cl1.slots.size ≤ ((0 : Int32)).toNatClampNeg) := inb_of S1 ⟨by decide, by decide⟩
  refine own_go (fun _ => X0.caload hx (j := (0 : Int32)) (v := (.int c0)) (by rw [e0]; exact Ar1.1) (State.isArrayOf_alike hZ.alike Ar1.2.1) Ar1.2.2 hin1 (H1.at hin1 rfl) (g := (mkF m 12 #[.val (.ref ca), .val (.int 0), .val (.ref da), .val (.int 0), .val (.int 3), .val (.int 0), .unset] [(.int 0), (.ref ca)])) rfl rfl (hb hby d10_12) _) ?_
  show own_G p e below Φ s₁ (mkF m 13 #[.val (.ref ca), .val (.int 0), .val (.ref da), .val (.int 0), .val (.int 3), .val (.int 0), .unset] [(.int c0)])
  refine o_istore (L' := #[.val (.ref ca), .val (.int 0), .val (.ref da), .val (.int 0), .val (.int 3), .val (.int 0), .val (.int c0)]) X0 B d10_13 rfl ?_
  refine o_iload X0 B d10_15 rfl ?_
  refine o_sipush X0 B d10_17 ?_
  refine o_icY X0 B 26 d10_20 (XT.ii_le_t hl0) rfl ?_
  refine o_aloadN X0 B d10_26 rfl rfl ?_
  refine o_iloadN X0 B d10_27 rfl ?_
  refine o_iload X0 B d10_28 rfl ?_
  refine own_go (fun _ => XS.i2b X0.here hx rfl (hb hby d10_30) rfl) ?_
  show own_G p e below Φ s₁ (mkF m 31 #[.val (.ref ca), .val (.int 0), .val (.ref da), .val (.int 0), .val (.int 3), .val (.int 0), .val (.int c0)] [(.int (c0.toInt8.toInt32)), (.int 0), (.ref da)])
  obtain ⟨cl2, Ar2, zq2, S2, M2, H2, G2⟩ := id V_da
  have hin2 : ¬ ((0 : Int32) < 0 ∨ cl2.slots.size ≤ ((0 : Int32)).toNatClampNeg) := inb_of S2 ⟨by decide, by decide⟩
  obtain ⟨T2, h2, X2, e2, W2, st2⟩ := stB X0 hx hZ e0 Ar2 (j := (0 : Int32)) hin2 (g := (mkF m 31 #[.val (.ref ca), .val (.int 0), .val (.ref da), .val (.int 0), .val (.int 3), .val (.int 0), .val (.int c0)] [(.int (c0.toInt8.toInt32)), (.int 0), (.ref da)])) rfl rfl (hb hby d10_31)
  refine own_go st2 ?_
  have V2 : Arv Z h2 da kd .byte (3 : Int32) [(.int (nar .byte (c0.toInt8.toInt32))), (.int 0), (.int 0)] (.int 0) := Arv.set Ar2 zq2 S2 M2 H2 G2 (fits_nar_byte (c0.toInt8.toInt32)) W2 0 rfl (Nat.le_of_ble_eq_true rfl)
  have N2 := Fr.snoc X2 N0 g_da
  have K2 := K0.wr W2 (Or.inl (List.mem_of_getElem? (i := 0) rfl))
  have Zp2 : n0 ≤ h2.size := Nat.le_trans Z0 (Keep.of_wr W2).1
  refine o_iinc (L' := #[.val (.ref ca), .val (.int 1), .val (.ref da), .val (.int 0), .val (.int 3), .val (.int 0), .val (.int c0)]) X2 B d10_32 rfl rfl ?_
  refine o_iinc (L' := #[.val (.ref ca), .val (.int 1), .val (.ref da), .val (.int 1), .val (.int 3), .val (.int 0), .val (.int c0)]) X2 B d10_35 rfl rfl ?_
  refine o_iinc (L' := #[.val (.ref ca), .val (.int 1), .val (.ref da), .val (.int 1), .val (.int 3), .val (.int 1), .val (.int c0)]) X2 B d10_38 rfl rfl ?_
  refine o_goto X2 B 3 d10_41 rfl ?_
  refine o_iload X2 B d10_3 rfl ?_
  refine o_iload X2 B d10_5 rfl ?_
  refine o_icN X2 B d10_7 (XT.ii_ge_f (by decide : ((1 : Int32) < (3 : Int32)))) ?_
  show own_G p e below Φ T2 (mkF m 10 #[.val (.ref ca), .val (.int 1), .val (.ref da), .val (.int 1), .val (.int 3), .val (.int 1), .val (.int c0)] [])
  refine o_aloadN X2 B d10_10 rfl rfl ?_
  refine o_iloadN X2 B d10_11 rfl ?_
  have f3 : Arv Z h2 ca kc .char (3 : Int32) [(.int c0), (.int c1), (.int c2)] (.int 0) := V_ca.other W2 ne_ca_da
  obtain ⟨cl4, Ar4, zq4, S4, M4, H4, G4⟩ := id f3
  have hin4 : ¬ ((1 : Int32) < 0 ∨ cl4.slots.size ≤ ((1 : Int32)).toNatClampNeg) := inb_of S4 ⟨by decide, by decide⟩
  refine own_go (fun _ => X2.caload hx (j := (1 : Int32)) (v := (.int c1)) (by rw [e2]; exact Ar4.1) (State.isArrayOf_alike hZ.alike Ar4.2.1) Ar4.2.2 hin4 (H4.at hin4 rfl) (g := (mkF m 12 #[.val (.ref ca), .val (.int 1), .val (.ref da), .val (.int 1), .val (.int 3), .val (.int 1), .val (.int c0)] [(.int 1), (.ref ca)])) rfl rfl (hb hby d10_12) _) ?_
  refine o_istore (L' := #[.val (.ref ca), .val (.int 1), .val (.ref da), .val (.int 1), .val (.int 3), .val (.int 1), .val (.int c1)]) X2 B d10_13 rfl ?_
  refine o_iload X2 B d10_15 rfl ?_
  show own_G p e below Φ T2 (mkF m 17 #[.val (.ref ca), .val (.int 1), .val (.ref da), .val (.int 1), .val (.int 3), .val (.int 1), .val (.int c1)] [(.int c1)])
  refine o_sipush X2 B d10_17 ?_
  refine o_icN X2 B d10_20 (XT.ii_le_f hg1) ?_
  refine o_iload X2 B d10_23 rfl ?_
  rw [hΦ]
  refine own_ret X2 (v := some (.int 1)) (own_nr hret) hlk (fun fs hr => retOut X2 hx hret rfl (Or.inl ⟨rfl, Or.inl rfl, _, rfl⟩) (hb hby d10_25) hr) ?_ (by decide) (by decide)
  rw [e2]
  exact ⟨rfl, N2, K2, V2⟩
theorem ef_rmInn3_2 (m : MethodId) (ca : Addr) (da : Addr) : entryFrame m #[(.ref ca), (.int 0), (.ref da), (.int 0), (.int 3)] 7 = mkF m 0 #[.val (.ref ca), .val (.int 0), .val (.ref da), .val (.int 0), .val (.int 3), .unset, .unset] [] := by first | (simp [entryFrame, mkF, argsToLocals, Value.category]; done) | rfl
def Q_rmInn3_2 (Z : State) (ca : Addr) (kc : ClassId) (da : Addr) (kd : ClassId) (c0 : Int32) (c1 : Int32) (c2 : Int32) (h0 : Heap) (n0 : Nat) (v : Option Value) (h : Heap) (L : List Loc) : Prop := v = some (.int 2) ∧ Fr n0 L ∧ Keep h0 h [da] ∧ Arv Z h da kd .byte (3 : Int32) [(.int (own_lo c0)), (.int (own_lo c1)), (.int 0)] (.int 0)
set_option maxRecDepth 65536 in
set_option maxHeartbeats 40000000 in
theorem rmInn3_2 (l : Launch) (Z : State) (a0 : Array Value) (hw : own_H Z a0) (ws : List Jvm.Cond) (ca : Addr) (kc : ClassId) (da : Addr) (kd : ClassId) (c0 : Int32) (c1 : Int32) (c2 : Int32) (h0 : Heap) (n0 : Nat) (Z0 : n0 ≤ h0.size) (V_ca : Arv Z h0 ca kc .char (3 : Int32) [(.int c0), (.int c1), (.int c2)] (.int 0)) (V_da : Arv Z h0 da kd .byte (3 : Int32) [(.int 0), (.int 0), (.int 0)] (.int 0)) (g_da : n0 ≤ da) (ne_ca_da : ca ≠ da) (hl0 : ¬ (255 : Int32) < c0) (hl1 : ¬ (255 : Int32) < c1) (hg2 : (255 : Int32) < c2) :
    own_Met l (⟨"java/lang/StringUTF16", "compress", "([CI[BII)I"⟩ : MethodName) jdk_52_method_21_code 7 (some .int) ws (own_rm 0 0 0 0) Z h0 #[(.ref ca), (.int 0), (.ref da), (.int 0), (.int 3)] (Q_rmInn3_2 Z ca kc da kd c0 c1 c2 h0 n0) := by
  refine own_met (plainFor_of_name pn_5) (fun m => ef_rmInn3_2 m ca da) ?_
  intro p e s m below meth c s₁ Φ hΦ X0 hx hby hml hown hnm hret hlk hZ e0
  have N0 := Fr.nil n0
  have B : own_B p c _ _ := ⟨hx, hby, hml⟩
  have K0 : Keep h0 h0 [da] := Keep.refl _ _
  show own_G p e below Φ s₁ (mkF m 0 #[.val (.ref ca), .val (.int 0), .val (.ref da), .val (.int 0), .val (.int 3), .unset, .unset] [])
  refine o_iconst X0 B d10_0 ?_
  refine o_istore (L' := #[.val (.ref ca), .val (.int 0), .val (.ref da), .val (.int 0), .val (.int 3), .val (.int 0), .unset]) X0 B d10_1 rfl ?_
  refine o_iload X0 B d10_3 rfl ?_
  refine o_iload X0 B d10_5 rfl ?_
  refine o_icN X0 B d10_7 (XT.ii_ge_f (by decide : ((0 : Int32) < (3 : Int32)))) ?_
  refine o_aloadN X0 B d10_10 rfl rfl ?_
  refine o_iloadN X0 B d10_11 rfl ?_
  obtain ⟨cl1, Ar1, zq1, S1, M1, H1, G1⟩ := id V_ca
  have hin1 : ¬ ((0 : Int32) < 0 ∨ cl1.slots.size ≤ ((0 : Int32)).toNatClampNeg) := inb_of S1 ⟨by decide, by decide⟩
  refine own_go (fun _ => X0.caload hx (j := (0 : Int32)) (v := (.int c0)) (by rw [e0]; exact Ar1.1) (State.isArrayOf_alike hZ.alike Ar1.2.1) Ar1.2.2 hin1 (H1.at hin1 rfl) (g := (mkF m 12 #[.val (.ref ca), .val (.int 0), .val (.ref da), .val (.int 0), .val (.int 3), .val (.int 0), .unset] [(.int 0), (.ref ca)])) rfl rfl (hb hby d10_12) _) ?_
  show own_G p e below Φ s₁ (mkF m 13 #[.val (.ref ca), .val (.int 0), .val (.ref da), .val (.int 0), .val (.int 3), .val (.int 0), .unset] [(.int c0)])
  refine o_istore (L' := #[.val (.ref ca), .val (.int 0), .val (.ref da), .val (.int 0), .val (.int 3), .val (.int 0), .val (.int c0)]) X0 B d10_13 rfl ?_
  refine o_iload X0 B d10_15 rfl ?_
  refine o_sipush X0 B d10_17 ?_
  refine o_icY X0 B 26 d10_20 (XT.ii_le_t hl0) rfl ?_
  refine o_aloadN X0 B d10_26 rfl rfl ?_
  refine o_iloadN X0 B d10_27 rfl ?_
  refine o_iload X0 B d10_28 rfl ?_
  refine own_go (fun _ => XS.i2b X0.here hx rfl (hb hby d10_30) rfl) ?_
  show own_G p e below Φ s₁ (mkF m 31 #[.val (.ref ca), .val (.int 0), .val (.ref da), .val (.int 0), .val (.int 3), .val (.int 0), .val (.int c0)] [(.int (c0.toInt8.toInt32)), (.int 0), (.ref da)])
  obtain ⟨cl2, Ar2, zq2, S2, M2, H2, G2⟩ := id V_da
  have hin2 : ¬ ((0 : Int32) < 0 ∨ cl2.slots.size ≤ ((0 : Int32)).toNatClampNeg) := inb_of S2 ⟨by decide, by decide⟩
  obtain ⟨T2, h2, X2, e2, W2, st2⟩ := stB X0 hx hZ e0 Ar2 (j := (0 : Int32)) hin2 (g := (mkF m 31 #[.val (.ref ca), .val (.int 0), .val (.ref da), .val (.int 0), .val (.int 3), .val (.int 0), .val (.int c0)] [(.int (c0.toInt8.toInt32)), (.int 0), (.ref da)])) rfl rfl (hb hby d10_31)
  refine own_go st2 ?_
  have V2 : Arv Z h2 da kd .byte (3 : Int32) [(.int (nar .byte (c0.toInt8.toInt32))), (.int 0), (.int 0)] (.int 0) := Arv.set Ar2 zq2 S2 M2 H2 G2 (fits_nar_byte (c0.toInt8.toInt32)) W2 0 rfl (Nat.le_of_ble_eq_true rfl)
  have N2 := Fr.snoc X2 N0 g_da
  have K2 := K0.wr W2 (Or.inl (List.mem_of_getElem? (i := 0) rfl))
  have Zp2 : n0 ≤ h2.size := Nat.le_trans Z0 (Keep.of_wr W2).1
  refine o_iinc (L' := #[.val (.ref ca), .val (.int 1), .val (.ref da), .val (.int 0), .val (.int 3), .val (.int 0), .val (.int c0)]) X2 B d10_32 rfl rfl ?_
  refine o_iinc (L' := #[.val (.ref ca), .val (.int 1), .val (.ref da), .val (.int 1), .val (.int 3), .val (.int 0), .val (.int c0)]) X2 B d10_35 rfl rfl ?_
  refine o_iinc (L' := #[.val (.ref ca), .val (.int 1), .val (.ref da), .val (.int 1), .val (.int 3), .val (.int 1), .val (.int c0)]) X2 B d10_38 rfl rfl ?_
  refine o_goto X2 B 3 d10_41 rfl ?_
  refine o_iload X2 B d10_3 rfl ?_
  refine o_iload X2 B d10_5 rfl ?_
  refine o_icN X2 B d10_7 (XT.ii_ge_f (by decide : ((1 : Int32) < (3 : Int32)))) ?_
  show own_G p e below Φ T2 (mkF m 10 #[.val (.ref ca), .val (.int 1), .val (.ref da), .val (.int 1), .val (.int 3), .val (.int 1), .val (.int c0)] [])
  refine o_aloadN X2 B d10_10 rfl rfl ?_
  refine o_iloadN X2 B d10_11 rfl ?_
  have f3 : Arv Z h2 ca kc .char (3 : Int32) [(.int c0), (.int c1), (.int c2)] (.int 0) := V_ca.other W2 ne_ca_da
  obtain ⟨cl4, Ar4, zq4, S4, M4, H4, G4⟩ := id f3
  have hin4 : ¬ ((1 : Int32) < 0 ∨ cl4.slots.size ≤ ((1 : Int32)).toNatClampNeg) := inb_of S4 ⟨by decide, by decide⟩
  refine own_go (fun _ => X2.caload hx (j := (1 : Int32)) (v := (.int c1)) (by rw [e2]; exact Ar4.1) (State.isArrayOf_alike hZ.alike Ar4.2.1) Ar4.2.2 hin4 (H4.at hin4 rfl) (g := (mkF m 12 #[.val (.ref ca), .val (.int 1), .val (.ref da), .val (.int 1), .val (.int 3), .val (.int 1), .val (.int c0)] [(.int 1), (.ref ca)])) rfl rfl (hb hby d10_12) _) ?_
  refine o_istore (L' := #[.val (.ref ca), .val (.int 1), .val (.ref da), .val (.int 1), .val (.int 3), .val (.int 1), .val (.int c1)]) X2 B d10_13 rfl ?_
  refine o_iload X2 B d10_15 rfl ?_
  show own_G p e below Φ T2 (mkF m 17 #[.val (.ref ca), .val (.int 1), .val (.ref da), .val (.int 1), .val (.int 3), .val (.int 1), .val (.int c1)] [(.int c1)])
  refine o_sipush X2 B d10_17 ?_
  refine o_icY X2 B 26 d10_20 (XT.ii_le_t hl1) rfl ?_
  refine o_aloadN X2 B d10_26 rfl rfl ?_
  refine o_iloadN X2 B d10_27 rfl ?_
  refine o_iload X2 B d10_28 rfl ?_
  refine own_go (fun _ => XS.i2b X2.here hx rfl (hb hby d10_30) rfl) ?_
  show own_G p e below Φ T2 (mkF m 31 #[.val (.ref ca), .val (.int 1), .val (.ref da), .val (.int 1), .val (.int 3), .val (.int 1), .val (.int c1)] [(.int (c1.toInt8.toInt32)), (.int 1), (.ref da)])
  obtain ⟨cl5, Ar5, zq5, S5, M5, H5, G5⟩ := id V2
  have hin5 : ¬ ((1 : Int32) < 0 ∨ cl5.slots.size ≤ ((1 : Int32)).toNatClampNeg) := inb_of S5 ⟨by decide, by decide⟩
  obtain ⟨T5, h5, X5, e5, W5, st5⟩ := stB X2 hx hZ e2 Ar5 (j := (1 : Int32)) hin5 (g := (mkF m 31 #[.val (.ref ca), .val (.int 1), .val (.ref da), .val (.int 1), .val (.int 3), .val (.int 1), .val (.int c1)] [(.int (c1.toInt8.toInt32)), (.int 1), (.ref da)])) rfl rfl (hb hby d10_31)
  refine own_go st5 ?_
  have V5 : Arv Z h5 da kd .byte (3 : Int32) [(.int (nar .byte (c0.toInt8.toInt32))), (.int (nar .byte (c1.toInt8.toInt32))), (.int 0)] (.int 0) := Arv.set Ar5 zq5 S5 M5 H5 G5 (fits_nar_byte (c1.toInt8.toInt32)) W5 1 rfl (Nat.le_of_ble_eq_true rfl)
  have N5 := Fr.snoc X5 N2 g_da
  have K5 := K2.wr W5 (Or.inl (List.mem_of_getElem? (i := 0) rfl))
  have Zp5 : n0 ≤ h5.size := Nat.le_trans Zp2 (Keep.of_wr W5).1
  refine o_iinc (L' := #[.val (.ref ca), .val (.int 2), .val (.ref da), .val (.int 1), .val (.int 3), .val (.int 1), .val (.int c1)]) X5 B d10_32 rfl rfl ?_
  refine o_iinc (L' := #[.val (.ref ca), .val (.int 2), .val (.ref da), .val (.int 2), .val (.int 3), .val (.int 1), .val (.int c1)]) X5 B d10_35 rfl rfl ?_
  refine o_iinc (L' := #[.val (.ref ca), .val (.int 2), .val (.ref da), .val (.int 2), .val (.int 3), .val (.int 2), .val (.int c1)]) X5 B d10_38 rfl rfl ?_
  refine o_goto X5 B 3 d10_41 rfl ?_
  refine o_iload X5 B d10_3 rfl ?_
  refine o_iload X5 B d10_5 rfl ?_
  refine o_icN X5 B d10_7 (XT.ii_ge_f (by decide : ((2 : Int32) < (3 : Int32)))) ?_
  show own_G p e below Φ T5 (mkF m 10 #[.val (.ref ca), .val (.int 2), .val (.ref da), .val (.int 2), .val (.int 3), .val (.int 2), .val (.int c1)] [])
  refine o_aloadN X5 B d10_10 rfl rfl ?_
  refine o_iloadN X5 B d10_11 rfl ?_
  have f6 : Arv Z h5 ca kc .char (3 : Int32) [(.int c0), (.int c1), (.int c2)] (.int 0) := f3.other W5 ne_ca_da
  obtain ⟨cl7, Ar7, zq7, S7, M7, H7, G7⟩ := id f6
  have hin7 : ¬ ((2 : Int32) < 0 ∨ cl7.slots.size ≤ ((2 : Int32)).toNatClampNeg) := inb_of S7 ⟨by decide, by decide⟩
  refine own_go (fun _ => X5.caload hx (j := (2 : Int32)) (v := (.int c2)) (by rw [e5]; exact Ar7.1) (State.isArrayOf_alike hZ.alike Ar7.2.1) Ar7.2.2 hin7 (H7.at hin7 rfl) (g := (mkF m 12 #[.val (.ref ca), .val (.int 2), .val (.ref da), .val (.int 2), .val (.int 3), .val (.int 2), .val (.int c1)] [(.int 2), (.ref ca)])) rfl rfl (hb hby d10_12) _) ?_
  refine o_istore (L' := #[.val (.ref ca), .val (.int 2), .val (.ref da), .val (.int 2), .val (.int 3), .val (.int 2), .val (.int c2)]) X5 B d10_13 rfl ?_
  refine o_iload X5 B d10_15 rfl ?_
  show own_G p e below Φ T5 (mkF m 17 #[.val (.ref ca), .val (.int 2), .val (.ref da), .val (.int 2), .val (.int 3), .val (.int 2), .val (.int c2)] [(.int c2)])
  refine o_sipush X5 B d10_17 ?_
  refine o_icN X5 B d10_20 (XT.ii_le_f hg2) ?_
  refine o_iload X5 B d10_23 rfl ?_
  rw [hΦ]
  refine own_ret X5 (v := some (.int 2)) (own_nr hret) hlk (fun fs hr => retOut X5 hx hret rfl (Or.inl ⟨rfl, Or.inl rfl, _, rfl⟩) (hb hby d10_25) hr) ?_ (by decide) (by decide)
  rw [e5]
  exact ⟨rfl, N5, K5, V5⟩
theorem ef_rmInn4_a (m : MethodId) (ca : Addr) (da : Addr) : entryFrame m #[(.ref ca), (.int 0), (.ref da), (.int 0), (.int 4)] 7 = mkF m 0 #[.val (.ref ca), .val (.int 0), .val (.ref da), .val (.int 0), .val (.int 4), .unset, .unset] [] := by first | (simp [entryFrame, mkF, argsToLocals, Value.category]; done) | rfl
def Q_rmInn4_a (Z : State) (ca : Addr) (kc : ClassId) (da : Addr) (kd : ClassId) (c0 : Int32) (c1 : Int32) (c2 : Int32) (c3 : Int32) (h0 : Heap) (n0 : Nat) (v : Option Value) (h : Heap) (L : List Loc) : Prop := v = some (.int 4) ∧ Fr n0 L ∧ Keep h0 h [da] ∧ Arv Z h da kd .byte (4 : Int32) [(.int (own_lo c0)), (.int (own_lo c1)), (.int (own_lo c2)), (.int (own_lo c3))] (.int 0)
set_option maxRecDepth 65536 in
set_option maxHeartbeats 40000000 in
theorem rmInn4_a (l : Launch) (Z : State) (a0 : Array Value) (hw : own_H Z a0) (ws : List Jvm.Cond) (ca : Addr) (kc : ClassId) (da : Addr) (kd : ClassId) (c0 : Int32) (c1 : Int32) (c2 : Int32) (c3 : Int32) (h0 : Heap) (n0 : Nat) (Z0 : n0 ≤ h0.size) (V_ca : Arv Z h0 ca kc .char (4 : Int32) [(.int c0), (.int c1), (.int c2), (.int c3)] (.int 0)) (V_da : Arv Z h0 da kd .byte (4 : Int32) [(.int 0), (.int 0), (.int 0), (.int 0)] (.int 0)) (g_da : n0 ≤ da) (ne_ca_da : ca ≠ da) (hl0 : ¬ (255 : Int32) < c0) (hl1 : ¬ (255 : Int32) < c1) (hl2 : ¬ (255 : Int32) < c2) (hl3 : ¬ (255 : Int32) < c3) :
    own_Met l (⟨"java/lang/StringUTF16", "compress", "([CI[BII)I"⟩ : MethodName) jdk_52_method_21_code 7 (some .int) ws (own_rm 0 0 0 0) Z h0 #[(.ref ca), (.int 0), (.ref da), (.int 0), (.int 4)] (Q_rmInn4_a Z ca kc da kd c0 c1 c2 c3 h0 n0) := by
  refine own_met (plainFor_of_name pn_5) (fun m => ef_rmInn4_a m ca da) ?_
  intro p e s m below meth c s₁ Φ hΦ X0 hx hby hml hown hnm hret hlk hZ e0
  have N0 := Fr.nil n0
  have B : own_B p c _ _ := ⟨hx, hby, hml⟩
  have K0 : Keep h0 h0 [da] := Keep.refl _ _
  show own_G p e below Φ s₁ (mkF m 0 #[.val (.ref ca), .val (.int 0), .val (.ref da), .val (.int 0), .val (.int 4), .unset, .unset] [])
  refine o_iconst X0 B d10_0 ?_
  refine o_istore (L' := #[.val (.ref ca), .val (.int 0), .val (.ref da), .val (.int 0), .val (.int 4), .val (.int 0), .unset]) X0 B d10_1 rfl ?_
  refine o_iload X0 B d10_3 rfl ?_
  refine o_iload X0 B d10_5 rfl ?_
  refine o_icN X0 B d10_7 (XT.ii_ge_f (by decide : ((0 : Int32) < (4 : Int32)))) ?_
  refine o_aloadN X0 B d10_10 rfl rfl ?_
  refine o_iloadN X0 B d10_11 rfl ?_
  obtain ⟨cl1, Ar1, zq1, S1, M1, H1, G1⟩ := id V_ca
  have hin1 : ¬ ((0 : Int32) < 0 ∨ cl1.slots.size ≤ ((0 : Int32)).toNatClampNeg) := inb_of S1 ⟨by decide, by decide⟩
  refine own_go (fun _ => X0.caload hx (j := (0 : Int32)) (v := (.int c0)) (by rw [e0]; exact Ar1.1) (State.isArrayOf_alike hZ.alike Ar1.2.1) Ar1.2.2 hin1 (H1.at hin1 rfl) (g := (mkF m 12 #[.val (.ref ca), .val (.int 0), .val (.ref da), .val (.int 0), .val (.int 4), .val (.int 0), .unset] [(.int 0), (.ref ca)])) rfl rfl (hb hby d10_12) _) ?_
  show own_G p e below Φ s₁ (mkF m 13 #[.val (.ref ca), .val (.int 0), .val (.ref da), .val (.int 0), .val (.int 4), .val (.int 0), .unset] [(.int c0)])
  refine o_istore (L' := #[.val (.ref ca), .val (.int 0), .val (.ref da), .val (.int 0), .val (.int 4), .val (.int 0), .val (.int c0)]) X0 B d10_13 rfl ?_
  refine o_iload X0 B d10_15 rfl ?_
  refine o_sipush X0 B d10_17 ?_
  refine o_icY X0 B 26 d10_20 (XT.ii_le_t hl0) rfl ?_
  refine o_aloadN X0 B d10_26 rfl rfl ?_
  refine o_iloadN X0 B d10_27 rfl ?_
  refine o_iload X0 B d10_28 rfl ?_
  refine own_go (fun _ => XS.i2b X0.here hx rfl (hb hby d10_30) rfl) ?_
  show own_G p e below Φ s₁ (mkF m 31 #[.val (.ref ca), .val (.int 0), .val (.ref da), .val (.int 0), .val (.int 4), .val (.int 0), .val (.int c0)] [(.int (c0.toInt8.toInt32)), (.int 0), (.ref da)])
  obtain ⟨cl2, Ar2, zq2, S2, M2, H2, G2⟩ := id V_da
  have hin2 : ¬ ((0 : Int32) < 0 ∨ cl2.slots.size ≤ ((0 : Int32)).toNatClampNeg) := inb_of S2 ⟨by decide, by decide⟩
  obtain ⟨T2, h2, X2, e2, W2, st2⟩ := stB X0 hx hZ e0 Ar2 (j := (0 : Int32)) hin2 (g := (mkF m 31 #[.val (.ref ca), .val (.int 0), .val (.ref da), .val (.int 0), .val (.int 4), .val (.int 0), .val (.int c0)] [(.int (c0.toInt8.toInt32)), (.int 0), (.ref da)])) rfl rfl (hb hby d10_31)
  refine own_go st2 ?_
  have V2 : Arv Z h2 da kd .byte (4 : Int32) [(.int (nar .byte (c0.toInt8.toInt32))), (.int 0), (.int 0), (.int 0)] (.int 0) := Arv.set Ar2 zq2 S2 M2 H2 G2 (fits_nar_byte (c0.toInt8.toInt32)) W2 0 rfl (Nat.le_of_ble_eq_true rfl)
  have N2 := Fr.snoc X2 N0 g_da
  have K2 := K0.wr W2 (Or.inl (List.mem_of_getElem? (i := 0) rfl))
  have Zp2 : n0 ≤ h2.size := Nat.le_trans Z0 (Keep.of_wr W2).1
  refine o_iinc (L' := #[.val (.ref ca), .val (.int 1), .val (.ref da), .val (.int 0), .val (.int 4), .val (.int 0), .val (.int c0)]) X2 B d10_32 rfl rfl ?_
  refine o_iinc (L' := #[.val (.ref ca), .val (.int 1), .val (.ref da), .val (.int 1), .val (.int 4), .val (.int 0), .val (.int c0)]) X2 B d10_35 rfl rfl ?_
  refine o_iinc (L' := #[.val (.ref ca), .val (.int 1), .val (.ref da), .val (.int 1), .val (.int 4), .val (.int 1), .val (.int c0)]) X2 B d10_38 rfl rfl ?_
  refine o_goto X2 B 3 d10_41 rfl ?_
  refine o_iload X2 B d10_3 rfl ?_
  refine o_iload X2 B d10_5 rfl ?_
  refine o_icN X2 B d10_7 (XT.ii_ge_f (by decide : ((1 : Int32) < (4 : Int32)))) ?_
  show own_G p e below Φ T2 (mkF m 10 #[.val (.ref ca), .val (.int 1), .val (.ref da), .val (.int 1), .val (.int 4), .val (.int 1), .val (.int c0)] [])
  refine o_aloadN X2 B d10_10 rfl rfl ?_
  refine o_iloadN X2 B d10_11 rfl ?_
  have f3 : Arv Z h2 ca kc .char (4 : Int32) [(.int c0), (.int c1), (.int c2), (.int c3)] (.int 0) := V_ca.other W2 ne_ca_da
  obtain ⟨cl4, Ar4, zq4, S4, M4, H4, G4⟩ := id f3
  have hin4 : ¬ ((1 : Int32) < 0 ∨ cl4.slots.size ≤ ((1 : Int32)).toNatClampNeg) := inb_of S4 ⟨by decide, by decide⟩
  refine own_go (fun _ => X2.caload hx (j := (1 : Int32)) (v := (.int c1)) (by rw [e2]; exact Ar4.1) (State.isArrayOf_alike hZ.alike Ar4.2.1) Ar4.2.2 hin4 (H4.at hin4 rfl) (g := (mkF m 12 #[.val (.ref ca), .val (.int 1), .val (.ref da), .val (.int 1), .val (.int 4), .val (.int 1), .val (.int c0)] [(.int 1), (.ref ca)])) rfl rfl (hb hby d10_12) _) ?_
  refine o_istore (L' := #[.val (.ref ca), .val (.int 1), .val (.ref da), .val (.int 1), .val (.int 4), .val (.int 1), .val (.int c1)]) X2 B d10_13 rfl ?_
  refine o_iload X2 B d10_15 rfl ?_
  show own_G p e below Φ T2 (mkF m 17 #[.val (.ref ca), .val (.int 1), .val (.ref da), .val (.int 1), .val (.int 4), .val (.int 1), .val (.int c1)] [(.int c1)])
  refine o_sipush X2 B d10_17 ?_
  refine o_icY X2 B 26 d10_20 (XT.ii_le_t hl1) rfl ?_
  refine o_aloadN X2 B d10_26 rfl rfl ?_
  refine o_iloadN X2 B d10_27 rfl ?_
  refine o_iload X2 B d10_28 rfl ?_
  refine own_go (fun _ => XS.i2b X2.here hx rfl (hb hby d10_30) rfl) ?_
  show own_G p e below Φ T2 (mkF m 31 #[.val (.ref ca), .val (.int 1), .val (.ref da), .val (.int 1), .val (.int 4), .val (.int 1), .val (.int c1)] [(.int (c1.toInt8.toInt32)), (.int 1), (.ref da)])
  obtain ⟨cl5, Ar5, zq5, S5, M5, H5, G5⟩ := id V2
  have hin5 : ¬ ((1 : Int32) < 0 ∨ cl5.slots.size ≤ ((1 : Int32)).toNatClampNeg) := inb_of S5 ⟨by decide, by decide⟩
  obtain ⟨T5, h5, X5, e5, W5, st5⟩ := stB X2 hx hZ e2 Ar5 (j := (1 : Int32)) hin5 (g := (mkF m 31 #[.val (.ref ca), .val (.int 1), .val (.ref da), .val (.int 1), .val (.int 4), .val (.int 1), .val (.int c1)] [(.int (c1.toInt8.toInt32)), (.int 1), (.ref da)])) rfl rfl (hb hby d10_31)
  refine own_go st5 ?_
  have V5 : Arv Z h5 da kd .byte (4 : Int32) [(.int (nar .byte (c0.toInt8.toInt32))), (.int (nar .byte (c1.toInt8.toInt32))), (.int 0), (.int 0)] (.int 0) := Arv.set Ar5 zq5 S5 M5 H5 G5 (fits_nar_byte (c1.toInt8.toInt32)) W5 1 rfl (Nat.le_of_ble_eq_true rfl)
  have N5 := Fr.snoc X5 N2 g_da
  have K5 := K2.wr W5 (Or.inl (List.mem_of_getElem? (i := 0) rfl))
  have Zp5 : n0 ≤ h5.size := Nat.le_trans Zp2 (Keep.of_wr W5).1
  refine o_iinc (L' := #[.val (.ref ca), .val (.int 2), .val (.ref da), .val (.int 1), .val (.int 4), .val (.int 1), .val (.int c1)]) X5 B d10_32 rfl rfl ?_
  refine o_iinc (L' := #[.val (.ref ca), .val (.int 2), .val (.ref da), .val (.int 2), .val (.int 4), .val (.int 1), .val (.int c1)]) X5 B d10_35 rfl rfl ?_
  refine o_iinc (L' := #[.val (.ref ca), .val (.int 2), .val (.ref da), .val (.int 2), .val (.int 4), .val (.int 2), .val (.int c1)]) X5 B d10_38 rfl rfl ?_
  refine o_goto X5 B 3 d10_41 rfl ?_
  refine o_iload X5 B d10_3 rfl ?_
  refine o_iload X5 B d10_5 rfl ?_
  refine o_icN X5 B d10_7 (XT.ii_ge_f (by decide : ((2 : Int32) < (4 : Int32)))) ?_
  show own_G p e below Φ T5 (mkF m 10 #[.val (.ref ca), .val (.int 2), .val (.ref da), .val (.int 2), .val (.int 4), .val (.int 2), .val (.int c1)] [])
  refine o_aloadN X5 B d10_10 rfl rfl ?_
  refine o_iloadN X5 B d10_11 rfl ?_
  have f6 : Arv Z h5 ca kc .char (4 : Int32) [(.int c0), (.int c1), (.int c2), (.int c3)] (.int 0) := f3.other W5 ne_ca_da
  obtain ⟨cl7, Ar7, zq7, S7, M7, H7, G7⟩ := id f6
  have hin7 : ¬ ((2 : Int32) < 0 ∨ cl7.slots.size ≤ ((2 : Int32)).toNatClampNeg) := inb_of S7 ⟨by decide, by decide⟩
  refine own_go (fun _ => X5.caload hx (j := (2 : Int32)) (v := (.int c2)) (by rw [e5]; exact Ar7.1) (State.isArrayOf_alike hZ.alike Ar7.2.1) Ar7.2.2 hin7 (H7.at hin7 rfl) (g := (mkF m 12 #[.val (.ref ca), .val (.int 2), .val (.ref da), .val (.int 2), .val (.int 4), .val (.int 2), .val (.int c1)] [(.int 2), (.ref ca)])) rfl rfl (hb hby d10_12) _) ?_
  refine o_istore (L' := #[.val (.ref ca), .val (.int 2), .val (.ref da), .val (.int 2), .val (.int 4), .val (.int 2), .val (.int c2)]) X5 B d10_13 rfl ?_
  refine o_iload X5 B d10_15 rfl ?_
  show own_G p e below Φ T5 (mkF m 17 #[.val (.ref ca), .val (.int 2), .val (.ref da), .val (.int 2), .val (.int 4), .val (.int 2), .val (.int c2)] [(.int c2)])
  refine o_sipush X5 B d10_17 ?_
  refine o_icY X5 B 26 d10_20 (XT.ii_le_t hl2) rfl ?_
  refine o_aloadN X5 B d10_26 rfl rfl ?_
  refine o_iloadN X5 B d10_27 rfl ?_
  refine o_iload X5 B d10_28 rfl ?_
  refine own_go (fun _ => XS.i2b X5.here hx rfl (hb hby d10_30) rfl) ?_
  show own_G p e below Φ T5 (mkF m 31 #[.val (.ref ca), .val (.int 2), .val (.ref da), .val (.int 2), .val (.int 4), .val (.int 2), .val (.int c2)] [(.int (c2.toInt8.toInt32)), (.int 2), (.ref da)])
  obtain ⟨cl8, Ar8, zq8, S8, M8, H8, G8⟩ := id V5
  have hin8 : ¬ ((2 : Int32) < 0 ∨ cl8.slots.size ≤ ((2 : Int32)).toNatClampNeg) := inb_of S8 ⟨by decide, by decide⟩
  obtain ⟨T8, h8, X8, e8, W8, st8⟩ := stB X5 hx hZ e5 Ar8 (j := (2 : Int32)) hin8 (g := (mkF m 31 #[.val (.ref ca), .val (.int 2), .val (.ref da), .val (.int 2), .val (.int 4), .val (.int 2), .val (.int c2)] [(.int (c2.toInt8.toInt32)), (.int 2), (.ref da)])) rfl rfl (hb hby d10_31)
  refine own_go st8 ?_
  have V8 : Arv Z h8 da kd .byte (4 : Int32) [(.int (nar .byte (c0.toInt8.toInt32))), (.int (nar .byte (c1.toInt8.toInt32))), (.int (nar .byte (c2.toInt8.toInt32))), (.int 0)] (.int 0) := Arv.set Ar8 zq8 S8 M8 H8 G8 (fits_nar_byte (c2.toInt8.toInt32)) W8 2 rfl (Nat.le_of_ble_eq_true rfl)
  have N8 := Fr.snoc X8 N5 g_da
  have K8 := K5.wr W8 (Or.inl (List.mem_of_getElem? (i := 0) rfl))
  have Zp8 : n0 ≤ h8.size := Nat.le_trans Zp5 (Keep.of_wr W8).1
  refine o_iinc (L' := #[.val (.ref ca), .val (.int 3), .val (.ref da), .val (.int 2), .val (.int 4), .val (.int 2), .val (.int c2)]) X8 B d10_32 rfl rfl ?_
  refine o_iinc (L' := #[.val (.ref ca), .val (.int 3), .val (.ref da), .val (.int 3), .val (.int 4), .val (.int 2), .val (.int c2)]) X8 B d10_35 rfl rfl ?_
  refine o_iinc (L' := #[.val (.ref ca), .val (.int 3), .val (.ref da), .val (.int 3), .val (.int 4), .val (.int 3), .val (.int c2)]) X8 B d10_38 rfl rfl ?_
  refine o_goto X8 B 3 d10_41 rfl ?_
  refine o_iload X8 B d10_3 rfl ?_
  refine o_iload X8 B d10_5 rfl ?_
  refine o_icN X8 B d10_7 (XT.ii_ge_f (by decide : ((3 : Int32) < (4 : Int32)))) ?_
  show own_G p e below Φ T8 (mkF m 10 #[.val (.ref ca), .val (.int 3), .val (.ref da), .val (.int 3), .val (.int 4), .val (.int 3), .val (.int c2)] [])
  refine o_aloadN X8 B d10_10 rfl rfl ?_
  refine o_iloadN X8 B d10_11 rfl ?_
  have f9 : Arv Z h8 ca kc .char (4 : Int32) [(.int c0), (.int c1), (.int c2), (.int c3)] (.int 0) := f6.other W8 ne_ca_da
  obtain ⟨cl10, Ar10, zq10, S10, M10, H10, G10⟩ := id f9
  have hin10 : ¬ ((3 : Int32) < 0 ∨ cl10.slots.size ≤ ((3 : Int32)).toNatClampNeg) := inb_of S10 ⟨by decide, by decide⟩
  refine own_go (fun _ => X8.caload hx (j := (3 : Int32)) (v := (.int c3)) (by rw [e8]; exact Ar10.1) (State.isArrayOf_alike hZ.alike Ar10.2.1) Ar10.2.2 hin10 (H10.at hin10 rfl) (g := (mkF m 12 #[.val (.ref ca), .val (.int 3), .val (.ref da), .val (.int 3), .val (.int 4), .val (.int 3), .val (.int c2)] [(.int 3), (.ref ca)])) rfl rfl (hb hby d10_12) _) ?_
  refine o_istore (L' := #[.val (.ref ca), .val (.int 3), .val (.ref da), .val (.int 3), .val (.int 4), .val (.int 3), .val (.int c3)]) X8 B d10_13 rfl ?_
  refine o_iload X8 B d10_15 rfl ?_
  show own_G p e below Φ T8 (mkF m 17 #[.val (.ref ca), .val (.int 3), .val (.ref da), .val (.int 3), .val (.int 4), .val (.int 3), .val (.int c3)] [(.int c3)])
  refine o_sipush X8 B d10_17 ?_
  refine o_icY X8 B 26 d10_20 (XT.ii_le_t hl3) rfl ?_
  refine o_aloadN X8 B d10_26 rfl rfl ?_
  refine o_iloadN X8 B d10_27 rfl ?_
  refine o_iload X8 B d10_28 rfl ?_
  refine own_go (fun _ => XS.i2b X8.here hx rfl (hb hby d10_30) rfl) ?_
  show own_G p e below Φ T8 (mkF m 31 #[.val (.ref ca), .val (.int 3), .val (.ref da), .val (.int 3), .val (.int 4), .val (.int 3), .val (.int c3)] [(.int (c3.toInt8.toInt32)), (.int 3), (.ref da)])
  obtain ⟨cl11, Ar11, zq11, S11, M11, H11, G11⟩ := id V8
  have hin11 : ¬ ((3 : Int32) < 0 ∨ cl11.slots.size ≤ ((3 : Int32)).toNatClampNeg) := inb_of S11 ⟨by decide, by decide⟩
  obtain ⟨T11, h11, X11, e11, W11, st11⟩ := stB X8 hx hZ e8 Ar11 (j := (3 : Int32)) hin11 (g := (mkF m 31 #[.val (.ref ca), .val (.int 3), .val (.ref da), .val (.int 3), .val (.int 4), .val (.int 3), .val (.int c3)] [(.int (c3.toInt8.toInt32)), (.int 3), (.ref da)])) rfl rfl (hb hby d10_31)
  refine own_go st11 ?_
  have V11 : Arv Z h11 da kd .byte (4 : Int32) [(.int (nar .byte (c0.toInt8.toInt32))), (.int (nar .byte (c1.toInt8.toInt32))), (.int (nar .byte (c2.toInt8.toInt32))), (.int (nar .byte (c3.toInt8.toInt32)))] (.int 0) := Arv.set Ar11 zq11 S11 M11 H11 G11 (fits_nar_byte (c3.toInt8.toInt32)) W11 3 rfl (Nat.le_of_ble_eq_true rfl)
  have N11 := Fr.snoc X11 N8 g_da
  have K11 := K8.wr W11 (Or.inl (List.mem_of_getElem? (i := 0) rfl))
  have Zp11 : n0 ≤ h11.size := Nat.le_trans Zp8 (Keep.of_wr W11).1
  refine o_iinc (L' := #[.val (.ref ca), .val (.int 4), .val (.ref da), .val (.int 3), .val (.int 4), .val (.int 3), .val (.int c3)]) X11 B d10_32 rfl rfl ?_
  refine o_iinc (L' := #[.val (.ref ca), .val (.int 4), .val (.ref da), .val (.int 4), .val (.int 4), .val (.int 3), .val (.int c3)]) X11 B d10_35 rfl rfl ?_
  refine o_iinc (L' := #[.val (.ref ca), .val (.int 4), .val (.ref da), .val (.int 4), .val (.int 4), .val (.int 4), .val (.int c3)]) X11 B d10_38 rfl rfl ?_
  refine o_goto X11 B 3 d10_41 rfl ?_
  refine o_iload X11 B d10_3 rfl ?_
  refine o_iload X11 B d10_5 rfl ?_
  refine o_icY X11 B 44 d10_7 (XT.ii_ge_t (by decide : ¬ ((4 : Int32) < (4 : Int32)))) rfl ?_
  show own_G p e below Φ T11 (mkF m 44 #[.val (.ref ca), .val (.int 4), .val (.ref da), .val (.int 4), .val (.int 4), .val (.int 4), .val (.int c3)] [])
  refine o_iload X11 B d10_44 rfl ?_
  rw [hΦ]
  refine own_ret X11 (v := some (.int 4)) (own_nr hret) hlk (fun fs hr => retOut X11 hx hret rfl (Or.inl ⟨rfl, Or.inl rfl, _, rfl⟩) (hb hby d10_46) hr) ?_ (by decide) (by decide)
  rw [e11]
  exact ⟨rfl, N11, K11, V11⟩
theorem ef_rmInn4_0 (m : MethodId) (ca : Addr) (da : Addr) : entryFrame m #[(.ref ca), (.int 0), (.ref da), (.int 0), (.int 4)] 7 = mkF m 0 #[.val (.ref ca), .val (.int 0), .val (.ref da), .val (.int 0), .val (.int 4), .unset, .unset] [] := by first | (simp [entryFrame, mkF, argsToLocals, Value.category]; done) | rfl
def Q_rmInn4_0 (Z : State) (ca : Addr) (kc : ClassId) (da : Addr) (kd : ClassId) (c0 : Int32) (c1 : Int32) (c2 : Int32) (c3 : Int32) (h0 : Heap) (n0 : Nat) (v : Option Value) (h : Heap) (L : List Loc) : Prop := v = some (.int 0) ∧ Fr n0 L ∧ Keep h0 h [da] ∧ Arv Z h da kd .byte (4 : Int32) [(.int 0), (.int 0), (.int 0), (.int 0)] (.int 0)
set_option maxRecDepth 65536 in
set_option maxHeartbeats 40000000 in
theorem rmInn4_0 (l : Launch) (Z : State) (a0 : Array Value) (hw : own_H Z a0) (ws : List Jvm.Cond) (ca : Addr) (kc : ClassId) (da : Addr) (kd : ClassId) (c0 : Int32) (c1 : Int32) (c2 : Int32) (c3 : Int32) (h0 : Heap) (n0 : Nat) (Z0 : n0 ≤ h0.size) (V_ca : Arv Z h0 ca kc .char (4 : Int32) [(.int c0), (.int c1), (.int c2), (.int c3)] (.int 0)) (V_da : Arv Z h0 da kd .byte (4 : Int32) [(.int 0), (.int 0), (.int 0), (.int 0)] (.int 0)) (g_da : n0 ≤ da) (ne_ca_da : ca ≠ da) (hg0 : (255 : Int32) < c0) :
    own_Met l (⟨"java/lang/StringUTF16", "compress", "([CI[BII)I"⟩ : MethodName) jdk_52_method_21_code 7 (some .int) ws (own_rm 0 0 0 0) Z h0 #[(.ref ca), (.int 0), (.ref da), (.int 0), (.int 4)] (Q_rmInn4_0 Z ca kc da kd c0 c1 c2 c3 h0 n0) := by
  refine own_met (plainFor_of_name pn_5) (fun m => ef_rmInn4_0 m ca da) ?_
  intro p e s m below meth c s₁ Φ hΦ X0 hx hby hml hown hnm hret hlk hZ e0
  have N0 := Fr.nil n0
  have B : own_B p c _ _ := ⟨hx, hby, hml⟩
  have K0 : Keep h0 h0 [da] := Keep.refl _ _
  show own_G p e below Φ s₁ (mkF m 0 #[.val (.ref ca), .val (.int 0), .val (.ref da), .val (.int 0), .val (.int 4), .unset, .unset] [])
  refine o_iconst X0 B d10_0 ?_
  refine o_istore (L' := #[.val (.ref ca), .val (.int 0), .val (.ref da), .val (.int 0), .val (.int 4), .val (.int 0), .unset]) X0 B d10_1 rfl ?_
  refine o_iload X0 B d10_3 rfl ?_
  refine o_iload X0 B d10_5 rfl ?_
  refine o_icN X0 B d10_7 (XT.ii_ge_f (by decide : ((0 : Int32) < (4 : Int32)))) ?_
  refine o_aloadN X0 B d10_10 rfl rfl ?_
  refine o_iloadN X0 B d10_11 rfl ?_
  obtain ⟨cl1, Ar1, zq1, S1, M1, H1, G1⟩ := id V_ca
  have hin1 : ¬ ((0 : Int32) < 0 ∨ cl1.slots.size ≤ ((0 : Int32)).toNatClampNeg) := inb_of S1 ⟨by decide, by decide⟩
  refine own_go (fun _ => X0.caload hx (j := (0 : Int32)) (v := (.int c0)) (by rw [e0]; exact Ar1.1) (State.isArrayOf_alike hZ.alike Ar1.2.1) Ar1.2.2 hin1 (H1.at hin1 rfl) (g := (mkF m 12 #[.val (.ref ca), .val (.int 0), .val (.ref da), .val (.int 0), .val (.int 4), .val (.int 0), .unset] [(.int 0), (.ref ca)])) rfl rfl (hb hby d10_12) _) ?_
  show own_G p e below Φ s₁ (mkF m 13 #[.val (.ref ca), .val (.int 0), .val (.ref da), .val (.int 0), .val (.int 4), .val (.int 0), .unset] [(.int c0)])
  refine o_istore (L' := #[.val (.ref ca), .val (.int 0), .val (.ref da), .val (.int 0), .val (.int 4), .val (.int 0), .val (.int c0)]) X0 B d10_13 rfl ?_
  refine o_iload X0 B d10_15 rfl ?_
  refine o_sipush X0 B d10_17 ?_
  refine o_icN X0 B d10_20 (XT.ii_le_f hg0) ?_
  refine o_iload X0 B d10_23 rfl ?_
  rw [hΦ]
  refine own_ret X0 (v := some (.int 0)) (own_nr hret) hlk (fun fs hr => retOut X0 hx hret rfl (Or.inl ⟨rfl, Or.inl rfl, _, rfl⟩) (hb hby d10_25) hr) ?_ (by decide) (by decide)
  rw [e0]
  exact ⟨rfl, N0, K0, V_da⟩
theorem ef_rmInn4_1 (m : MethodId) (ca : Addr) (da : Addr) : entryFrame m #[(.ref ca), (.int 0), (.ref da), (.int 0), (.int 4)] 7 = mkF m 0 #[.val (.ref ca), .val (.int 0), .val (.ref da), .val (.int 0), .val (.int 4), .unset, .unset] [] := by first | (simp [entryFrame, mkF, argsToLocals, Value.category]; done) | rfl
def Q_rmInn4_1 (Z : State) (ca : Addr) (kc : ClassId) (da : Addr) (kd : ClassId) (c0 : Int32) (c1 : Int32) (c2 : Int32) (c3 : Int32) (h0 : Heap) (n0 : Nat) (v : Option Value) (h : Heap) (L : List Loc) : Prop := v = some (.int 1) ∧ Fr n0 L ∧ Keep h0 h [da] ∧ Arv Z h da kd .byte (4 : Int32) [(.int (own_lo c0)), (.int 0), (.int 0), (.int 0)] (.int 0)
set_option maxRecDepth 65536 in
set_option maxHeartbeats 40000000 in
theorem rmInn4_1 (l : Launch) (Z : State) (a0 : Array Value) (hw : own_H Z a0) (ws : List Jvm.Cond) (ca : Addr) (kc : ClassId) (da : Addr) (kd : ClassId) (c0 : Int32) (c1 : Int32) (c2 : Int32) (c3 : Int32) (h0 : Heap) (n0 : Nat) (Z0 : n0 ≤ h0.size) (V_ca : Arv Z h0 ca kc .char (4 : Int32) [(.int c0), (.int c1), (.int c2), (.int c3)] (.int 0)) (V_da : Arv Z h0 da kd .byte (4 : Int32) [(.int 0), (.int 0), (.int 0), (.int 0)] (.int 0)) (g_da : n0 ≤ da) (ne_ca_da : ca ≠ da) (hl0 : ¬ (255 : Int32) < c0) (hg1 : (255 : Int32) < c1) :
    own_Met l (⟨"java/lang/StringUTF16", "compress", "([CI[BII)I"⟩ : MethodName) jdk_52_method_21_code 7 (some .int) ws (own_rm 0 0 0 0) Z h0 #[(.ref ca), (.int 0), (.ref da), (.int 0), (.int 4)] (Q_rmInn4_1 Z ca kc da kd c0 c1 c2 c3 h0 n0) := by
  refine own_met (plainFor_of_name pn_5) (fun m => ef_rmInn4_1 m ca da) ?_
  intro p e s m below meth c s₁ Φ hΦ X0 hx hby hml hown hnm hret hlk hZ e0
  have N0 := Fr.nil n0
  have B : own_B p c _ _ := ⟨hx, hby, hml⟩
  have K0 : Keep h0 h0 [da] := Keep.refl _ _
  show own_G p e below Φ s₁ (mkF m 0 #[.val (.ref ca), .val (.int 0), .val (.ref da), .val (.int 0), .val (.int 4), .unset, .unset] [])
  refine o_iconst X0 B d10_0 ?_
  refine o_istore (L' := #[.val (.ref ca), .val (.int 0), .val (.ref da), .val (.int 0), .val (.int 4), .val (.int 0), .unset]) X0 B d10_1 rfl ?_
  refine o_iload X0 B d10_3 rfl ?_
  refine o_iload X0 B d10_5 rfl ?_
  refine o_icN X0 B d10_7 (XT.ii_ge_f (by decide : ((0 : Int32) < (4 : Int32)))) ?_
  refine o_aloadN X0 B d10_10 rfl rfl ?_
  refine o_iloadN X0 B d10_11 rfl ?_
  obtain ⟨cl1, Ar1, zq1, S1, M1, H1, G1⟩ := id V_ca
  have hin1 : ¬ ((0 : Int32) < 0 ∨ cl1.slots.size ≤ ((0 : Int32)).toNatClampNeg) := inb_of S1 ⟨by decide, by decide⟩
  refine own_go (fun _ => X0.caload hx (j := (0 : Int32)) (v := (.int c0)) (by rw [e0]; exact Ar1.1) (State.isArrayOf_alike hZ.alike Ar1.2.1) Ar1.2.2 hin1 (H1.at hin1 rfl) (g := (mkF m 12 #[.val (.ref ca), .val (.int 0), .val (.ref da), .val (.int 0), .val (.int 4), .val (.int 0), .unset] [(.int 0), (.ref ca)])) rfl rfl (hb hby d10_12) _) ?_
  show own_G p e below Φ s₁ (mkF m 13 #[.val (.ref ca), .val (.int 0), .val (.ref da), .val (.int 0), .val (.int 4), .val (.int 0), .unset] [(.int c0)])
  refine o_istore (L' := #[.val (.ref ca), .val (.int 0), .val (.ref da), .val (.int 0), .val (.int 4), .val (.int 0), .val (.int c0)]) X0 B d10_13 rfl ?_
  refine o_iload X0 B d10_15 rfl ?_
  refine o_sipush X0 B d10_17 ?_
  refine o_icY X0 B 26 d10_20 (XT.ii_le_t hl0) rfl ?_
  refine o_aloadN X0 B d10_26 rfl rfl ?_
  refine o_iloadN X0 B d10_27 rfl ?_
  refine o_iload X0 B d10_28 rfl ?_
  refine own_go (fun _ => XS.i2b X0.here hx rfl (hb hby d10_30) rfl) ?_
  show own_G p e below Φ s₁ (mkF m 31 #[.val (.ref ca), .val (.int 0), .val (.ref da), .val (.int 0), .val (.int 4), .val (.int 0), .val (.int c0)] [(.int (c0.toInt8.toInt32)), (.int 0), (.ref da)])
  obtain ⟨cl2, Ar2, zq2, S2, M2, H2, G2⟩ := id V_da
  have hin2 : ¬ ((0 : Int32) < 0 ∨ cl2.slots.size ≤ ((0 : Int32)).toNatClampNeg) := inb_of S2 ⟨by decide, by decide⟩
  obtain ⟨T2, h2, X2, e2, W2, st2⟩ := stB X0 hx hZ e0 Ar2 (j := (0 : Int32)) hin2 (g := (mkF m 31 #[.val (.ref ca), .val (.int 0), .val (.ref da), .val (.int 0), .val (.int 4), .val (.int 0), .val (.int c0)] [(.int (c0.toInt8.toInt32)), (.int 0), (.ref da)])) rfl rfl (hb hby d10_31)
  refine own_go st2 ?_
  have V2 : Arv Z h2 da kd .byte (4 : Int32) [(.int (nar .byte (c0.toInt8.toInt32))), (.int 0), (.int 0), (.int 0)] (.int 0) := Arv.set Ar2 zq2 S2 M2 H2 G2 (fits_nar_byte (c0.toInt8.toInt32)) W2 0 rfl (Nat.le_of_ble_eq_true rfl)
  have N2 := Fr.snoc X2 N0 g_da
  have K2 := K0.wr W2 (Or.inl (List.mem_of_getElem? (i := 0) rfl))
  have Zp2 : n0 ≤ h2.size := Nat.le_trans Z0 (Keep.of_wr W2).1
  refine o_iinc (L' := #[.val (.ref ca), .val (.int 1), .val (.ref da), .val (.int 0), .val (.int 4), .val (.int 0), .val (.int c0)]) X2 B d10_32 rfl rfl ?_
  refine o_iinc (L' := #[.val (.ref ca), .val (.int 1), .val (.ref da), .val (.int 1), .val (.int 4), .val (.int 0), .val (.int c0)]) X2 B d10_35 rfl rfl ?_
  refine o_iinc (L' := #[.val (.ref ca), .val (.int 1), .val (.ref da), .val (.int 1), .val (.int 4), .val (.int 1), .val (.int c0)]) X2 B d10_38 rfl rfl ?_
  refine o_goto X2 B 3 d10_41 rfl ?_
  refine o_iload X2 B d10_3 rfl ?_
  refine o_iload X2 B d10_5 rfl ?_
  refine o_icN X2 B d10_7 (XT.ii_ge_f (by decide : ((1 : Int32) < (4 : Int32)))) ?_
  show own_G p e below Φ T2 (mkF m 10 #[.val (.ref ca), .val (.int 1), .val (.ref da), .val (.int 1), .val (.int 4), .val (.int 1), .val (.int c0)] [])
  refine o_aloadN X2 B d10_10 rfl rfl ?_
  refine o_iloadN X2 B d10_11 rfl ?_
  have f3 : Arv Z h2 ca kc .char (4 : Int32) [(.int c0), (.int c1), (.int c2), (.int c3)] (.int 0) := V_ca.other W2 ne_ca_da
  obtain ⟨cl4, Ar4, zq4, S4, M4, H4, G4⟩ := id f3
  have hin4 : ¬ ((1 : Int32) < 0 ∨ cl4.slots.size ≤ ((1 : Int32)).toNatClampNeg) := inb_of S4 ⟨by decide, by decide⟩
  refine own_go (fun _ => X2.caload hx (j := (1 : Int32)) (v := (.int c1)) (by rw [e2]; exact Ar4.1) (State.isArrayOf_alike hZ.alike Ar4.2.1) Ar4.2.2 hin4 (H4.at hin4 rfl) (g := (mkF m 12 #[.val (.ref ca), .val (.int 1), .val (.ref da), .val (.int 1), .val (.int 4), .val (.int 1), .val (.int c0)] [(.int 1), (.ref ca)])) rfl rfl (hb hby d10_12) _) ?_
  refine o_istore (L' := #[.val (.ref ca), .val (.int 1), .val (.ref da), .val (.int 1), .val (.int 4), .val (.int 1), .val (.int c1)]) X2 B d10_13 rfl ?_
  refine o_iload X2 B d10_15 rfl ?_
  show own_G p e below Φ T2 (mkF m 17 #[.val (.ref ca), .val (.int 1), .val (.ref da), .val (.int 1), .val (.int 4), .val (.int 1), .val (.int c1)] [(.int c1)])
  refine o_sipush X2 B d10_17 ?_
  refine o_icN X2 B d10_20 (XT.ii_le_f hg1) ?_
  refine o_iload X2 B d10_23 rfl ?_
  rw [hΦ]
  refine own_ret X2 (v := some (.int 1)) (own_nr hret) hlk (fun fs hr => retOut X2 hx hret rfl (Or.inl ⟨rfl, Or.inl rfl, _, rfl⟩) (hb hby d10_25) hr) ?_ (by decide) (by decide)
  rw [e2]
  exact ⟨rfl, N2, K2, V2⟩
theorem ef_rmInn4_2 (m : MethodId) (ca : Addr) (da : Addr) : entryFrame m #[(.ref ca), (.int 0), (.ref da), (.int 0), (.int 4)] 7 = mkF m 0 #[.val (.ref ca), .val (.int 0), .val (.ref da), .val (.int 0), .val (.int 4), .unset, .unset] [] := by first | (simp [entryFrame, mkF, argsToLocals, Value.category]; done) | rfl
def Q_rmInn4_2 (Z : State) (ca : Addr) (kc : ClassId) (da : Addr) (kd : ClassId) (c0 : Int32) (c1 : Int32) (c2 : Int32) (c3 : Int32) (h0 : Heap) (n0 : Nat) (v : Option Value) (h : Heap) (L : List Loc) : Prop := v = some (.int 2) ∧ Fr n0 L ∧ Keep h0 h [da] ∧ Arv Z h da kd .byte (4 : Int32) [(.int (own_lo c0)), (.int (own_lo c1)), (.int 0), (.int 0)] (.int 0)
set_option maxRecDepth 65536 in
set_option maxHeartbeats 40000000 in
theorem rmInn4_2 (l : Launch) (Z : State) (a0 : Array Value) (hw : own_H Z a0) (ws : List Jvm.Cond) (ca : Addr) (kc : ClassId) (da : Addr) (kd : ClassId) (c0 : Int32) (c1 : Int32) (c2 : Int32) (c3 : Int32) (h0 : Heap) (n0 : Nat) (Z0 : n0 ≤ h0.size) (V_ca : Arv Z h0 ca kc .char (4 : Int32) [(.int c0), (.int c1), (.int c2), (.int c3)] (.int 0)) (V_da : Arv Z h0 da kd .byte (4 : Int32) [(.int 0), (.int 0), (.int 0), (.int 0)] (.int 0)) (g_da : n0 ≤ da) (ne_ca_da : ca ≠ da) (hl0 : ¬ (255 : Int32) < c0) (hl1 : ¬ (255 : Int32) < c1) (hg2 : (255 : Int32) < c2) :
    own_Met l (⟨"java/lang/StringUTF16", "compress", "([CI[BII)I"⟩ : MethodName) jdk_52_method_21_code 7 (some .int) ws (own_rm 0 0 0 0) Z h0 #[(.ref ca), (.int 0), (.ref da), (.int 0), (.int 4)] (Q_rmInn4_2 Z ca kc da kd c0 c1 c2 c3 h0 n0) := by
  refine own_met (plainFor_of_name pn_5) (fun m => ef_rmInn4_2 m ca da) ?_
  intro p e s m below meth c s₁ Φ hΦ X0 hx hby hml hown hnm hret hlk hZ e0
  have N0 := Fr.nil n0
  have B : own_B p c _ _ := ⟨hx, hby, hml⟩
  have K0 : Keep h0 h0 [da] := Keep.refl _ _
  show own_G p e below Φ s₁ (mkF m 0 #[.val (.ref ca), .val (.int 0), .val (.ref da), .val (.int 0), .val (.int 4), .unset, .unset] [])
  refine o_iconst X0 B d10_0 ?_
  refine o_istore (L' := #[.val (.ref ca), .val (.int 0), .val (.ref da), .val (.int 0), .val (.int 4), .val (.int 0), .unset]) X0 B d10_1 rfl ?_
  refine o_iload X0 B d10_3 rfl ?_
  refine o_iload X0 B d10_5 rfl ?_
  refine o_icN X0 B d10_7 (XT.ii_ge_f (by decide : ((0 : Int32) < (4 : Int32)))) ?_
  refine o_aloadN X0 B d10_10 rfl rfl ?_
  refine o_iloadN X0 B d10_11 rfl ?_
  obtain ⟨cl1, Ar1, zq1, S1, M1, H1, G1⟩ := id V_ca
  have hin1 : ¬ ((0 : Int32) < 0 ∨ cl1.slots.size ≤ ((0 : Int32)).toNatClampNeg) := inb_of S1 ⟨by decide, by decide⟩
  refine own_go (fun _ => X0.caload hx (j := (0 : Int32)) (v := (.int c0)) (by rw [e0]; exact Ar1.1) (State.isArrayOf_alike hZ.alike Ar1.2.1) Ar1.2.2 hin1 (H1.at hin1 rfl) (g := (mkF m 12 #[.val (.ref ca), .val (.int 0), .val (.ref da), .val (.int 0), .val (.int 4), .val (.int 0), .unset] [(.int 0), (.ref ca)])) rfl rfl (hb hby d10_12) _) ?_
  show own_G p e below Φ s₁ (mkF m 13 #[.val (.ref ca), .val (.int 0), .val (.ref da), .val (.int 0), .val (.int 4), .val (.int 0), .unset] [(.int c0)])
  refine o_istore (L' := #[.val (.ref ca), .val (.int 0), .val (.ref da), .val (.int 0), .val (.int 4), .val (.int 0), .val (.int c0)]) X0 B d10_13 rfl ?_
  refine o_iload X0 B d10_15 rfl ?_
  refine o_sipush X0 B d10_17 ?_
  refine o_icY X0 B 26 d10_20 (XT.ii_le_t hl0) rfl ?_
  refine o_aloadN X0 B d10_26 rfl rfl ?_
  refine o_iloadN X0 B d10_27 rfl ?_
  refine o_iload X0 B d10_28 rfl ?_
  refine own_go (fun _ => XS.i2b X0.here hx rfl (hb hby d10_30) rfl) ?_
  show own_G p e below Φ s₁ (mkF m 31 #[.val (.ref ca), .val (.int 0), .val (.ref da), .val (.int 0), .val (.int 4), .val (.int 0), .val (.int c0)] [(.int (c0.toInt8.toInt32)), (.int 0), (.ref da)])
  obtain ⟨cl2, Ar2, zq2, S2, M2, H2, G2⟩ := id V_da
  have hin2 : ¬ ((0 : Int32) < 0 ∨ cl2.slots.size ≤ ((0 : Int32)).toNatClampNeg) := inb_of S2 ⟨by decide, by decide⟩
  obtain ⟨T2, h2, X2, e2, W2, st2⟩ := stB X0 hx hZ e0 Ar2 (j := (0 : Int32)) hin2 (g := (mkF m 31 #[.val (.ref ca), .val (.int 0), .val (.ref da), .val (.int 0), .val (.int 4), .val (.int 0), .val (.int c0)] [(.int (c0.toInt8.toInt32)), (.int 0), (.ref da)])) rfl rfl (hb hby d10_31)
  refine own_go st2 ?_
  have V2 : Arv Z h2 da kd .byte (4 : Int32) [(.int (nar .byte (c0.toInt8.toInt32))), (.int 0), (.int 0), (.int 0)] (.int 0) := Arv.set Ar2 zq2 S2 M2 H2 G2 (fits_nar_byte (c0.toInt8.toInt32)) W2 0 rfl (Nat.le_of_ble_eq_true rfl)
  have N2 := Fr.snoc X2 N0 g_da
  have K2 := K0.wr W2 (Or.inl (List.mem_of_getElem? (i := 0) rfl))
  have Zp2 : n0 ≤ h2.size := Nat.le_trans Z0 (Keep.of_wr W2).1
  refine o_iinc (L' := #[.val (.ref ca), .val (.int 1), .val (.ref da), .val (.int 0), .val (.int 4), .val (.int 0), .val (.int c0)]) X2 B d10_32 rfl rfl ?_
  refine o_iinc (L' := #[.val (.ref ca), .val (.int 1), .val (.ref da), .val (.int 1), .val (.int 4), .val (.int 0), .val (.int c0)]) X2 B d10_35 rfl rfl ?_
  refine o_iinc (L' := #[.val (.ref ca), .val (.int 1), .val (.ref da), .val (.int 1), .val (.int 4), .val (.int 1), .val (.int c0)]) X2 B d10_38 rfl rfl ?_
  refine o_goto X2 B 3 d10_41 rfl ?_
  refine o_iload X2 B d10_3 rfl ?_
  refine o_iload X2 B d10_5 rfl ?_
  refine o_icN X2 B d10_7 (XT.ii_ge_f (by decide : ((1 : Int32) < (4 : Int32)))) ?_
  show own_G p e below Φ T2 (mkF m 10 #[.val (.ref ca), .val (.int 1), .val (.ref da), .val (.int 1), .val (.int 4), .val (.int 1), .val (.int c0)] [])
  refine o_aloadN X2 B d10_10 rfl rfl ?_
  refine o_iloadN X2 B d10_11 rfl ?_
  have f3 : Arv Z h2 ca kc .char (4 : Int32) [(.int c0), (.int c1), (.int c2), (.int c3)] (.int 0) := V_ca.other W2 ne_ca_da
  obtain ⟨cl4, Ar4, zq4, S4, M4, H4, G4⟩ := id f3
  have hin4 : ¬ ((1 : Int32) < 0 ∨ cl4.slots.size ≤ ((1 : Int32)).toNatClampNeg) := inb_of S4 ⟨by decide, by decide⟩
  refine own_go (fun _ => X2.caload hx (j := (1 : Int32)) (v := (.int c1)) (by rw [e2]; exact Ar4.1) (State.isArrayOf_alike hZ.alike Ar4.2.1) Ar4.2.2 hin4 (H4.at hin4 rfl) (g := (mkF m 12 #[.val (.ref ca), .val (.int 1), .val (.ref da), .val (.int 1), .val (.int 4), .val (.int 1), .val (.int c0)] [(.int 1), (.ref ca)])) rfl rfl (hb hby d10_12) _) ?_
  refine o_istore (L' := #[.val (.ref ca), .val (.int 1), .val (.ref da), .val (.int 1), .val (.int 4), .val (.int 1), .val (.int c1)]) X2 B d10_13 rfl ?_
  refine o_iload X2 B d10_15 rfl ?_
  show own_G p e below Φ T2 (mkF m 17 #[.val (.ref ca), .val (.int 1), .val (.ref da), .val (.int 1), .val (.int 4), .val (.int 1), .val (.int c1)] [(.int c1)])
  refine o_sipush X2 B d10_17 ?_
  refine o_icY X2 B 26 d10_20 (XT.ii_le_t hl1) rfl ?_
  refine o_aloadN X2 B d10_26 rfl rfl ?_
  refine o_iloadN X2 B d10_27 rfl ?_
  refine o_iload X2 B d10_28 rfl ?_
  refine own_go (fun _ => XS.i2b X2.here hx rfl (hb hby d10_30) rfl) ?_
  show own_G p e below Φ T2 (mkF m 31 #[.val (.ref ca), .val (.int 1), .val (.ref da), .val (.int 1), .val (.int 4), .val (.int 1), .val (.int c1)] [(.int (c1.toInt8.toInt32)), (.int 1), (.ref da)])
  obtain ⟨cl5, Ar5, zq5, S5, M5, H5, G5⟩ := id V2
  have hin5 : ¬ ((1 : Int32) < 0 ∨ cl5.slots.size ≤ ((1 : Int32)).toNatClampNeg) := inb_of S5 ⟨by decide, by decide⟩
  obtain ⟨T5, h5, X5, e5, W5, st5⟩ := stB X2 hx hZ e2 Ar5 (j := (1 : Int32)) hin5 (g := (mkF m 31 #[.val (.ref ca), .val (.int 1), .val (.ref da), .val (.int 1), .val (.int 4), .val (.int 1), .val (.int c1)] [(.int (c1.toInt8.toInt32)), (.int 1), (.ref da)])) rfl rfl (hb hby d10_31)
  refine own_go st5 ?_
  have V5 : Arv Z h5 da kd .byte (4 : Int32) [(.int (nar .byte (c0.toInt8.toInt32))), (.int (nar .byte (c1.toInt8.toInt32))), (.int 0), (.int 0)] (.int 0) := Arv.set Ar5 zq5 S5 M5 H5 G5 (fits_nar_byte (c1.toInt8.toInt32)) W5 1 rfl (Nat.le_of_ble_eq_true rfl)
  have N5 := Fr.snoc X5 N2 g_da
  have K5 := K2.wr W5 (Or.inl (List.mem_of_getElem? (i := 0) rfl))
  have Zp5 : n0 ≤ h5.size := Nat.le_trans Zp2 (Keep.of_wr W5).1
  refine o_iinc (L' := #[.val (.ref ca), .val (.int 2), .val (.ref da), .val (.int 1), .val (.int 4), .val (.int 1), .val (.int c1)]) X5 B d10_32 rfl rfl ?_
  refine o_iinc (L' := #[.val (.ref ca), .val (.int 2), .val (.ref da), .val (.int 2), .val (.int 4), .val (.int 1), .val (.int c1)]) X5 B d10_35 rfl rfl ?_
  refine o_iinc (L' := #[.val (.ref ca), .val (.int 2), .val (.ref da), .val (.int 2), .val (.int 4), .val (.int 2), .val (.int c1)]) X5 B d10_38 rfl rfl ?_
  refine o_goto X5 B 3 d10_41 rfl ?_
  refine o_iload X5 B d10_3 rfl ?_
  refine o_iload X5 B d10_5 rfl ?_
  refine o_icN X5 B d10_7 (XT.ii_ge_f (by decide : ((2 : Int32) < (4 : Int32)))) ?_
  show own_G p e below Φ T5 (mkF m 10 #[.val (.ref ca), .val (.int 2), .val (.ref da), .val (.int 2), .val (.int 4), .val (.int 2), .val (.int c1)] [])
  refine o_aloadN X5 B d10_10 rfl rfl ?_
  refine o_iloadN X5 B d10_11 rfl ?_
  have f6 : Arv Z h5 ca kc .char (4 : Int32) [(.int c0), (.int c1), (.int c2), (.int c3)] (.int 0) := f3.other W5 ne_ca_da
  obtain ⟨cl7, Ar7, zq7, S7, M7, H7, G7⟩ := id f6
  have hin7 : ¬ ((2 : Int32) < 0 ∨ cl7.slots.size ≤ ((2 : Int32)).toNatClampNeg) := inb_of S7 ⟨by decide, by decide⟩
  refine own_go (fun _ => X5.caload hx (j := (2 : Int32)) (v := (.int c2)) (by rw [e5]; exact Ar7.1) (State.isArrayOf_alike hZ.alike Ar7.2.1) Ar7.2.2 hin7 (H7.at hin7 rfl) (g := (mkF m 12 #[.val (.ref ca), .val (.int 2), .val (.ref da), .val (.int 2), .val (.int 4), .val (.int 2), .val (.int c1)] [(.int 2), (.ref ca)])) rfl rfl (hb hby d10_12) _) ?_
  refine o_istore (L' := #[.val (.ref ca), .val (.int 2), .val (.ref da), .val (.int 2), .val (.int 4), .val (.int 2), .val (.int c2)]) X5 B d10_13 rfl ?_
  refine o_iload X5 B d10_15 rfl ?_
  show own_G p e below Φ T5 (mkF m 17 #[.val (.ref ca), .val (.int 2), .val (.ref da), .val (.int 2), .val (.int 4), .val (.int 2), .val (.int c2)] [(.int c2)])
  refine o_sipush X5 B d10_17 ?_
  refine o_icN X5 B d10_20 (XT.ii_le_f hg2) ?_
  refine o_iload X5 B d10_23 rfl ?_
  rw [hΦ]
  refine own_ret X5 (v := some (.int 2)) (own_nr hret) hlk (fun fs hr => retOut X5 hx hret rfl (Or.inl ⟨rfl, Or.inl rfl, _, rfl⟩) (hb hby d10_25) hr) ?_ (by decide) (by decide)
  rw [e5]
  exact ⟨rfl, N5, K5, V5⟩
theorem ef_rmInn4_3 (m : MethodId) (ca : Addr) (da : Addr) : entryFrame m #[(.ref ca), (.int 0), (.ref da), (.int 0), (.int 4)] 7 = mkF m 0 #[.val (.ref ca), .val (.int 0), .val (.ref da), .val (.int 0), .val (.int 4), .unset, .unset] [] := by first | (simp [entryFrame, mkF, argsToLocals, Value.category]; done) | rfl
def Q_rmInn4_3 (Z : State) (ca : Addr) (kc : ClassId) (da : Addr) (kd : ClassId) (c0 : Int32) (c1 : Int32) (c2 : Int32) (c3 : Int32) (h0 : Heap) (n0 : Nat) (v : Option Value) (h : Heap) (L : List Loc) : Prop := v = some (.int 3) ∧ Fr n0 L ∧ Keep h0 h [da] ∧ Arv Z h da kd .byte (4 : Int32) [(.int (own_lo c0)), (.int (own_lo c1)), (.int (own_lo c2)), (.int 0)] (.int 0)
set_option maxRecDepth 65536 in
set_option maxHeartbeats 40000000 in
theorem rmInn4_3 (l : Launch) (Z : State) (a0 : Array Value) (hw : own_H Z a0) (ws : List Jvm.Cond) (ca : Addr) (kc : ClassId) (da : Addr) (kd : ClassId) (c0 : Int32) (c1 : Int32) (c2 : Int32) (c3 : Int32) (h0 : Heap) (n0 : Nat) (Z0 : n0 ≤ h0.size) (V_ca : Arv Z h0 ca kc .char (4 : Int32) [(.int c0), (.int c1), (.int c2), (.int c3)] (.int 0)) (V_da : Arv Z h0 da kd .byte (4 : Int32) [(.int 0), (.int 0), (.int 0), (.int 0)] (.int 0)) (g_da : n0 ≤ da) (ne_ca_da : ca ≠ da) (hl0 : ¬ (255 : Int32) < c0) (hl1 : ¬ (255 : Int32) < c1) (hl2 : ¬ (255 : Int32) < c2) (hg3 : (255 : Int32) < c3) :
    own_Met l (⟨"java/lang/StringUTF16", "compress", "([CI[BII)I"⟩ : MethodName) jdk_52_method_21_code 7 (some .int) ws (own_rm 0 0 0 0) Z h0 #[(.ref ca), (.int 0), (.ref da), (.int 0), (.int 4)] (Q_rmInn4_3 Z ca kc da kd c0 c1 c2 c3 h0 n0) := by
  refine own_met (plainFor_of_name pn_5) (fun m => ef_rmInn4_3 m ca da) ?_
  intro p e s m below meth c s₁ Φ hΦ X0 hx hby hml hown hnm hret hlk hZ e0
  have N0 := Fr.nil n0
  have B : own_B p c _ _ := ⟨hx, hby, hml⟩
  have K0 : Keep h0 h0 [da] := Keep.refl _ _
  show own_G p e below Φ s₁ (mkF m 0 #[.val (.ref ca), .val (.int 0), .val (.ref da), .val (.int 0), .val (.int 4), .unset, .unset] [])
  refine o_iconst X0 B d10_0 ?_
  refine o_istore (L' := #[.val (.ref ca), .val (.int 0), .val (.ref da), .val (.int 0), .val (.int 4), .val (.int 0), .unset]) X0 B d10_1 rfl ?_
  refine o_iload X0 B d10_3 rfl ?_
  refine o_iload X0 B d10_5 rfl ?_
  refine o_icN X0 B d10_7 (XT.ii_ge_f (by decide : ((0 : Int32) < (4 : Int32)))) ?_
  refine o_aloadN X0 B d10_10 rfl rfl ?_
  refine o_iloadN X0 B d10_11 rfl ?_
  obtain ⟨cl1, Ar1, zq1, S1, M1, H1, G1⟩ := id V_ca
  have hin1 : ¬ ((0 : Int32) < 0 ∨ cl1.slots.size ≤ ((0 : Int32)).toNatClampNeg) := inb_of S1 ⟨by decide, by decide⟩
  refine own_go (fun _ => X0.caload hx (j := (0 : Int32)) (v := (.int c0)) (by rw [e0]; exact Ar1.1) (State.isArrayOf_alike hZ.alike Ar1.2.1) Ar1.2.2 hin1 (H1.at hin1 rfl) (g := (mkF m 12 #[.val (.ref ca), .val (.int 0), .val (.ref da), .val (.int 0), .val (.int 4), .val (.int 0), .unset] [(.int 0), (.ref ca)])) rfl rfl (hb hby d10_12) _) ?_
  show own_G p e below Φ s₁ (mkF m 13 #[.val (.ref ca), .val (.int 0), .val (.ref da), .val (.int 0), .val (.int 4), .val (.int 0), .unset] [(.int c0)])
  refine o_istore (L' := #[.val (.ref ca), .val (.int 0), .val (.ref da), .val (.int 0), .val (.int 4), .val (.int 0), .val (.int c0)]) X0 B d10_13 rfl ?_
  refine o_iload X0 B d10_15 rfl ?_
  refine o_sipush X0 B d10_17 ?_
  refine o_icY X0 B 26 d10_20 (XT.ii_le_t hl0) rfl ?_
  refine o_aloadN X0 B d10_26 rfl rfl ?_
  refine o_iloadN X0 B d10_27 rfl ?_
  refine o_iload X0 B d10_28 rfl ?_
  refine own_go (fun _ => XS.i2b X0.here hx rfl (hb hby d10_30) rfl) ?_
  show own_G p e below Φ s₁ (mkF m 31 #[.val (.ref ca), .val (.int 0), .val (.ref da), .val (.int 0), .val (.int 4), .val (.int 0), .val (.int c0)] [(.int (c0.toInt8.toInt32)), (.int 0), (.ref da)])
  obtain ⟨cl2, Ar2, zq2, S2, M2, H2, G2⟩ := id V_da
  have hin2 : ¬ ((0 : Int32) < 0 ∨ cl2.slots.size ≤ ((0 : Int32)).toNatClampNeg) := inb_of S2 ⟨by decide, by decide⟩
  obtain ⟨T2, h2, X2, e2, W2, st2⟩ := stB X0 hx hZ e0 Ar2 (j := (0 : Int32)) hin2 (g := (mkF m 31 #[.val (.ref ca), .val (.int 0), .val (.ref da), .val (.int 0), .val (.int 4), .val (.int 0), .val (.int c0)] [(.int (c0.toInt8.toInt32)), (.int 0), (.ref da)])) rfl rfl (hb hby d10_31)
  refine own_go st2 ?_
  have V2 : Arv Z h2 da kd .byte (4 : Int32) [(.int (nar .byte (c0.toInt8.toInt32))), (.int 0), (.int 0), (.int 0)] (.int 0) := Arv.set Ar2 zq2 S2 M2 H2 G2 (fits_nar_byte (c0.toInt8.toInt32)) W2 0 rfl (Nat.le_of_ble_eq_true rfl)
  have N2 := Fr.snoc X2 N0 g_da
  have K2 := K0.wr W2 (Or.inl (List.mem_of_getElem? (i := 0) rfl))
  have Zp2 : n0 ≤ h2.size := Nat.le_trans Z0 (Keep.of_wr W2).1
  refine o_iinc (L' := #[.val (.ref ca), .val (.int 1), .val (.ref da), .val (.int 0), .val (.int 4), .val (.int 0), .val (.int c0)]) X2 B d10_32 rfl rfl ?_
  refine o_iinc (L' := #[.val (.ref ca), .val (.int 1), .val (.ref da), .val (.int 1), .val (.int 4), .val (.int 0), .val (.int c0)]) X2 B d10_35 rfl rfl ?_
  refine o_iinc (L' := #[.val (.ref ca), .val (.int 1), .val (.ref da), .val (.int 1), .val (.int 4), .val (.int 1), .val (.int c0)]) X2 B d10_38 rfl rfl ?_
  refine o_goto X2 B 3 d10_41 rfl ?_
  refine o_iload X2 B d10_3 rfl ?_
  refine o_iload X2 B d10_5 rfl ?_
  refine o_icN X2 B d10_7 (XT.ii_ge_f (by decide : ((1 : Int32) < (4 : Int32)))) ?_
  show own_G p e below Φ T2 (mkF m 10 #[.val (.ref ca), .val (.int 1), .val (.ref da), .val (.int 1), .val (.int 4), .val (.int 1), .val (.int c0)] [])
  refine o_aloadN X2 B d10_10 rfl rfl ?_
  refine o_iloadN X2 B d10_11 rfl ?_
  have f3 : Arv Z h2 ca kc .char (4 : Int32) [(.int c0), (.int c1), (.int c2), (.int c3)] (.int 0) := V_ca.other W2 ne_ca_da
  obtain ⟨cl4, Ar4, zq4, S4, M4, H4, G4⟩ := id f3
  have hin4 : ¬ ((1 : Int32) < 0 ∨ cl4.slots.size ≤ ((1 : Int32)).toNatClampNeg) := inb_of S4 ⟨by decide, by decide⟩
  refine own_go (fun _ => X2.caload hx (j := (1 : Int32)) (v := (.int c1)) (by rw [e2]; exact Ar4.1) (State.isArrayOf_alike hZ.alike Ar4.2.1) Ar4.2.2 hin4 (H4.at hin4 rfl) (g := (mkF m 12 #[.val (.ref ca), .val (.int 1), .val (.ref da), .val (.int 1), .val (.int 4), .val (.int 1), .val (.int c0)] [(.int 1), (.ref ca)])) rfl rfl (hb hby d10_12) _) ?_
  refine o_istore (L' := #[.val (.ref ca), .val (.int 1), .val (.ref da), .val (.int 1), .val (.int 4), .val (.int 1), .val (.int c1)]) X2 B d10_13 rfl ?_
  refine o_iload X2 B d10_15 rfl ?_
  show own_G p e below Φ T2 (mkF m 17 #[.val (.ref ca), .val (.int 1), .val (.ref da), .val (.int 1), .val (.int 4), .val (.int 1), .val (.int c1)] [(.int c1)])
  refine o_sipush X2 B d10_17 ?_
  refine o_icY X2 B 26 d10_20 (XT.ii_le_t hl1) rfl ?_
  refine o_aloadN X2 B d10_26 rfl rfl ?_
  refine o_iloadN X2 B d10_27 rfl ?_
  refine o_iload X2 B d10_28 rfl ?_
  refine own_go (fun _ => XS.i2b X2.here hx rfl (hb hby d10_30) rfl) ?_
  show own_G p e below Φ T2 (mkF m 31 #[.val (.ref ca), .val (.int 1), .val (.ref da), .val (.int 1), .val (.int 4), .val (.int 1), .val (.int c1)] [(.int (c1.toInt8.toInt32)), (.int 1), (.ref da)])
  obtain ⟨cl5, Ar5, zq5, S5, M5, H5, G5⟩ := id V2
  have hin5 : ¬ ((1 : Int32) < 0 ∨ cl5.slots.size ≤ ((1 : Int32)).toNatClampNeg) := inb_of S5 ⟨by decide, by decide⟩
  obtain ⟨T5, h5, X5, e5, W5, st5⟩ := stB X2 hx hZ e2 Ar5 (j := (1 : Int32)) hin5 (g := (mkF m 31 #[.val (.ref ca), .val (.int 1), .val (.ref da), .val (.int 1), .val (.int 4), .val (.int 1), .val (.int c1)] [(.int (c1.toInt8.toInt32)), (.int 1), (.ref da)])) rfl rfl (hb hby d10_31)
  refine own_go st5 ?_
  have V5 : Arv Z h5 da kd .byte (4 : Int32) [(.int (nar .byte (c0.toInt8.toInt32))), (.int (nar .byte (c1.toInt8.toInt32))), (.int 0), (.int 0)] (.int 0) := Arv.set Ar5 zq5 S5 M5 H5 G5 (fits_nar_byte (c1.toInt8.toInt32)) W5 1 rfl (Nat.le_of_ble_eq_true rfl)
  have N5 := Fr.snoc X5 N2 g_da
  have K5 := K2.wr W5 (Or.inl (List.mem_of_getElem? (i := 0) rfl))
  have Zp5 : n0 ≤ h5.size := Nat.le_trans Zp2 (Keep.of_wr W5).1
  refine o_iinc (L' := #[.val (.ref ca), .val (.int 2), .val (.ref da), .val (.int 1), .val (.int 4), .val (.int 1), .val (.int c1)]) X5 B d10_32 rfl rfl ?_
  refine o_iinc (L' := #[.val (.ref ca), .val (.int 2), .val (.ref da), .val (.int 2), .val (.int 4), .val (.int 1), .val (.int c1)]) X5 B d10_35 rfl rfl ?_
  refine o_iinc (L' := #[.val (.ref ca), .val (.int 2), .val (.ref da), .val (.int 2), .val (.int 4), .val (.int 2), .val (.int c1)]) X5 B d10_38 rfl rfl ?_
  refine o_goto X5 B 3 d10_41 rfl ?_
  refine o_iload X5 B d10_3 rfl ?_
  refine o_iload X5 B d10_5 rfl ?_
  refine o_icN X5 B d10_7 (XT.ii_ge_f (by decide : ((2 : Int32) < (4 : Int32)))) ?_
  show own_G p e below Φ T5 (mkF m 10 #[.val (.ref ca), .val (.int 2), .val (.ref da), .val (.int 2), .val (.int 4), .val (.int 2), .val (.int c1)] [])
  refine o_aloadN X5 B d10_10 rfl rfl ?_
  refine o_iloadN X5 B d10_11 rfl ?_
  have f6 : Arv Z h5 ca kc .char (4 : Int32) [(.int c0), (.int c1), (.int c2), (.int c3)] (.int 0) := f3.other W5 ne_ca_da
  obtain ⟨cl7, Ar7, zq7, S7, M7, H7, G7⟩ := id f6
  have hin7 : ¬ ((2 : Int32) < 0 ∨ cl7.slots.size ≤ ((2 : Int32)).toNatClampNeg) := inb_of S7 ⟨by decide, by decide⟩
  refine own_go (fun _ => X5.caload hx (j := (2 : Int32)) (v := (.int c2)) (by rw [e5]; exact Ar7.1) (State.isArrayOf_alike hZ.alike Ar7.2.1) Ar7.2.2 hin7 (H7.at hin7 rfl) (g := (mkF m 12 #[.val (.ref ca), .val (.int 2), .val (.ref da), .val (.int 2), .val (.int 4), .val (.int 2), .val (.int c1)] [(.int 2), (.ref ca)])) rfl rfl (hb hby d10_12) _) ?_
  refine o_istore (L' := #[.val (.ref ca), .val (.int 2), .val (.ref da), .val (.int 2), .val (.int 4), .val (.int 2), .val (.int c2)]) X5 B d10_13 rfl ?_
  refine o_iload X5 B d10_15 rfl ?_
  show own_G p e below Φ T5 (mkF m 17 #[.val (.ref ca), .val (.int 2), .val (.ref da), .val (.int 2), .val (.int 4), .val (.int 2), .val (.int c2)] [(.int c2)])
  refine o_sipush X5 B d10_17 ?_
  refine o_icY X5 B 26 d10_20 (XT.ii_le_t hl2) rfl ?_
  refine o_aloadN X5 B d10_26 rfl rfl ?_
  refine o_iloadN X5 B d10_27 rfl ?_
  refine o_iload X5 B d10_28 rfl ?_
  refine own_go (fun _ => XS.i2b X5.here hx rfl (hb hby d10_30) rfl) ?_
  show own_G p e below Φ T5 (mkF m 31 #[.val (.ref ca), .val (.int 2), .val (.ref da), .val (.int 2), .val (.int 4), .val (.int 2), .val (.int c2)] [(.int (c2.toInt8.toInt32)), (.int 2), (.ref da)])
  obtain ⟨cl8, Ar8, zq8, S8, M8, H8, G8⟩ := id V5
  have hin8 : ¬ ((2 : Int32) < 0 ∨ cl8.slots.size ≤ ((2 : Int32)).toNatClampNeg) := inb_of S8 ⟨by decide, by decide⟩
  obtain ⟨T8, h8, X8, e8, W8, st8⟩ := stB X5 hx hZ e5 Ar8 (j := (2 : Int32)) hin8 (g := (mkF m 31 #[.val (.ref ca), .val (.int 2), .val (.ref da), .val (.int 2), .val (.int 4), .val (.int 2), .val (.int c2)] [(.int (c2.toInt8.toInt32)), (.int 2), (.ref da)])) rfl rfl (hb hby d10_31)
  refine own_go st8 ?_
  have V8 : Arv Z h8 da kd .byte (4 : Int32) [(.int (nar .byte (c0.toInt8.toInt32))), (.int (nar .byte (c1.toInt8.toInt32))), (.int (nar .byte (c2.toInt8.toInt32))), (.int 0)] (.int 0) := Arv.set Ar8 zq8 S8 M8 H8 G8 (fits_nar_byte (c2.toInt8.toInt32)) W8 2 rfl (Nat.le_of_ble_eq_true rfl)
  have N8 := Fr.snoc X8 N5 g_da
  have K8 := K5.wr W8 (Or.inl (List.mem_of_getElem? (i := 0) rfl))
  have Zp8 : n0 ≤ h8.size := Nat.le_trans Zp5 (Keep.of_wr W8).1
  refine o_iinc (L' := #[.val (.ref ca), .val (.int 3), .val (.ref da), .val (.int 2), .val (.int 4), .val (.int 2), .val (.int c2)]) X8 B d10_32 rfl rfl ?_
  refine o_iinc (L' := #[.val (.ref ca), .val (.int 3), .val (.ref da), .val (.int 3), .val (.int 4), .val (.int 2), .val (.int c2)]) X8 B d10_35 rfl rfl ?_
  refine o_iinc (L' := #[.val (.ref ca), .val (.int 3), .val (.ref da), .val (.int 3), .val (.int 4), .val (.int 3), .val (.int c2)]) X8 B d10_38 rfl rfl ?_
  refine o_goto X8 B 3 d10_41 rfl ?_
  refine o_iload X8 B d10_3 rfl ?_
  refine o_iload X8 B d10_5 rfl ?_
  refine o_icN X8 B d10_7 (XT.ii_ge_f (by decide : ((3 : Int32) < (4 : Int32)))) ?_
  show own_G p e below Φ T8 (mkF m 10 #[.val (.ref ca), .val (.int 3), .val (.ref da), .val (.int 3), .val (.int 4), .val (.int 3), .val (.int c2)] [])
  refine o_aloadN X8 B d10_10 rfl rfl ?_
  refine o_iloadN X8 B d10_11 rfl ?_
  have f9 : Arv Z h8 ca kc .char (4 : Int32) [(.int c0), (.int c1), (.int c2), (.int c3)] (.int 0) := f6.other W8 ne_ca_da
  obtain ⟨cl10, Ar10, zq10, S10, M10, H10, G10⟩ := id f9
  have hin10 : ¬ ((3 : Int32) < 0 ∨ cl10.slots.size ≤ ((3 : Int32)).toNatClampNeg) := inb_of S10 ⟨by decide, by decide⟩
  refine own_go (fun _ => X8.caload hx (j := (3 : Int32)) (v := (.int c3)) (by rw [e8]; exact Ar10.1) (State.isArrayOf_alike hZ.alike Ar10.2.1) Ar10.2.2 hin10 (H10.at hin10 rfl) (g := (mkF m 12 #[.val (.ref ca), .val (.int 3), .val (.ref da), .val (.int 3), .val (.int 4), .val (.int 3), .val (.int c2)] [(.int 3), (.ref ca)])) rfl rfl (hb hby d10_12) _) ?_
  refine o_istore (L' := #[.val (.ref ca), .val (.int 3), .val (.ref da), .val (.int 3), .val (.int 4), .val (.int 3), .val (.int c3)]) X8 B d10_13 rfl ?_
  refine o_iload X8 B d10_15 rfl ?_
  show own_G p e below Φ T8 (mkF m 17 #[.val (.ref ca), .val (.int 3), .val (.ref da), .val (.int 3), .val (.int 4), .val (.int 3), .val (.int c3)] [(.int c3)])
  refine o_sipush X8 B d10_17 ?_
  refine o_icN X8 B d10_20 (XT.ii_le_f hg3) ?_
  refine o_iload X8 B d10_23 rfl ?_
  rw [hΦ]
  refine own_ret X8 (v := some (.int 3)) (own_nr hret) hlk (fun fs hr => retOut X8 hx hret rfl (Or.inl ⟨rfl, Or.inl rfl, _, rfl⟩) (hb hby d10_25) hr) ?_ (by decide) (by decide)
  rw [e8]
  exact ⟨rfl, N8, K8, V8⟩
theorem d9_0 : decode jdk_52_method_16_code 0 = .ok (.iload_n 2, 1) := by decide +kernel
theorem d9_1 : decode jdk_52_method_16_code 1 = .ok (.newarray .byte, 2) := by decide +kernel
theorem d9_3 : decode jdk_52_method_16_code 3 = .ok (.astore_n 3, 1) := by decide +kernel
theorem d9_4 : decode jdk_52_method_16_code 4 = .ok (.aload_n 0, 1) := by decide +kernel
theorem d9_5 : decode jdk_52_method_16_code 5 = .ok (.iload_n 1, 1) := by decide +kernel
theorem d9_6 : decode jdk_52_method_16_code 6 = .ok (.aload_n 3, 1) := by decide +kernel
theorem d9_7 : decode jdk_52_method_16_code 7 = .ok (.iconst 0, 1) := by decide +kernel
theorem d9_8 : decode jdk_52_method_16_code 8 = .ok (.iload_n 2, 1) := by decide +kernel
theorem d9_9 : decode jdk_52_method_16_code 9 = .ok (.invokestatic 115, 3) := by decide +kernel
theorem wd_52 {Z : State} {a0 : Array Value} (hw : own_H Z a0) : ((Jvm.Cond.methodLink "java/lang/StringUTF16" (115 : Nat) ({ cls := "java/lang/StringUTF16", name := "compress", desc := "([CI[BII)I" } : Jvm.MethodName)) : Jvm.Cond).before a0 Z = true := hw _ (List.mem_of_getElem? (i := 52) rfl)
theorem wd_54 {Z : State} {a0 : Array Value} (hw : own_H Z a0) : ((Jvm.Cond.code ({ cls := "java/lang/StringUTF16", name := "compress", desc := "([CI[BII)I" } : Jvm.MethodName) jdk_52_method_21_code (7 : Nat) (Option.some Jvm.ClassFile.FieldType.int)) : Jvm.Cond).before a0 Z = true := hw _ (List.mem_of_getElem? (i := 54) rfl)
theorem pd_10 : parseMethodDescriptor "([CI[BII)I" = some ⟨[(.array .char), .int, (.array .byte), .int, .int], some .int⟩ := by decide +kernel
theorem wd_53 {Z : State} {a0 : Array Value} (hw : own_H Z a0) : ((Jvm.Cond.static ({ cls := "java/lang/StringUTF16", name := "compress", desc := "([CI[BII)I" } : Jvm.MethodName)) : Jvm.Cond).before a0 Z = true := hw _ (List.mem_of_getElem? (i := 53) rfl)
theorem d9_12 : decode jdk_52_method_16_code 12 = .ok (.istore 4, 2) := by decide +kernel
theorem d9_14 : decode jdk_52_method_16_code 14 = .ok (.iload 4, 2) := by decide +kernel
theorem d9_16 : decode jdk_52_method_16_code 16 = .ok (.iload_n 2, 1) := by decide +kernel
theorem d9_17 : decode jdk_52_method_16_code 17 = .ok (.if_icmp .eq 40, 3) := by decide +kernel
theorem d9_57 : decode jdk_52_method_16_code 57 = .ok (.aload_n 3, 1) := by decide +kernel
theorem d9_58 : decode jdk_52_method_16_code 58 = .ok (.areturn, 1) := by decide +kernel
theorem ef_rmCmp1_0 (m : MethodId) (ca : Addr) : entryFrame m #[(.ref ca), (.int 0), (.int 1)] 6 = mkF m 0 #[.val (.ref ca), .val (.int 0), .val (.int 1), .unset, .unset, .unset] [] := by first | (simp [entryFrame, mkF, argsToLocals, Value.category]; done) | rfl
def Q_rmCmp1_0 (Z : State) (ca : Addr) (kc : ClassId) (c0 : Int32) (h0 : Heap) (n0 : Nat) (v : Option Value) (h : Heap) (L : List Loc) : Prop := ∃ vb : Addr, h0.size ≤ vb ∧ ∃ kb : ClassId, v = some (.ref vb) ∧ Fr n0 L ∧ Keep h0 h [] ∧ Arv Z h vb kb .byte (1 : Int32) [(.int (own_lo c0))] (.int 0)
set_option maxRecDepth 65536 in
set_option maxHeartbeats 40000000 in
theorem rmCmp1_0 (l : Launch) (Z : State) (a0 : Array Value) (hw : own_H Z a0) (ws : List Jvm.Cond) (ca : Addr) (kc : ClassId) (c0 : Int32) (h0 : Heap) (n0 : Nat) (Z0 : n0 ≤ h0.size) (V_ca : Arv Z h0 ca kc .char (1 : Int32) [(.int c0)] (.int 0)) (hl0 : ¬ (255 : Int32) < c0) :
    own_Met l (⟨"java/lang/StringUTF16", "compress", "([CII)[B"⟩ : MethodName) jdk_52_method_16_code 6 (some (.array .byte)) ws (own_rm 1 1 1 18) Z h0 #[(.ref ca), (.int 0), (.int 1)] (Q_rmCmp1_0 Z ca kc c0 h0 n0) := by
  refine own_met (plainFor_of_name pn_5) (fun m => ef_rmCmp1_0 m ca) ?_
  intro p e s m below meth c s₁ Φ hΦ X0 hx hby hml hown hnm hret hlk hZ e0
  have N0 := Fr.nil n0
  have B : own_B p c _ _ := ⟨hx, hby, hml⟩
  have K0 : Keep h0 h0 [] := Keep.refl _ _
  show own_G p e below Φ s₁ (mkF m 0 #[.val (.ref ca), .val (.int 0), .val (.int 1), .unset, .unset, .unset] [])
  refine o_iloadN X0 B d9_0 rfl ?_
  obtain ⟨T1, h1, ka1, X1, e1, E1, A1, st1⟩ := newP (aty := .byte) X0 hx hZ (wd_22 hw) e0 (g := (mkF m 1 #[.val (.ref ca), .val (.int 0), .val (.int 1), .unset, .unset, .unset] [(.int 1)])) rfl (hb hby d9_1) rfl (by decide) (cap := 1) (by decide) (by decide) (by decide) (by decide)
  obtain ⟨ob1, g1⟩ : ∃ z, z = h0.size := ⟨_, rfl⟩
  rw [← g1] at A1 st1
  have ne_ca_ob1 : ca ≠ ob1 := Nat.ne_of_lt (Nat.lt_of_lt_of_le V_ca.lt (Nat.le_of_eq g1.symm))
  have V1 : Arv Z h1 ob1 ka1 .byte (1 : Int32) [(.int 0)] (.int 0) := (Arv.new A1 (by decide)).pad (pad_rep [] (.int 0) 1)
  have g_ob1 : n0 ≤ ob1 := Nat.le_trans Z0 (Nat.le_of_eq g1.symm)
  have sz_ob1 : h0.size ≤ ob1 := Nat.le_trans K0.1 (Nat.le_of_eq g1.symm)
  have K1 := K0.ext E1
  have Zp1 : n0 ≤ h1.size := Nat.le_trans Z0 E1.1
  refine own_go st1 ?_
  refine o_astoreN (L' := #[.val (.ref ca), .val (.int 0), .val (.int 1), .val (.ref ob1), .unset, .unset]) X1 B d9_3 rfl rfl ?_
  refine o_aloadN X1 B d9_4 rfl rfl ?_
  refine o_iloadN X1 B d9_5 rfl ?_
  refine o_aloadN X1 B d9_6 rfl rfl ?_
  refine o_iconst X1 B d9_7 ?_
  refine o_iloadN X1 B d9_8 rfl ?_
  show own_G p e below Φ T1 (mkF m 9 #[.val (.ref ca), .val (.int 0), .val (.int 1), .val (.ref ob1), .unset, .unset] [(.int 1), (.int 0), (.ref ob1), (.int 0), (.ref ca)])
  have f2 : Arv Z h1 ca kc .char (1 : Int32) [(.int c0)] (.int 0) := V_ca.ext E1
  refine o_cS (argsL := [(.ref ca), (.int 0), (.ref ob1), (.int 0), (.int 1)]) (rest := []) X1 B hZ hown (wd_52 hw) (wd_53 hw) (wd_54 hw) (wd_50 hw) (by decide) 0 (rmInn1_a l Z a0 hw [] ca kc ob1 ka1 c0 h1 n0 Zp1 f2 V1 g_ob1 ne_ca_ob1 hl0) (by decide) (by decide) (lenOf pd_10 rfl) rfl rfl rfl d9_9 e1 (by decide) (by decide) rfl ?_
  rintro _ T3 _ X3 ⟨rfl, N3q, Kq3, p3_0⟩
  have N3 := Fr.app N0 N3q
  have K3 := K1.trans Kq3 (allS (Or.inr sz_ob1) all0)
  have Zp3 : n0 ≤ T3.heap.size := Nat.le_trans Zp1 Kq3.1
  refine o_istore (L' := #[.val (.ref ca), .val (.int 0), .val (.int 1), .val (.ref ob1), .val (.int 1), .unset]) X3 B d9_12 rfl ?_
  refine o_iload X3 B d9_14 rfl ?_
  refine o_iloadN X3 B d9_16 rfl ?_
  refine o_icY X3 B 57 d9_17 (XT.ii_eq_t (by decide : ((1 : Int32) = (1 : Int32)))) rfl ?_
  refine o_aloadN X3 B d9_57 rfl rfl ?_
  rw [hΦ]
  refine own_ret X3 (v := some (.ref ob1)) (own_nr hret) hlk (fun fs hr => retOut X3 hx hret rfl (Or.inr (Or.inr (Or.inr (Or.inr ⟨rfl, rfl, rfl⟩)))) (hb hby d9_58) hr) ?_ (by decide) (by decide)
  exact ⟨ob1, sz_ob1, ka1, rfl, N3, K3, p3_0⟩
theorem d9_20 : decode jdk_52_method_16_code 20 = .ok (.aload_n 0, 1) := by decide +kernel
theorem d9_21 : decode jdk_52_method_16_code 21 = .ok (.iload_n 1, 1) := by decide +kernel
theorem d9_22 : decode jdk_52_method_16_code 22 = .ok (.iload_n 2, 1) := by decide +kernel
theorem d9_23 : decode jdk_52_method_16_code 23 = .ok (.invokestatic 119, 3) := by decide +kernel
theorem wd_90 {Z : State} {a0 : Array Value} (hw : own_H Z a0) : ((Jvm.Cond.methodLink "java/lang/StringUTF16" (119 : Nat) ({ cls := "java/lang/StringUTF16", name := "toBytes", desc := "([CII)[B" } : Jvm.MethodName)) : Jvm.Cond).before a0 Z = true := hw _ (List.mem_of_getElem? (i := 90) rfl)
theorem wd_92 {Z : State} {a0 : Array Value} (hw : own_H Z a0) : ((Jvm.Cond.code ({ cls := "java/lang/StringUTF16", name := "toBytes", desc := "([CII)[B" } : Jvm.MethodName) jdk_52_method_14_code (5 : Nat) (Option.some (Jvm.ClassFile.FieldType.array Jvm.ClassFile.FieldType.byte))) : Jvm.Cond).before a0 Z = true := hw _ (List.mem_of_getElem? (i := 92) rfl)
theorem pd_11 : parseMethodDescriptor "([CII)[B" = some ⟨[(.array .char), .int, .int], some (.array .byte)⟩ := by decide +kernel
theorem wd_91 {Z : State} {a0 : Array Value} (hw : own_H Z a0) : ((Jvm.Cond.static ({ cls := "java/lang/StringUTF16", name := "toBytes", desc := "([CII)[B" } : Jvm.MethodName)) : Jvm.Cond).before a0 Z = true := hw _ (List.mem_of_getElem? (i := 91) rfl)
theorem d9_26 : decode jdk_52_method_16_code 26 = .ok (.astore 5, 2) := by decide +kernel
theorem d9_28 : decode jdk_52_method_16_code 28 = .ok (.aload 5, 2) := by decide +kernel
theorem d9_30 : decode jdk_52_method_16_code 30 = .ok (.iload 4, 2) := by decide +kernel
theorem d9_32 : decode jdk_52_method_16_code 32 = .ok (.invokestatic 71, 3) := by decide +kernel
theorem d9_35 : decode jdk_52_method_16_code 35 = .ok (.sipush 255, 3) := by decide +kernel
theorem d9_38 : decode jdk_52_method_16_code 38 = .ok (.if_icmp .gt 16, 3) := by decide +kernel
theorem d9_54 : decode jdk_52_method_16_code 54 = .ok (.aload 5, 2) := by decide +kernel
theorem d9_56 : decode jdk_52_method_16_code 56 = .ok (.areturn, 1) := by decide +kernel
theorem ef_rmCmp1_1 (m : MethodId) (ca : Addr) : entryFrame m #[(.ref ca), (.int 0), (.int 1)] 6 = mkF m 0 #[.val (.ref ca), .val (.int 0), .val (.int 1), .unset, .unset, .unset] [] := by first | (simp [entryFrame, mkF, argsToLocals, Value.category]; done) | rfl
def Q_rmCmp1_1 (Z : State) (ca : Addr) (kc : ClassId) (c0 : Int32) (h0 : Heap) (n0 : Nat) (v : Option Value) (h : Heap) (L : List Loc) : Prop := ∃ vb : Addr, h0.size ≤ vb ∧ ∃ kb : ClassId, v = some (.ref vb) ∧ Fr n0 L ∧ Keep h0 h [] ∧ Arv Z h vb kb .byte (2 : Int32) [(.int (own_h0 c0)), (.int (own_h8 c0))] (.int 0)
set_option maxRecDepth 65536 in
set_option maxHeartbeats 40000000 in
theorem rmCmp1_1 (l : Launch) (Z : State) (a0 : Array Value) (hw : own_H Z a0) (ws : List Jvm.Cond) (ca : Addr) (kc : ClassId) (c0 : Int32) (h0 : Heap) (n0 : Nat) (Z0 : n0 ≤ h0.size) (O0 : Old Z n0 h0) (S__assertionsDisabled : Sta Z Z.heap "java/lang/StringUTF16" "$assertionsDisabled" "Z" (.int 1)) (S_HI_BYTE_SHIFT : Sta Z Z.heap "java/lang/StringUTF16" "HI_BYTE_SHIFT" "I" (.int 0)) (S_LO_BYTE_SHIFT : Sta Z Z.heap "java/lang/StringUTF16" "LO_BYTE_SHIFT" "I" (.int 8)) (V_ca : Arv Z h0 ca kc .char (1 : Int32) [(.int c0)] (.int 0)) (hr0 : ¬ c0 < 0 ∧ ¬ (65535 : Int32) < c0) (hex : (255 : Int32) < c0) :
    own_Met l (⟨"java/lang/StringUTF16", "compress", "([CII)[B"⟩ : MethodName) jdk_52_method_16_code 6 (some (.array .byte)) ws (own_rm 3 2 3 40) Z h0 #[(.ref ca), (.int 0), (.int 1)] (Q_rmCmp1_1 Z ca kc c0 h0 n0) := by
  refine own_met (plainFor_of_name pn_5) (fun m => ef_rmCmp1_1 m ca) ?_
  intro p e s m below meth c s₁ Φ hΦ X0 hx hby hml hown hnm hret hlk hZ e0
  have N0 := Fr.nil n0
  have B : own_B p c _ _ := ⟨hx, hby, hml⟩
  have K0 : Keep h0 h0 [] := Keep.refl _ _
  show own_G p e below Φ s₁ (mkF m 0 #[.val (.ref ca), .val (.int 0), .val (.int 1), .unset, .unset, .unset] [])
  by_cases hg0 : (255 : Int32) < c0
  · show own_G p e below Φ s₁ (mkF m 0 #[.val (.ref ca), .val (.int 0), .val (.int 1), .unset, .unset, .unset] [])
    refine o_iloadN X0 B d9_0 rfl ?_
    obtain ⟨T1, h1, ka1, X1, e1, E1, A1, st1⟩ := newP (aty := .byte) X0 hx hZ (wd_22 hw) e0 (g := (mkF m 1 #[.val (.ref ca), .val (.int 0), .val (.int 1), .unset, .unset, .unset] [(.int 1)])) rfl (hb hby d9_1) rfl (by decide) (cap := 1) (by decide) (by decide) (by decide) (by decide)
    obtain ⟨ob1, g1⟩ : ∃ z, z = h0.size := ⟨_, rfl⟩
    rw [← g1] at A1 st1
    have ne_ca_ob1 : ca ≠ ob1 := Nat.ne_of_lt (Nat.lt_of_lt_of_le V_ca.lt (Nat.le_of_eq g1.symm))
    have V1 : Arv Z h1 ob1 ka1 .byte (1 : Int32) [(.int 0)] (.int 0) := (Arv.new A1 (by decide)).pad (pad_rep [] (.int 0) 1)
    have g_ob1 : n0 ≤ ob1 := Nat.le_trans Z0 (Nat.le_of_eq g1.symm)
    have sz_ob1 : h0.size ≤ ob1 := Nat.le_trans K0.1 (Nat.le_of_eq g1.symm)
    have K1 := K0.ext E1
    have Zp1 : n0 ≤ h1.size := Nat.le_trans Z0 E1.1
    refine own_go st1 ?_
    have O2 := O0.ext E1
    refine o_astoreN (L' := #[.val (.ref ca), .val (.int 0), .val (.int 1), .val (.ref ob1), .unset, .unset]) X1 B d9_3 rfl rfl ?_
    refine o_aloadN X1 B d9_4 rfl rfl ?_
    refine o_iloadN X1 B d9_5 rfl ?_
    refine o_aloadN X1 B d9_6 rfl rfl ?_
    refine o_iconst X1 B d9_7 ?_
    refine o_iloadN X1 B d9_8 rfl ?_
    show own_G p e below Φ T1 (mkF m 9 #[.val (.ref ca), .val (.int 0), .val (.int 1), .val (.ref ob1), .unset, .unset] [(.int 1), (.int 0), (.ref ob1), (.int 0), (.ref ca)])
    have f3 : Arv Z h1 ca kc .char (1 : Int32) [(.int c0)] (.int 0) := V_ca.ext E1
    refine o_cS (argsL := [(.ref ca), (.int 0), (.ref ob1), (.int 0), (.int 1)]) (rest := []) X1 B hZ hown (wd_52 hw) (wd_53 hw) (wd_54 hw) (wd_50 hw) (by decide) 0 (rmInn1_0 l Z a0 hw [] ca kc ob1 ka1 c0 h1 n0 Zp1 f3 V1 g_ob1 ne_ca_ob1 hg0) (by decide) (by decide) (lenOf pd_10 rfl) rfl rfl rfl d9_9 e1 (by decide) (by decide) rfl ?_
    rintro _ T4 _ X4 ⟨rfl, N4q, Kq4, p4_0⟩
    have N4 := Fr.app N0 N4q
    have K4 := K1.trans Kq4 (allS (Or.inr sz_ob1) all0)
    have Zp4 : n0 ≤ T4.heap.size := Nat.le_trans Zp1 Kq4.1
    have O5 := O2.keep Kq4 (allS g_ob1 all0)
    refine o_istore (L' := #[.val (.ref ca), .val (.int 0), .val (.int 1), .val (.ref ob1), .val (.int 0), .unset]) X4 B d9_12 rfl ?_
    refine o_iload X4 B d9_14 rfl ?_
    refine o_iloadN X4 B d9_16 rfl ?_
    refine o_icN X4 B d9_17 (XT.ii_eq_f (by decide : ¬ ((0 : Int32) = (1 : Int32)))) ?_
    refine o_aloadN X4 B d9_20 rfl rfl ?_
    refine o_iloadN X4 B d9_21 rfl ?_
    refine o_iloadN X4 B d9_22 rfl ?_
    show own_G p e below Φ T4 (mkF m 23 #[.val (.ref ca), .val (.int 0), .val (.int 1), .val (.ref ob1), .val (.int 0), .unset] [(.int 1), (.int 0), (.ref ca)])
    have f6 : Arv Z T4.heap ca kc .char (1 : Int32) [(.int c0)] (.int 0) := f3.keep Kq4 (ninS ne_ca_ob1 nin0)
    refine o_cS (argsL := [(.ref ca), (.int 0), (.int 1)]) (rest := []) X4 B hZ hown (wd_90 hw) (wd_91 hw) (wd_92 hw) (wd_50 hw) (by decide) 0 (rmTob1 l Z a0 hw [] ca kc c0 T4.heap n0 Zp4 O5 S__assertionsDisabled S_HI_BYTE_SHIFT S_LO_BYTE_SHIFT f6) (by decide) (by decide) (lenOf pd_11 rfl) rfl rfl rfl d9_23 rfl (by decide) (by decide) rfl ?_
    rintro _ T7 _ X7 ⟨vb_7, ns_vb_7, kb_7, rfl, N7q, Kq7, p7_0⟩
    have N7 := Fr.app N4 N7q
    have ne_ca_vb_7 : ca ≠ vb_7 := Nat.ne_of_lt (Nat.lt_of_lt_of_le f6.lt ns_vb_7)
    have ne_ob1_vb_7 : ob1 ≠ vb_7 := Nat.ne_of_lt (Nat.lt_of_lt_of_le p4_0.lt ns_vb_7)
    have sz_vb_7 : h0.size ≤ vb_7 := Nat.le_trans K4.1 ns_vb_7
    have K7 := K4.trans Kq7 all0
    have g_vb_7 : n0 ≤ vb_7 := Nat.le_trans Zp4 ns_vb_7
    have Zp7 : n0 ≤ T7.heap.size := Nat.le_trans Zp4 Kq7.1
    have O8 := O5.keep Kq7 all0
    refine o_astore (L' := #[.val (.ref ca), .val (.int 0), .val (.int 1), .val (.ref ob1), .val (.int 0), .val (.ref vb_7)]) X7 B d9_26 rfl rfl ?_
    refine o_aload X7 B d9_28 rfl rfl ?_
    refine o_iload X7 B d9_30 rfl ?_
    refine o_cS (argsL := [(.ref vb_7), (.int 0)]) (rest := []) X7 B hZ hown (wd_106 hw) (wd_107 hw) (wd_108 hw) (wd_50 hw) (by decide) 0 (rmGch l Z a0 hw [] vb_7 kb_7 (2 : Int32) ([(own_h0 c0), (own_h8 c0)]) (0 : Int32) T7.heap n0 Zp7 O8 S__assertionsDisabled S_HI_BYTE_SHIFT S_LO_BYTE_SHIFT p7_0 ⟨by decide, by decide⟩ ⟨by decide, by decide⟩) (by decide) (by decide) (lenOf pd_5 rfl) rfl rfl rfl d9_32 rfl (by decide) (by decide) rfl ?_
    rintro _ T9 _ X9 ⟨rfl, N9q, hs9⟩
    have N9 := Fr.app N7 N9q
    show own_G p e below Φ T9 (mkF m 35 #[.val (.ref ca), .val (.int 0), .val (.int 1), .val (.ref ob1), .val (.int 0), .val (.ref vb_7)] [(.int (own_c16 ([(own_h0 c0), (own_h8 c0)]) (0 : Int32)))])
    have hq10 : (own_c16 ([(own_h0 c0), (own_h8 c0)]) (0 : Int32)) = c0 := own_r16 hr0
    rw [hq10]
    refine o_sipush X9 B d9_35 ?_
    refine o_icY X9 B 54 d9_38 (XT.ii_gt_t hg0) rfl ?_
    refine o_aload X9 B d9_54 rfl rfl ?_
    show own_G p e below Φ T9 (mkF m 56 #[.val (.ref ca), .val (.int 0), .val (.int 1), .val (.ref ob1), .val (.int 0), .val (.ref vb_7)] [(.ref vb_7)])
    rw [hΦ]
    refine own_ret X9 (v := some (.ref vb_7)) (own_nr hret) hlk (fun fs hr => retOut X9 hx hret rfl (Or.inr (Or.inr (Or.inr (Or.inr ⟨rfl, rfl, rfl⟩)))) (hb hby d9_56) hr) ?_ (by decide) (by decide)
    rw [hs9]
    exact ⟨vb_7, sz_vb_7, kb_7, rfl, N9, K7, p7_0⟩
  · exact (hg0 hex).elim
theorem ef_rmCmp2_0 (m : MethodId) (ca : Addr) : entryFrame m #[(.ref ca), (.int 0), (.int 2)] 6 = mkF m 0 #[.val (.ref ca), .val (.int 0), .val (.int 2), .unset, .unset, .unset] [] := by first | (simp [entryFrame, mkF, argsToLocals, Value.category]; done) | rfl
def Q_rmCmp2_0 (Z : State) (ca : Addr) (kc : ClassId) (c0 : Int32) (c1 : Int32) (h0 : Heap) (n0 : Nat) (v : Option Value) (h : Heap) (L : List Loc) : Prop := ∃ vb : Addr, h0.size ≤ vb ∧ ∃ kb : ClassId, v = some (.ref vb) ∧ Fr n0 L ∧ Keep h0 h [] ∧ Arv Z h vb kb .byte (2 : Int32) [(.int (own_lo c0)), (.int (own_lo c1))] (.int 0)
set_option maxRecDepth 65536 in
set_option maxHeartbeats 40000000 in
theorem rmCmp2_0 (l : Launch) (Z : State) (a0 : Array Value) (hw : own_H Z a0) (ws : List Jvm.Cond) (ca : Addr) (kc : ClassId) (c0 : Int32) (c1 : Int32) (h0 : Heap) (n0 : Nat) (Z0 : n0 ≤ h0.size) (V_ca : Arv Z h0 ca kc .char (2 : Int32) [(.int c0), (.int c1)] (.int 0)) (hl0 : ¬ (255 : Int32) < c0) (hl1 : ¬ (255 : Int32) < c1) :
    own_Met l (⟨"java/lang/StringUTF16", "compress", "([CII)[B"⟩ : MethodName) jdk_52_method_16_code 6 (some (.array .byte)) ws (own_rm 1 1 2 18) Z h0 #[(.ref ca), (.int 0), (.int 2)] (Q_rmCmp2_0 Z ca kc c0 c1 h0 n0) := by
  refine own_met (plainFor_of_name pn_5) (fun m => ef_rmCmp2_0 m ca) ?_
  intro p e s m below meth c s₁ Φ hΦ X0 hx hby hml hown hnm hret hlk hZ e0
  have N0 := Fr.nil n0
  have B : own_B p c _ _ := ⟨hx, hby, hml⟩
  have K0 : Keep h0 h0 [] := Keep.refl _ _
  show own_G p e below Φ s₁ (mkF m 0 #[.val (.ref ca), .val (.int 0), .val (.int 2), .unset, .unset, .unset] [])
  refine o_iloadN X0 B d9_0 rfl ?_
  obtain ⟨T1, h1, ka1, X1, e1, E1, A1, st1⟩ := newP (aty := .byte) X0 hx hZ (wd_22 hw) e0 (g := (mkF m 1 #[.val (.ref ca), .val (.int 0), .val (.int 2), .unset, .unset, .unset] [(.int 2)])) rfl (hb hby d9_1) rfl (by decide) (cap := 2) (by decide) (by decide) (by decide) (by decide)
  obtain ⟨ob1, g1⟩ : ∃ z, z = h0.size := ⟨_, rfl⟩
  rw [← g1] at A1 st1
  have ne_ca_ob1 : ca ≠ ob1 := Nat.ne_of_lt (Nat.lt_of_lt_of_le V_ca.lt (Nat.le_of_eq g1.symm))
  have V1 : Arv Z h1 ob1 ka1 .byte (2 : Int32) [(.int 0), (.int 0)] (.int 0) := (Arv.new A1 (by decide)).pad (pad_rep [] (.int 0) 2)
  have g_ob1 : n0 ≤ ob1 := Nat.le_trans Z0 (Nat.le_of_eq g1.symm)
  have sz_ob1 : h0.size ≤ ob1 := Nat.le_trans K0.1 (Nat.le_of_eq g1.symm)
  have K1 := K0.ext E1
  have Zp1 : n0 ≤ h1.size := Nat.le_trans Z0 E1.1
  refine own_go st1 ?_
  refine o_astoreN (L' := #[.val (.ref ca), .val (.int 0), .val (.int 2), .val (.ref ob1), .unset, .unset]) X1 B d9_3 rfl rfl ?_
  refine o_aloadN X1 B d9_4 rfl rfl ?_
  refine o_iloadN X1 B d9_5 rfl ?_
  refine o_aloadN X1 B d9_6 rfl rfl ?_
  refine o_iconst X1 B d9_7 ?_
  refine o_iloadN X1 B d9_8 rfl ?_
  show own_G p e below Φ T1 (mkF m 9 #[.val (.ref ca), .val (.int 0), .val (.int 2), .val (.ref ob1), .unset, .unset] [(.int 2), (.int 0), (.ref ob1), (.int 0), (.ref ca)])
  have f2 : Arv Z h1 ca kc .char (2 : Int32) [(.int c0), (.int c1)] (.int 0) := V_ca.ext E1
  refine o_cS (argsL := [(.ref ca), (.int 0), (.ref ob1), (.int 0), (.int 2)]) (rest := []) X1 B hZ hown (wd_52 hw) (wd_53 hw) (wd_54 hw) (wd_50 hw) (by decide) 0 (rmInn2_a l Z a0 hw [] ca kc ob1 ka1 c0 c1 h1 n0 Zp1 f2 V1 g_ob1 ne_ca_ob1 hl0 hl1) (by decide) (by decide) (lenOf pd_10 rfl) rfl rfl rfl d9_9 e1 (by decide) (by decide) rfl ?_
  rintro _ T3 _ X3 ⟨rfl, N3q, Kq3, p3_0⟩
  have N3 := Fr.app N0 N3q
  have K3 := K1.trans Kq3 (allS (Or.inr sz_ob1) all0)
  have Zp3 : n0 ≤ T3.heap.size := Nat.le_trans Zp1 Kq3.1
  refine o_istore (L' := #[.val (.ref ca), .val (.int 0), .val (.int 2), .val (.ref ob1), .val (.int 2), .unset]) X3 B d9_12 rfl ?_
  refine o_iload X3 B d9_14 rfl ?_
  refine o_iloadN X3 B d9_16 rfl ?_
  refine o_icY X3 B 57 d9_17 (XT.ii_eq_t (by decide : ((2 : Int32) = (2 : Int32)))) rfl ?_
  refine o_aloadN X3 B d9_57 rfl rfl ?_
  rw [hΦ]
  refine own_ret X3 (v := some (.ref ob1)) (own_nr hret) hlk (fun fs hr => retOut X3 hx hret rfl (Or.inr (Or.inr (Or.inr (Or.inr ⟨rfl, rfl, rfl⟩)))) (hb hby d9_58) hr) ?_ (by decide) (by decide)
  exact ⟨ob1, sz_ob1, ka1, rfl, N3, K3, p3_0⟩
theorem ef_rmCmp2_1 (m : MethodId) (ca : Addr) : entryFrame m #[(.ref ca), (.int 0), (.int 2)] 6 = mkF m 0 #[.val (.ref ca), .val (.int 0), .val (.int 2), .unset, .unset, .unset] [] := by first | (simp [entryFrame, mkF, argsToLocals, Value.category]; done) | rfl
def Q_rmCmp2_1 (Z : State) (ca : Addr) (kc : ClassId) (c0 : Int32) (c1 : Int32) (h0 : Heap) (n0 : Nat) (v : Option Value) (h : Heap) (L : List Loc) : Prop := ∃ vb : Addr, h0.size ≤ vb ∧ ∃ kb : ClassId, v = some (.ref vb) ∧ Fr n0 L ∧ Keep h0 h [] ∧ Arv Z h vb kb .byte (4 : Int32) [(.int (own_h0 c0)), (.int (own_h8 c0)), (.int (own_h0 c1)), (.int (own_h8 c1))] (.int 0)
set_option maxRecDepth 65536 in
set_option maxHeartbeats 40000000 in
theorem rmCmp2_1 (l : Launch) (Z : State) (a0 : Array Value) (hw : own_H Z a0) (ws : List Jvm.Cond) (ca : Addr) (kc : ClassId) (c0 : Int32) (c1 : Int32) (h0 : Heap) (n0 : Nat) (Z0 : n0 ≤ h0.size) (O0 : Old Z n0 h0) (S__assertionsDisabled : Sta Z Z.heap "java/lang/StringUTF16" "$assertionsDisabled" "Z" (.int 1)) (S_HI_BYTE_SHIFT : Sta Z Z.heap "java/lang/StringUTF16" "HI_BYTE_SHIFT" "I" (.int 0)) (S_LO_BYTE_SHIFT : Sta Z Z.heap "java/lang/StringUTF16" "LO_BYTE_SHIFT" "I" (.int 8)) (V_ca : Arv Z h0 ca kc .char (2 : Int32) [(.int c0), (.int c1)] (.int 0)) (hr0 : ¬ c0 < 0 ∧ ¬ (65535 : Int32) < c0) (hr1 : ¬ c1 < 0 ∧ ¬ (65535 : Int32) < c1) (hex : (255 : Int32) < c0 ∨ (255 : Int32) < c1) :
    own_Met l (⟨"java/lang/StringUTF16", "compress", "([CII)[B"⟩ : MethodName) jdk_52_method_16_code 6 (some (.array .byte)) ws (own_rm 3 2 6 40) Z h0 #[(.ref ca), (.int 0), (.int 2)] (Q_rmCmp2_1 Z ca kc c0 c1 h0 n0) := by
  refine own_met (plainFor_of_name pn_5) (fun m => ef_rmCmp2_1 m ca) ?_
  intro p e s m below meth c s₁ Φ hΦ X0 hx hby hml hown hnm hret hlk hZ e0
  have N0 := Fr.nil n0
  have B : own_B p c _ _ := ⟨hx, hby, hml⟩
  have K0 : Keep h0 h0 [] := Keep.refl _ _
  show own_G p e below Φ s₁ (mkF m 0 #[.val (.ref ca), .val (.int 0), .val (.int 2), .unset, .unset, .unset] [])
  by_cases hg0 : (255 : Int32) < c0
  · show own_G p e below Φ s₁ (mkF m 0 #[.val (.ref ca), .val (.int 0), .val (.int 2), .unset, .unset, .unset] [])
    refine o_iloadN X0 B d9_0 rfl ?_
    obtain ⟨T1, h1, ka1, X1, e1, E1, A1, st1⟩ := newP (aty := .byte) X0 hx hZ (wd_22 hw) e0 (g := (mkF m 1 #[.val (.ref ca), .val (.int 0), .val (.int 2), .unset, .unset, .unset] [(.int 2)])) rfl (hb hby d9_1) rfl (by decide) (cap := 2) (by decide) (by decide) (by decide) (by decide)
    obtain ⟨ob1, g1⟩ : ∃ z, z = h0.size := ⟨_, rfl⟩
    rw [← g1] at A1 st1
    have ne_ca_ob1 : ca ≠ ob1 := Nat.ne_of_lt (Nat.lt_of_lt_of_le V_ca.lt (Nat.le_of_eq g1.symm))
    have V1 : Arv Z h1 ob1 ka1 .byte (2 : Int32) [(.int 0), (.int 0)] (.int 0) := (Arv.new A1 (by decide)).pad (pad_rep [] (.int 0) 2)
    have g_ob1 : n0 ≤ ob1 := Nat.le_trans Z0 (Nat.le_of_eq g1.symm)
    have sz_ob1 : h0.size ≤ ob1 := Nat.le_trans K0.1 (Nat.le_of_eq g1.symm)
    have K1 := K0.ext E1
    have Zp1 : n0 ≤ h1.size := Nat.le_trans Z0 E1.1
    refine own_go st1 ?_
    have O2 := O0.ext E1
    refine o_astoreN (L' := #[.val (.ref ca), .val (.int 0), .val (.int 2), .val (.ref ob1), .unset, .unset]) X1 B d9_3 rfl rfl ?_
    refine o_aloadN X1 B d9_4 rfl rfl ?_
    refine o_iloadN X1 B d9_5 rfl ?_
    refine o_aloadN X1 B d9_6 rfl rfl ?_
    refine o_iconst X1 B d9_7 ?_
    refine o_iloadN X1 B d9_8 rfl ?_
    show own_G p e below Φ T1 (mkF m 9 #[.val (.ref ca), .val (.int 0), .val (.int 2), .val (.ref ob1), .unset, .unset] [(.int 2), (.int 0), (.ref ob1), (.int 0), (.ref ca)])
    have f3 : Arv Z h1 ca kc .char (2 : Int32) [(.int c0), (.int c1)] (.int 0) := V_ca.ext E1
    refine o_cS (argsL := [(.ref ca), (.int 0), (.ref ob1), (.int 0), (.int 2)]) (rest := []) X1 B hZ hown (wd_52 hw) (wd_53 hw) (wd_54 hw) (wd_50 hw) (by decide) 0 (rmInn2_0 l Z a0 hw [] ca kc ob1 ka1 c0 c1 h1 n0 Zp1 f3 V1 g_ob1 ne_ca_ob1 hg0) (by decide) (by decide) (lenOf pd_10 rfl) rfl rfl rfl d9_9 e1 (by decide) (by decide) rfl ?_
    rintro _ T4 _ X4 ⟨rfl, N4q, Kq4, p4_0⟩
    have N4 := Fr.app N0 N4q
    have K4 := K1.trans Kq4 (allS (Or.inr sz_ob1) all0)
    have Zp4 : n0 ≤ T4.heap.size := Nat.le_trans Zp1 Kq4.1
    have O5 := O2.keep Kq4 (allS g_ob1 all0)
    refine o_istore (L' := #[.val (.ref ca), .val (.int 0), .val (.int 2), .val (.ref ob1), .val (.int 0), .unset]) X4 B d9_12 rfl ?_
    refine o_iload X4 B d9_14 rfl ?_
    refine o_iloadN X4 B d9_16 rfl ?_
    refine o_icN X4 B d9_17 (XT.ii_eq_f (by decide : ¬ ((0 : Int32) = (2 : Int32)))) ?_
    refine o_aloadN X4 B d9_20 rfl rfl ?_
    refine o_iloadN X4 B d9_21 rfl ?_
    refine o_iloadN X4 B d9_22 rfl ?_
    show own_G p e below Φ T4 (mkF m 23 #[.val (.ref ca), .val (.int 0), .val (.int 2), .val (.ref ob1), .val (.int 0), .unset] [(.int 2), (.int 0), (.ref ca)])
    have f6 : Arv Z T4.heap ca kc .char (2 : Int32) [(.int c0), (.int c1)] (.int 0) := f3.keep Kq4 (ninS ne_ca_ob1 nin0)
    refine o_cS (argsL := [(.ref ca), (.int 0), (.int 2)]) (rest := []) X4 B hZ hown (wd_90 hw) (wd_91 hw) (wd_92 hw) (wd_50 hw) (by decide) 0 (rmTob2 l Z a0 hw [] ca kc c0 c1 T4.heap n0 Zp4 O5 S__assertionsDisabled S_HI_BYTE_SHIFT S_LO_BYTE_SHIFT f6) (by decide) (by decide) (lenOf pd_11 rfl) rfl rfl rfl d9_23 rfl (by decide) (by decide) rfl ?_
    rintro _ T7 _ X7 ⟨vb_7, ns_vb_7, kb_7, rfl, N7q, Kq7, p7_0⟩
    have N7 := Fr.app N4 N7q
    have ne_ca_vb_7 : ca ≠ vb_7 := Nat.ne_of_lt (Nat.lt_of_lt_of_le f6.lt ns_vb_7)
    have ne_ob1_vb_7 : ob1 ≠ vb_7 := Nat.ne_of_lt (Nat.lt_of_lt_of_le p4_0.lt ns_vb_7)
    have sz_vb_7 : h0.size ≤ vb_7 := Nat.le_trans K4.1 ns_vb_7
    have K7 := K4.trans Kq7 all0
    have g_vb_7 : n0 ≤ vb_7 := Nat.le_trans Zp4 ns_vb_7
    have Zp7 : n0 ≤ T7.heap.size := Nat.le_trans Zp4 Kq7.1
    have O8 := O5.keep Kq7 all0
    refine o_astore (L' := #[.val (.ref ca), .val (.int 0), .val (.int 2), .val (.ref ob1), .val (.int 0), .val (.ref vb_7)]) X7 B d9_26 rfl rfl ?_
    refine o_aload X7 B d9_28 rfl rfl ?_
    refine o_iload X7 B d9_30 rfl ?_
    refine o_cS (argsL := [(.ref vb_7), (.int 0)]) (rest := []) X7 B hZ hown (wd_106 hw) (wd_107 hw) (wd_108 hw) (wd_50 hw) (by decide) 0 (rmGch l Z a0 hw [] vb_7 kb_7 (4 : Int32) ([(own_h0 c0), (own_h8 c0), (own_h0 c1), (own_h8 c1)]) (0 : Int32) T7.heap n0 Zp7 O8 S__assertionsDisabled S_HI_BYTE_SHIFT S_LO_BYTE_SHIFT p7_0 ⟨by decide, by decide⟩ ⟨by decide, by decide⟩) (by decide) (by decide) (lenOf pd_5 rfl) rfl rfl rfl d9_32 rfl (by decide) (by decide) rfl ?_
    rintro _ T9 _ X9 ⟨rfl, N9q, hs9⟩
    have N9 := Fr.app N7 N9q
    show own_G p e below Φ T9 (mkF m 35 #[.val (.ref ca), .val (.int 0), .val (.int 2), .val (.ref ob1), .val (.int 0), .val (.ref vb_7)] [(.int (own_c16 ([(own_h0 c0), (own_h8 c0), (own_h0 c1), (own_h8 c1)]) (0 : Int32)))])
    have hq10 : (own_c16 ([(own_h0 c0), (own_h8 c0), (own_h0 c1), (own_h8 c1)]) (0 : Int32)) = c0 := own_r16 hr0
    rw [hq10]
    refine o_sipush X9 B d9_35 ?_
    refine o_icY X9 B 54 d9_38 (XT.ii_gt_t hg0) rfl ?_
    refine o_aload X9 B d9_54 rfl rfl ?_
    show own_G p e below Φ T9 (mkF m 56 #[.val (.ref ca), .val (.int 0), .val (.int 2), .val (.ref ob1), .val (.int 0), .val (.ref vb_7)] [(.ref vb_7)])
    rw [hΦ]
    refine own_ret X9 (v := some (.ref vb_7)) (own_nr hret) hlk (fun fs hr => retOut X9 hx hret rfl (Or.inr (Or.inr (Or.inr (Or.inr ⟨rfl, rfl, rfl⟩)))) (hb hby d9_56) hr) ?_ (by decide) (by decide)
    rw [hs9]
    exact ⟨vb_7, sz_vb_7, kb_7, rfl, N9, K7, p7_0⟩
  · skip
    by_cases hg1 : (255 : Int32) < c1
    · show own_G p e below Φ s₁ (mkF m 0 #[.val (.ref ca), .val (.int 0), .val (.int 2), .unset, .unset, .unset] [])
      refine o_iloadN X0 B d9_0 rfl ?_
      obtain ⟨T11, h11, ka11, X11, e11, E11, A11, st11⟩ := newP (aty := .byte) X0 hx hZ (wd_22 hw) e0 (g := (mkF m 1 #[.val (.ref ca), .val (.int 0), .val (.int 2), .unset, .unset, .unset] [(.int 2)])) rfl (hb hby d9_1) rfl (by decide) (cap := 2) (by decide) (by decide) (by decide) (by decide)
      obtain ⟨ob11, g11⟩ : ∃ z, z = h0.size := ⟨_, rfl⟩
      rw [← g11] at A11 st11
      have ne_ca_ob11 : ca ≠ ob11 := Nat.ne_of_lt (Nat.lt_of_lt_of_le V_ca.lt (Nat.le_of_eq g11.symm))
      have V11 : Arv Z h11 ob11 ka11 .byte (2 : Int32) [(.int 0), (.int 0)] (.int 0) := (Arv.new A11 (by decide)).pad (pad_rep [] (.int 0) 2)
      have g_ob11 : n0 ≤ ob11 := Nat.le_trans Z0 (Nat.le_of_eq g11.symm)
      have sz_ob11 : h0.size ≤ ob11 := Nat.le_trans K0.1 (Nat.le_of_eq g11.symm)
      have K11 := K0.ext E11
      have Zp11 : n0 ≤ h11.size := Nat.le_trans Z0 E11.1
      refine own_go st11 ?_
      have O12 := O0.ext E11
      refine o_astoreN (L' := #[.val (.ref ca), .val (.int 0), .val (.int 2), .val (.ref ob11), .unset, .unset]) X11 B d9_3 rfl rfl ?_
      refine o_aloadN X11 B d9_4 rfl rfl ?_
      refine o_iloadN X11 B d9_5 rfl ?_
      refine o_aloadN X11 B d9_6 rfl rfl ?_
      refine o_iconst X11 B d9_7 ?_
      refine o_iloadN X11 B d9_8 rfl ?_
      show own_G p e below Φ T11 (mkF m 9 #[.val (.ref ca), .val (.int 0), .val (.int 2), .val (.ref ob11), .unset, .unset] [(.int 2), (.int 0), (.ref ob11), (.int 0), (.ref ca)])
      have f13 : Arv Z h11 ca kc .char (2 : Int32) [(.int c0), (.int c1)] (.int 0) := V_ca.ext E11
      refine o_cS (argsL := [(.ref ca), (.int 0), (.ref ob11), (.int 0), (.int 2)]) (rest := []) X11 B hZ hown (wd_52 hw) (wd_53 hw) (wd_54 hw) (wd_50 hw) (by decide) 0 (rmInn2_1 l Z a0 hw [] ca kc ob11 ka11 c0 c1 h11 n0 Zp11 f13 V11 g_ob11 ne_ca_ob11 hg0 hg1) (by decide) (by decide) (lenOf pd_10 rfl) rfl rfl rfl d9_9 e11 (by decide) (by decide) rfl ?_
      rintro _ T14 _ X14 ⟨rfl, N14q, Kq14, p14_0⟩
      have N14 := Fr.app N0 N14q
      have K14 := K11.trans Kq14 (allS (Or.inr sz_ob11) all0)
      have Zp14 : n0 ≤ T14.heap.size := Nat.le_trans Zp11 Kq14.1
      have O15 := O12.keep Kq14 (allS g_ob11 all0)
      refine o_istore (L' := #[.val (.ref ca), .val (.int 0), .val (.int 2), .val (.ref ob11), .val (.int 1), .unset]) X14 B d9_12 rfl ?_
      refine o_iload X14 B d9_14 rfl ?_
      refine o_iloadN X14 B d9_16 rfl ?_
      refine o_icN X14 B d9_17 (XT.ii_eq_f (by decide : ¬ ((1 : Int32) = (2 : Int32)))) ?_
      refine o_aloadN X14 B d9_20 rfl rfl ?_
      refine o_iloadN X14 B d9_21 rfl ?_
      refine o_iloadN X14 B d9_22 rfl ?_
      show own_G p e below Φ T14 (mkF m 23 #[.val (.ref ca), .val (.int 0), .val (.int 2), .val (.ref ob11), .val (.int 1), .unset] [(.int 2), (.int 0), (.ref ca)])
      have f16 : Arv Z T14.heap ca kc .char (2 : Int32) [(.int c0), (.int c1)] (.int 0) := f13.keep Kq14 (ninS ne_ca_ob11 nin0)
      refine o_cS (argsL := [(.ref ca), (.int 0), (.int 2)]) (rest := []) X14 B hZ hown (wd_90 hw) (wd_91 hw) (wd_92 hw) (wd_50 hw) (by decide) 0 (rmTob2 l Z a0 hw [] ca kc c0 c1 T14.heap n0 Zp14 O15 S__assertionsDisabled S_HI_BYTE_SHIFT S_LO_BYTE_SHIFT f16) (by decide) (by decide) (lenOf pd_11 rfl) rfl rfl rfl d9_23 rfl (by decide) (by decide) rfl ?_
      rintro _ T17 _ X17 ⟨vb_17, ns_vb_17, kb_17, rfl, N17q, Kq17, p17_0⟩
      have N17 := Fr.app N14 N17q
      have ne_ca_vb_17 : ca ≠ vb_17 := Nat.ne_of_lt (Nat.lt_of_lt_of_le f16.lt ns_vb_17)
      have ne_ob11_vb_17 : ob11 ≠ vb_17 := Nat.ne_of_lt (Nat.lt_of_lt_of_le p14_0.lt ns_vb_17)
      have sz_vb_17 : h0.size ≤ vb_17 := Nat.le_trans K14.1 ns_vb_17
      have K17 := K14.trans Kq17 all0
      have g_vb_17 : n0 ≤ vb_17 := Nat.le_trans Zp14 ns_vb_17
      have Zp17 : n0 ≤ T17.heap.size := Nat.le_trans Zp14 Kq17.1
      have O18 := O15.keep Kq17 all0
      refine o_astore (L' := #[.val (.ref ca), .val (.int 0), .val (.int 2), .val (.ref ob11), .val (.int 1), .val (.ref vb_17)]) X17 B d9_26 rfl rfl ?_
      refine o_aload X17 B d9_28 rfl rfl ?_
      refine o_iload X17 B d9_30 rfl ?_
      refine o_cS (argsL := [(.ref vb_17), (.int 1)]) (rest := []) X17 B hZ hown (wd_106 hw) (wd_107 hw) (wd_108 hw) (wd_50 hw) (by decide) 0 (rmGch l Z a0 hw [] vb_17 kb_17 (4 : Int32) ([(own_h0 c0), (own_h8 c0), (own_h0 c1), (own_h8 c1)]) (1 : Int32) T17.heap n0 Zp17 O18 S__assertionsDisabled S_HI_BYTE_SHIFT S_LO_BYTE_SHIFT p17_0 ⟨by decide, by decide⟩ ⟨by decide, by decide⟩) (by decide) (by decide) (lenOf pd_5 rfl) rfl rfl rfl d9_32 rfl (by decide) (by decide) rfl ?_
      rintro _ T19 _ X19 ⟨rfl, N19q, hs19⟩
      have N19 := Fr.app N17 N19q
      show own_G p e below Φ T19 (mkF m 35 #[.val (.ref ca), .val (.int 0), .val (.int 2), .val (.ref ob11), .val (.int 1), .val (.ref vb_17)] [(.int (own_c16 ([(own_h0 c0), (own_h8 c0), (own_h0 c1), (own_h8 c1)]) (1 : Int32)))])
      have hq20 : (own_c16 ([(own_h0 c0), (own_h8 c0), (own_h0 c1), (own_h8 c1)]) (1 : Int32)) = c1 := own_r16 hr1
      rw [hq20]
      refine o_sipush X19 B d9_35 ?_
      refine o_icY X19 B 54 d9_38 (XT.ii_gt_t hg1) rfl ?_
      refine o_aload X19 B d9_54 rfl rfl ?_
      show own_G p e below Φ T19 (mkF m 56 #[.val (.ref ca), .val (.int 0), .val (.int 2), .val (.ref ob11), .val (.int 1), .val (.ref vb_17)] [(.ref vb_17)])
      rw [hΦ]
      refine own_ret X19 (v := some (.ref vb_17)) (own_nr hret) hlk (fun fs hr => retOut X19 hx hret rfl (Or.inr (Or.inr (Or.inr (Or.inr ⟨rfl, rfl, rfl⟩)))) (hb hby d9_56) hr) ?_ (by decide) (by decide)
      rw [hs19]
      exact ⟨vb_17, sz_vb_17, kb_17, rfl, N19, K17, p17_0⟩
    · exact (hex.elim hg0 hg1).elim
theorem ef_rmCmp3_0 (m : MethodId) (ca : Addr) : entryFrame m #[(.ref ca), (.int 0), (.int 3)] 6 = mkF m 0 #[.val (.ref ca), .val (.int 0), .val (.int 3), .unset, .unset, .unset] [] := by first | (simp [entryFrame, mkF, argsToLocals, Value.category]; done) | rfl
def Q_rmCmp3_0 (Z : State) (ca : Addr) (kc : ClassId) (c0 : Int32) (c1 : Int32) (c2 : Int32) (h0 : Heap) (n0 : Nat) (v : Option Value) (h : Heap) (L : List Loc) : Prop := ∃ vb : Addr, h0.size ≤ vb ∧ ∃ kb : ClassId, v = some (.ref vb) ∧ Fr n0 L ∧ Keep h0 h [] ∧ Arv Z h vb kb .byte (3 : Int32) [(.int (own_lo c0)), (.int (own_lo c1)), (.int (own_lo c2))] (.int 0)
set_option maxRecDepth 65536 in
set_option maxHeartbeats 40000000 in
theorem rmCmp3_0 (l : Launch) (Z : State) (a0 : Array Value) (hw : own_H Z a0) (ws : List Jvm.Cond) (ca : Addr) (kc : ClassId) (c0 : Int32) (c1 : Int32) (c2 : Int32) (h0 : Heap) (n0 : Nat) (Z0 : n0 ≤ h0.size) (V_ca : Arv Z h0 ca kc .char (3 : Int32) [(.int c0), (.int c1), (.int c2)] (.int 0)) (hl0 : ¬ (255 : Int32) < c0) (hl1 : ¬ (255 : Int32) < c1) (hl2 : ¬ (255 : Int32) < c2) :
    own_Met l (⟨"java/lang/StringUTF16", "compress", "([CII)[B"⟩ : MethodName) jdk_52_method_16_code 6 (some (.array .byte)) ws (own_rm 1 1 3 18) Z h0 #[(.ref ca), (.int 0), (.int 3)] (Q_rmCmp3_0 Z ca kc c0 c1 c2 h0 n0) := by
  refine own_met (plainFor_of_name pn_5) (fun m => ef_rmCmp3_0 m ca) ?_
  intro p e s m below meth c s₁ Φ hΦ X0 hx hby hml hown hnm hret hlk hZ e0
  have N0 := Fr.nil n0
  have B : own_B p c _ _ := ⟨hx, hby, hml⟩
  have K0 : Keep h0 h0 [] := Keep.refl _ _
  show own_G p e below Φ s₁ (mkF m 0 #[.val (.ref ca), .val (.int 0), .val (.int 3), .unset, .unset, .unset] [])
  refine o_iloadN X0 B d9_0 rfl ?_
  obtain ⟨T1, h1, ka1, X1, e1, E1, A1, st1⟩ := newP (aty := .byte) X0 hx hZ (wd_22 hw) e0 (g := (mkF m 1 #[.val (.ref ca), .val (.int 0), .val (.int 3), .unset, .unset, .unset] [(.int 3)])) rfl (hb hby d9_1) rfl (by decide) (cap := 3) (by decide) (by decide) (by decide) (by decide)
  obtain ⟨ob1, g1⟩ : ∃ z, z = h0.size := ⟨_, rfl⟩
  rw [← g1] at A1 st1
  have ne_ca_ob1 : ca ≠ ob1 := Nat.ne_of_lt (Nat.lt_of_lt_of_le V_ca.lt (Nat.le_of_eq g1.symm))
  have V1 : Arv Z h1 ob1 ka1 .byte (3 : Int32) [(.int 0), (.int 0), (.int 0)] (.int 0) := (Arv.new A1 (by decide)).pad (pad_rep [] (.int 0) 3)
  have g_ob1 : n0 ≤ ob1 := Nat.le_trans Z0 (Nat.le_of_eq g1.symm)
  have sz_ob1 : h0.size ≤ ob1 := Nat.le_trans K0.1 (Nat.le_of_eq g1.symm)
  have K1 := K0.ext E1
  have Zp1 : n0 ≤ h1.size := Nat.le_trans Z0 E1.1
  refine own_go st1 ?_
  refine o_astoreN (L' := #[.val (.ref ca), .val (.int 0), .val (.int 3), .val (.ref ob1), .unset, .unset]) X1 B d9_3 rfl rfl ?_
  refine o_aloadN X1 B d9_4 rfl rfl ?_
  refine o_iloadN X1 B d9_5 rfl ?_
  refine o_aloadN X1 B d9_6 rfl rfl ?_
  refine o_iconst X1 B d9_7 ?_
  refine o_iloadN X1 B d9_8 rfl ?_
  show own_G p e below Φ T1 (mkF m 9 #[.val (.ref ca), .val (.int 0), .val (.int 3), .val (.ref ob1), .unset, .unset] [(.int 3), (.int 0), (.ref ob1), (.int 0), (.ref ca)])
  have f2 : Arv Z h1 ca kc .char (3 : Int32) [(.int c0), (.int c1), (.int c2)] (.int 0) := V_ca.ext E1
  refine o_cS (argsL := [(.ref ca), (.int 0), (.ref ob1), (.int 0), (.int 3)]) (rest := []) X1 B hZ hown (wd_52 hw) (wd_53 hw) (wd_54 hw) (wd_50 hw) (by decide) 0 (rmInn3_a l Z a0 hw [] ca kc ob1 ka1 c0 c1 c2 h1 n0 Zp1 f2 V1 g_ob1 ne_ca_ob1 hl0 hl1 hl2) (by decide) (by decide) (lenOf pd_10 rfl) rfl rfl rfl d9_9 e1 (by decide) (by decide) rfl ?_
  rintro _ T3 _ X3 ⟨rfl, N3q, Kq3, p3_0⟩
  have N3 := Fr.app N0 N3q
  have K3 := K1.trans Kq3 (allS (Or.inr sz_ob1) all0)
  have Zp3 : n0 ≤ T3.heap.size := Nat.le_trans Zp1 Kq3.1
  refine o_istore (L' := #[.val (.ref ca), .val (.int 0), .val (.int 3), .val (.ref ob1), .val (.int 3), .unset]) X3 B d9_12 rfl ?_
  refine o_iload X3 B d9_14 rfl ?_
  refine o_iloadN X3 B d9_16 rfl ?_
  refine o_icY X3 B 57 d9_17 (XT.ii_eq_t (by decide : ((3 : Int32) = (3 : Int32)))) rfl ?_
  refine o_aloadN X3 B d9_57 rfl rfl ?_
  rw [hΦ]
  refine own_ret X3 (v := some (.ref ob1)) (own_nr hret) hlk (fun fs hr => retOut X3 hx hret rfl (Or.inr (Or.inr (Or.inr (Or.inr ⟨rfl, rfl, rfl⟩)))) (hb hby d9_58) hr) ?_ (by decide) (by decide)
  exact ⟨ob1, sz_ob1, ka1, rfl, N3, K3, p3_0⟩
theorem ef_rmCmp3_1 (m : MethodId) (ca : Addr) : entryFrame m #[(.ref ca), (.int 0), (.int 3)] 6 = mkF m 0 #[.val (.ref ca), .val (.int 0), .val (.int 3), .unset, .unset, .unset] [] := by first | (simp [entryFrame, mkF, argsToLocals, Value.category]; done) | rfl
def Q_rmCmp3_1 (Z : State) (ca : Addr) (kc : ClassId) (c0 : Int32) (c1 : Int32) (c2 : Int32) (h0 : Heap) (n0 : Nat) (v : Option Value) (h : Heap) (L : List Loc) : Prop := ∃ vb : Addr, h0.size ≤ vb ∧ ∃ kb : ClassId, v = some (.ref vb) ∧ Fr n0 L ∧ Keep h0 h [] ∧ Arv Z h vb kb .byte (6 : Int32) [(.int (own_h0 c0)), (.int (own_h8 c0)), (.int (own_h0 c1)), (.int (own_h8 c1)), (.int (own_h0 c2)), (.int (own_h8 c2))] (.int 0)
set_option maxRecDepth 65536 in
set_option maxHeartbeats 40000000 in
theorem rmCmp3_1 (l : Launch) (Z : State) (a0 : Array Value) (hw : own_H Z a0) (ws : List Jvm.Cond) (ca : Addr) (kc : ClassId) (c0 : Int32) (c1 : Int32) (c2 : Int32) (h0 : Heap) (n0 : Nat) (Z0 : n0 ≤ h0.size) (O0 : Old Z n0 h0) (S__assertionsDisabled : Sta Z Z.heap "java/lang/StringUTF16" "$assertionsDisabled" "Z" (.int 1)) (S_HI_BYTE_SHIFT : Sta Z Z.heap "java/lang/StringUTF16" "HI_BYTE_SHIFT" "I" (.int 0)) (S_LO_BYTE_SHIFT : Sta Z Z.heap "java/lang/StringUTF16" "LO_BYTE_SHIFT" "I" (.int 8)) (V_ca : Arv Z h0 ca kc .char (3 : Int32) [(.int c0), (.int c1), (.int c2)] (.int 0)) (hr0 : ¬ c0 < 0 ∧ ¬ (65535 : Int32) < c0) (hr1 : ¬ c1 < 0 ∧ ¬ (65535 : Int32) < c1) (hr2 : ¬ c2 < 0 ∧ ¬ (65535 : Int32) < c2) (hex : (255 : Int32) < c0 ∨ (255 : Int32) < c1 ∨ (255 : Int32) < c2) :
    own_Met l (⟨"java/lang/StringUTF16", "compress", "([CII)[B"⟩ : MethodName) jdk_52_method_16_code 6 (some (.array .byte)) ws (own_rm 3 2 9 40) Z h0 #[(.ref ca), (.int 0), (.int 3)] (Q_rmCmp3_1 Z ca kc c0 c1 c2 h0 n0) := by
  refine own_met (plainFor_of_name pn_5) (fun m => ef_rmCmp3_1 m ca) ?_
  intro p e s m below meth c s₁ Φ hΦ X0 hx hby hml hown hnm hret hlk hZ e0
  have N0 := Fr.nil n0
  have B : own_B p c _ _ := ⟨hx, hby, hml⟩
  have K0 : Keep h0 h0 [] := Keep.refl _ _
  show own_G p e below Φ s₁ (mkF m 0 #[.val (.ref ca), .val (.int 0), .val (.int 3), .unset, .unset, .unset] [])
  by_cases hg0 : (255 : Int32) < c0
  · show own_G p e below Φ s₁ (mkF m 0 #[.val (.ref ca), .val (.int 0), .val (.int 3), .unset, .unset, .unset] [])
    refine o_iloadN X0 B d9_0 rfl ?_
    obtain ⟨T1, h1, ka1, X1, e1, E1, A1, st1⟩ := newP (aty := .byte) X0 hx hZ (wd_22 hw) e0 (g := (mkF m 1 #[.val (.ref ca), .val (.int 0), .val (.int 3), .unset, .unset, .unset] [(.int 3)])) rfl (hb hby d9_1) rfl (by decide) (cap := 3) (by decide) (by decide) (by decide) (by decide)
    obtain ⟨ob1, g1⟩ : ∃ z, z = h0.size := ⟨_, rfl⟩
    rw [← g1] at A1 st1
    have ne_ca_ob1 : ca ≠ ob1 := Nat.ne_of_lt (Nat.lt_of_lt_of_le V_ca.lt (Nat.le_of_eq g1.symm))
    have V1 : Arv Z h1 ob1 ka1 .byte (3 : Int32) [(.int 0), (.int 0), (.int 0)] (.int 0) := (Arv.new A1 (by decide)).pad (pad_rep [] (.int 0) 3)
    have g_ob1 : n0 ≤ ob1 := Nat.le_trans Z0 (Nat.le_of_eq g1.symm)
    have sz_ob1 : h0.size ≤ ob1 := Nat.le_trans K0.1 (Nat.le_of_eq g1.symm)
    have K1 := K0.ext E1
    have Zp1 : n0 ≤ h1.size := Nat.le_trans Z0 E1.1
    refine own_go st1 ?_
    have O2 := O0.ext E1
    refine o_astoreN (L' := #[.val (.ref ca), .val (.int 0), .val (.int 3), .val (.ref ob1), .unset, .unset]) X1 B d9_3 rfl rfl ?_
    refine o_aloadN X1 B d9_4 rfl rfl ?_
    refine o_iloadN X1 B d9_5 rfl ?_
    refine o_aloadN X1 B d9_6 rfl rfl ?_
    refine o_iconst X1 B d9_7 ?_
    refine o_iloadN X1 B d9_8 rfl ?_
    show own_G p e below Φ T1 (mkF m 9 #[.val (.ref ca), .val (.int 0), .val (.int 3), .val (.ref ob1), .unset, .unset] [(.int 3), (.int 0), (.ref ob1), (.int 0), (.ref ca)])
    have f3 : Arv Z h1 ca kc .char (3 : Int32) [(.int c0), (.int c1), (.int c2)] (.int 0) := V_ca.ext E1
    refine o_cS (argsL := [(.ref ca), (.int 0), (.ref ob1), (.int 0), (.int 3)]) (rest := []) X1 B hZ hown (wd_52 hw) (wd_53 hw) (wd_54 hw) (wd_50 hw) (by decide) 0 (rmInn3_0 l Z a0 hw [] ca kc ob1 ka1 c0 c1 c2 h1 n0 Zp1 f3 V1 g_ob1 ne_ca_ob1 hg0) (by decide) (by decide) (lenOf pd_10 rfl) rfl rfl rfl d9_9 e1 (by decide) (by decide) rfl ?_
    rintro _ T4 _ X4 ⟨rfl, N4q, Kq4, p4_0⟩
    have N4 := Fr.app N0 N4q
    have K4 := K1.trans Kq4 (allS (Or.inr sz_ob1) all0)
    have Zp4 : n0 ≤ T4.heap.size := Nat.le_trans Zp1 Kq4.1
    have O5 := O2.keep Kq4 (allS g_ob1 all0)
    refine o_istore (L' := #[.val (.ref ca), .val (.int 0), .val (.int 3), .val (.ref ob1), .val (.int 0), .unset]) X4 B d9_12 rfl ?_
    refine o_iload X4 B d9_14 rfl ?_
    refine o_iloadN X4 B d9_16 rfl ?_
    refine o_icN X4 B d9_17 (XT.ii_eq_f (by decide : ¬ ((0 : Int32) = (3 : Int32)))) ?_
    refine o_aloadN X4 B d9_20 rfl rfl ?_
    refine o_iloadN X4 B d9_21 rfl ?_
    refine o_iloadN X4 B d9_22 rfl ?_
    show own_G p e below Φ T4 (mkF m 23 #[.val (.ref ca), .val (.int 0), .val (.int 3), .val (.ref ob1), .val (.int 0), .unset] [(.int 3), (.int 0), (.ref ca)])
    have f6 : Arv Z T4.heap ca kc .char (3 : Int32) [(.int c0), (.int c1), (.int c2)] (.int 0) := f3.keep Kq4 (ninS ne_ca_ob1 nin0)
    refine o_cS (argsL := [(.ref ca), (.int 0), (.int 3)]) (rest := []) X4 B hZ hown (wd_90 hw) (wd_91 hw) (wd_92 hw) (wd_50 hw) (by decide) 0 (rmTob3 l Z a0 hw [] ca kc c0 c1 c2 T4.heap n0 Zp4 O5 S__assertionsDisabled S_HI_BYTE_SHIFT S_LO_BYTE_SHIFT f6) (by decide) (by decide) (lenOf pd_11 rfl) rfl rfl rfl d9_23 rfl (by decide) (by decide) rfl ?_
    rintro _ T7 _ X7 ⟨vb_7, ns_vb_7, kb_7, rfl, N7q, Kq7, p7_0⟩
    have N7 := Fr.app N4 N7q
    have ne_ca_vb_7 : ca ≠ vb_7 := Nat.ne_of_lt (Nat.lt_of_lt_of_le f6.lt ns_vb_7)
    have ne_ob1_vb_7 : ob1 ≠ vb_7 := Nat.ne_of_lt (Nat.lt_of_lt_of_le p4_0.lt ns_vb_7)
    have sz_vb_7 : h0.size ≤ vb_7 := Nat.le_trans K4.1 ns_vb_7
    have K7 := K4.trans Kq7 all0
    have g_vb_7 : n0 ≤ vb_7 := Nat.le_trans Zp4 ns_vb_7
    have Zp7 : n0 ≤ T7.heap.size := Nat.le_trans Zp4 Kq7.1
    have O8 := O5.keep Kq7 all0
    refine o_astore (L' := #[.val (.ref ca), .val (.int 0), .val (.int 3), .val (.ref ob1), .val (.int 0), .val (.ref vb_7)]) X7 B d9_26 rfl rfl ?_
    refine o_aload X7 B d9_28 rfl rfl ?_
    refine o_iload X7 B d9_30 rfl ?_
    refine o_cS (argsL := [(.ref vb_7), (.int 0)]) (rest := []) X7 B hZ hown (wd_106 hw) (wd_107 hw) (wd_108 hw) (wd_50 hw) (by decide) 0 (rmGch l Z a0 hw [] vb_7 kb_7 (6 : Int32) ([(own_h0 c0), (own_h8 c0), (own_h0 c1), (own_h8 c1), (own_h0 c2), (own_h8 c2)]) (0 : Int32) T7.heap n0 Zp7 O8 S__assertionsDisabled S_HI_BYTE_SHIFT S_LO_BYTE_SHIFT p7_0 ⟨by decide, by decide⟩ ⟨by decide, by decide⟩) (by decide) (by decide) (lenOf pd_5 rfl) rfl rfl rfl d9_32 rfl (by decide) (by decide) rfl ?_
    rintro _ T9 _ X9 ⟨rfl, N9q, hs9⟩
    have N9 := Fr.app N7 N9q
    show own_G p e below Φ T9 (mkF m 35 #[.val (.ref ca), .val (.int 0), .val (.int 3), .val (.ref ob1), .val (.int 0), .val (.ref vb_7)] [(.int (own_c16 ([(own_h0 c0), (own_h8 c0), (own_h0 c1), (own_h8 c1), (own_h0 c2), (own_h8 c2)]) (0 : Int32)))])
    have hq10 : (own_c16 ([(own_h0 c0), (own_h8 c0), (own_h0 c1), (own_h8 c1), (own_h0 c2), (own_h8 c2)]) (0 : Int32)) = c0 := own_r16 hr0
    rw [hq10]
    refine o_sipush X9 B d9_35 ?_
    refine o_icY X9 B 54 d9_38 (XT.ii_gt_t hg0) rfl ?_
    refine o_aload X9 B d9_54 rfl rfl ?_
    show own_G p e below Φ T9 (mkF m 56 #[.val (.ref ca), .val (.int 0), .val (.int 3), .val (.ref ob1), .val (.int 0), .val (.ref vb_7)] [(.ref vb_7)])
    rw [hΦ]
    refine own_ret X9 (v := some (.ref vb_7)) (own_nr hret) hlk (fun fs hr => retOut X9 hx hret rfl (Or.inr (Or.inr (Or.inr (Or.inr ⟨rfl, rfl, rfl⟩)))) (hb hby d9_56) hr) ?_ (by decide) (by decide)
    rw [hs9]
    exact ⟨vb_7, sz_vb_7, kb_7, rfl, N9, K7, p7_0⟩
  · skip
    by_cases hg1 : (255 : Int32) < c1
    · show own_G p e below Φ s₁ (mkF m 0 #[.val (.ref ca), .val (.int 0), .val (.int 3), .unset, .unset, .unset] [])
      refine o_iloadN X0 B d9_0 rfl ?_
      obtain ⟨T11, h11, ka11, X11, e11, E11, A11, st11⟩ := newP (aty := .byte) X0 hx hZ (wd_22 hw) e0 (g := (mkF m 1 #[.val (.ref ca), .val (.int 0), .val (.int 3), .unset, .unset, .unset] [(.int 3)])) rfl (hb hby d9_1) rfl (by decide) (cap := 3) (by decide) (by decide) (by decide) (by decide)
      obtain ⟨ob11, g11⟩ : ∃ z, z = h0.size := ⟨_, rfl⟩
      rw [← g11] at A11 st11
      have ne_ca_ob11 : ca ≠ ob11 := Nat.ne_of_lt (Nat.lt_of_lt_of_le V_ca.lt (Nat.le_of_eq g11.symm))
      have V11 : Arv Z h11 ob11 ka11 .byte (3 : Int32) [(.int 0), (.int 0), (.int 0)] (.int 0) := (Arv.new A11 (by decide)).pad (pad_rep [] (.int 0) 3)
      have g_ob11 : n0 ≤ ob11 := Nat.le_trans Z0 (Nat.le_of_eq g11.symm)
      have sz_ob11 : h0.size ≤ ob11 := Nat.le_trans K0.1 (Nat.le_of_eq g11.symm)
      have K11 := K0.ext E11
      have Zp11 : n0 ≤ h11.size := Nat.le_trans Z0 E11.1
      refine own_go st11 ?_
      have O12 := O0.ext E11
      refine o_astoreN (L' := #[.val (.ref ca), .val (.int 0), .val (.int 3), .val (.ref ob11), .unset, .unset]) X11 B d9_3 rfl rfl ?_
      refine o_aloadN X11 B d9_4 rfl rfl ?_
      refine o_iloadN X11 B d9_5 rfl ?_
      refine o_aloadN X11 B d9_6 rfl rfl ?_
      refine o_iconst X11 B d9_7 ?_
      refine o_iloadN X11 B d9_8 rfl ?_
      show own_G p e below Φ T11 (mkF m 9 #[.val (.ref ca), .val (.int 0), .val (.int 3), .val (.ref ob11), .unset, .unset] [(.int 3), (.int 0), (.ref ob11), (.int 0), (.ref ca)])
      have f13 : Arv Z h11 ca kc .char (3 : Int32) [(.int c0), (.int c1), (.int c2)] (.int 0) := V_ca.ext E11
      refine o_cS (argsL := [(.ref ca), (.int 0), (.ref ob11), (.int 0), (.int 3)]) (rest := []) X11 B hZ hown (wd_52 hw) (wd_53 hw) (wd_54 hw) (wd_50 hw) (by decide) 0 (rmInn3_1 l Z a0 hw [] ca kc ob11 ka11 c0 c1 c2 h11 n0 Zp11 f13 V11 g_ob11 ne_ca_ob11 hg0 hg1) (by decide) (by decide) (lenOf pd_10 rfl) rfl rfl rfl d9_9 e11 (by decide) (by decide) rfl ?_
      rintro _ T14 _ X14 ⟨rfl, N14q, Kq14, p14_0⟩
      have N14 := Fr.app N0 N14q
      have K14 := K11.trans Kq14 (allS (Or.inr sz_ob11) all0)
      have Zp14 : n0 ≤ T14.heap.size := Nat.le_trans Zp11 Kq14.1
      have O15 := O12.keep Kq14 (allS g_ob11 all0)
      refine o_istore (L' := #[.val (.ref ca), .val (.int 0), .val (.int 3), .val (.ref ob11), .val (.int 1), .unset]) X14 B d9_12 rfl ?_
      refine o_iload X14 B d9_14 rfl ?_
      refine o_iloadN X14 B d9_16 rfl ?_
      refine o_icN X14 B d9_17 (XT.ii_eq_f (by decide : ¬ ((1 : Int32) = (3 : Int32)))) ?_
      refine o_aloadN X14 B d9_20 rfl rfl ?_
      refine o_iloadN X14 B d9_21 rfl ?_
      refine o_iloadN X14 B d9_22 rfl ?_
      show own_G p e below Φ T14 (mkF m 23 #[.val (.ref ca), .val (.int 0), .val (.int 3), .val (.ref ob11), .val (.int 1), .unset] [(.int 3), (.int 0), (.ref ca)])
      have f16 : Arv Z T14.heap ca kc .char (3 : Int32) [(.int c0), (.int c1), (.int c2)] (.int 0) := f13.keep Kq14 (ninS ne_ca_ob11 nin0)
      refine o_cS (argsL := [(.ref ca), (.int 0), (.int 3)]) (rest := []) X14 B hZ hown (wd_90 hw) (wd_91 hw) (wd_92 hw) (wd_50 hw) (by decide) 0 (rmTob3 l Z a0 hw [] ca kc c0 c1 c2 T14.heap n0 Zp14 O15 S__assertionsDisabled S_HI_BYTE_SHIFT S_LO_BYTE_SHIFT f16) (by decide) (by decide) (lenOf pd_11 rfl) rfl rfl rfl d9_23 rfl (by decide) (by decide) rfl ?_
      rintro _ T17 _ X17 ⟨vb_17, ns_vb_17, kb_17, rfl, N17q, Kq17, p17_0⟩
      have N17 := Fr.app N14 N17q
      have ne_ca_vb_17 : ca ≠ vb_17 := Nat.ne_of_lt (Nat.lt_of_lt_of_le f16.lt ns_vb_17)
      have ne_ob11_vb_17 : ob11 ≠ vb_17 := Nat.ne_of_lt (Nat.lt_of_lt_of_le p14_0.lt ns_vb_17)
      have sz_vb_17 : h0.size ≤ vb_17 := Nat.le_trans K14.1 ns_vb_17
      have K17 := K14.trans Kq17 all0
      have g_vb_17 : n0 ≤ vb_17 := Nat.le_trans Zp14 ns_vb_17
      have Zp17 : n0 ≤ T17.heap.size := Nat.le_trans Zp14 Kq17.1
      have O18 := O15.keep Kq17 all0
      refine o_astore (L' := #[.val (.ref ca), .val (.int 0), .val (.int 3), .val (.ref ob11), .val (.int 1), .val (.ref vb_17)]) X17 B d9_26 rfl rfl ?_
      refine o_aload X17 B d9_28 rfl rfl ?_
      refine o_iload X17 B d9_30 rfl ?_
      refine o_cS (argsL := [(.ref vb_17), (.int 1)]) (rest := []) X17 B hZ hown (wd_106 hw) (wd_107 hw) (wd_108 hw) (wd_50 hw) (by decide) 0 (rmGch l Z a0 hw [] vb_17 kb_17 (6 : Int32) ([(own_h0 c0), (own_h8 c0), (own_h0 c1), (own_h8 c1), (own_h0 c2), (own_h8 c2)]) (1 : Int32) T17.heap n0 Zp17 O18 S__assertionsDisabled S_HI_BYTE_SHIFT S_LO_BYTE_SHIFT p17_0 ⟨by decide, by decide⟩ ⟨by decide, by decide⟩) (by decide) (by decide) (lenOf pd_5 rfl) rfl rfl rfl d9_32 rfl (by decide) (by decide) rfl ?_
      rintro _ T19 _ X19 ⟨rfl, N19q, hs19⟩
      have N19 := Fr.app N17 N19q
      show own_G p e below Φ T19 (mkF m 35 #[.val (.ref ca), .val (.int 0), .val (.int 3), .val (.ref ob11), .val (.int 1), .val (.ref vb_17)] [(.int (own_c16 ([(own_h0 c0), (own_h8 c0), (own_h0 c1), (own_h8 c1), (own_h0 c2), (own_h8 c2)]) (1 : Int32)))])
      have hq20 : (own_c16 ([(own_h0 c0), (own_h8 c0), (own_h0 c1), (own_h8 c1), (own_h0 c2), (own_h8 c2)]) (1 : Int32)) = c1 := own_r16 hr1
      rw [hq20]
      refine o_sipush X19 B d9_35 ?_
      refine o_icY X19 B 54 d9_38 (XT.ii_gt_t hg1) rfl ?_
      refine o_aload X19 B d9_54 rfl rfl ?_
      show own_G p e below Φ T19 (mkF m 56 #[.val (.ref ca), .val (.int 0), .val (.int 3), .val (.ref ob11), .val (.int 1), .val (.ref vb_17)] [(.ref vb_17)])
      rw [hΦ]
      refine own_ret X19 (v := some (.ref vb_17)) (own_nr hret) hlk (fun fs hr => retOut X19 hx hret rfl (Or.inr (Or.inr (Or.inr (Or.inr ⟨rfl, rfl, rfl⟩)))) (hb hby d9_56) hr) ?_ (by decide) (by decide)
      rw [hs19]
      exact ⟨vb_17, sz_vb_17, kb_17, rfl, N19, K17, p17_0⟩
    · skip
      by_cases hg2 : (255 : Int32) < c2
      · show own_G p e below Φ s₁ (mkF m 0 #[.val (.ref ca), .val (.int 0), .val (.int 3), .unset, .unset, .unset] [])
        refine o_iloadN X0 B d9_0 rfl ?_
        obtain ⟨T21, h21, ka21, X21, e21, E21, A21, st21⟩ := newP (aty := .byte) X0 hx hZ (wd_22 hw) e0 (g := (mkF m 1 #[.val (.ref ca), .val (.int 0), .val (.int 3), .unset, .unset, .unset] [(.int 3)])) rfl (hb hby d9_1) rfl (by decide) (cap := 3) (by decide) (by decide) (by decide) (by decide)
        obtain ⟨ob21, g21⟩ : ∃ z, z = h0.size := ⟨_, rfl⟩
        rw [← g21] at A21 st21
        have ne_ca_ob21 : ca ≠ ob21 := Nat.ne_of_lt (Nat.lt_of_lt_of_le V_ca.lt (Nat.le_of_eq g21.symm))
        have V21 : Arv Z h21 ob21 ka21 .byte (3 : Int32) [(.int 0), (.int 0), (.int 0)] (.int 0) := (Arv.new A21 (by decide)).pad (pad_rep [] (.int 0) 3)
        have g_ob21 : n0 ≤ ob21 := Nat.le_trans Z0 (Nat.le_of_eq g21.symm)
        have sz_ob21 : h0.size ≤ ob21 := Nat.le_trans K0.1 (Nat.le_of_eq g21.symm)
        have K21 := K0.ext E21
        have Zp21 : n0 ≤ h21.size := Nat.le_trans Z0 E21.1
        refine own_go st21 ?_
        have O22 := O0.ext E21
        refine o_astoreN (L' := #[.val (.ref ca), .val (.int 0), .val (.int 3), .val (.ref ob21), .unset, .unset]) X21 B d9_3 rfl rfl ?_
        refine o_aloadN X21 B d9_4 rfl rfl ?_
        refine o_iloadN X21 B d9_5 rfl ?_
        refine o_aloadN X21 B d9_6 rfl rfl ?_
        refine o_iconst X21 B d9_7 ?_
        refine o_iloadN X21 B d9_8 rfl ?_
        show own_G p e below Φ T21 (mkF m 9 #[.val (.ref ca), .val (.int 0), .val (.int 3), .val (.ref ob21), .unset, .unset] [(.int 3), (.int 0), (.ref ob21), (.int 0), (.ref ca)])
        have f23 : Arv Z h21 ca kc .char (3 : Int32) [(.int c0), (.int c1), (.int c2)] (.int 0) := V_ca.ext E21
        refine o_cS (argsL := [(.ref ca), (.int 0), (.ref ob21), (.int 0), (.int 3)]) (rest := []) X21 B hZ hown (wd_52 hw) (wd_53 hw) (wd_54 hw) (wd_50 hw) (by decide) 0 (rmInn3_2 l Z a0 hw [] ca kc ob21 ka21 c0 c1 c2 h21 n0 Zp21 f23 V21 g_ob21 ne_ca_ob21 hg0 hg1 hg2) (by decide) (by decide) (lenOf pd_10 rfl) rfl rfl rfl d9_9 e21 (by decide) (by decide) rfl ?_
        rintro _ T24 _ X24 ⟨rfl, N24q, Kq24, p24_0⟩
        have N24 := Fr.app N0 N24q
        have K24 := K21.trans Kq24 (allS (Or.inr sz_ob21) all0)
        have Zp24 : n0 ≤ T24.heap.size := Nat.le_trans Zp21 Kq24.1
        have O25 := O22.keep Kq24 (allS g_ob21 all0)
        refine o_istore (L' := #[.val (.ref ca), .val (.int 0), .val (.int 3), .val (.ref ob21), .val (.int 2), .unset]) X24 B d9_12 rfl ?_
        refine o_iload X24 B d9_14 rfl ?_
        refine o_iloadN X24 B d9_16 rfl ?_
        refine o_icN X24 B d9_17 (XT.ii_eq_f (by decide : ¬ ((2 : Int32) = (3 : Int32)))) ?_
        refine o_aloadN X24 B d9_20 rfl rfl ?_
        refine o_iloadN X24 B d9_21 rfl ?_
        refine o_iloadN X24 B d9_22 rfl ?_
        show own_G p e below Φ T24 (mkF m 23 #[.val (.ref ca), .val (.int 0), .val (.int 3), .val (.ref ob21), .val (.int 2), .unset] [(.int 3), (.int 0), (.ref ca)])
        have f26 : Arv Z T24.heap ca kc .char (3 : Int32) [(.int c0), (.int c1), (.int c2)] (.int 0) := f23.keep Kq24 (ninS ne_ca_ob21 nin0)
        refine o_cS (argsL := [(.ref ca), (.int 0), (.int 3)]) (rest := []) X24 B hZ hown (wd_90 hw) (wd_91 hw) (wd_92 hw) (wd_50 hw) (by decide) 0 (rmTob3 l Z a0 hw [] ca kc c0 c1 c2 T24.heap n0 Zp24 O25 S__assertionsDisabled S_HI_BYTE_SHIFT S_LO_BYTE_SHIFT f26) (by decide) (by decide) (lenOf pd_11 rfl) rfl rfl rfl d9_23 rfl (by decide) (by decide) rfl ?_
        rintro _ T27 _ X27 ⟨vb_27, ns_vb_27, kb_27, rfl, N27q, Kq27, p27_0⟩
        have N27 := Fr.app N24 N27q
        have ne_ca_vb_27 : ca ≠ vb_27 := Nat.ne_of_lt (Nat.lt_of_lt_of_le f26.lt ns_vb_27)
        have ne_ob21_vb_27 : ob21 ≠ vb_27 := Nat.ne_of_lt (Nat.lt_of_lt_of_le p24_0.lt ns_vb_27)
        have sz_vb_27 : h0.size ≤ vb_27 := Nat.le_trans K24.1 ns_vb_27
        have K27 := K24.trans Kq27 all0
        have g_vb_27 : n0 ≤ vb_27 := Nat.le_trans Zp24 ns_vb_27
        have Zp27 : n0 ≤ T27.heap.size := Nat.le_trans Zp24 Kq27.1
        have O28 := O25.keep Kq27 all0
        refine o_astore (L' := #[.val (.ref ca), .val (.int 0), .val (.int 3), .val (.ref ob21), .val (.int 2), .val (.ref vb_27)]) X27 B d9_26 rfl rfl ?_
        refine o_aload X27 B d9_28 rfl rfl ?_
        refine o_iload X27 B d9_30 rfl ?_
        refine o_cS (argsL := [(.ref vb_27), (.int 2)]) (rest := []) X27 B hZ hown (wd_106 hw) (wd_107 hw) (wd_108 hw) (wd_50 hw) (by decide) 0 (rmGch l Z a0 hw [] vb_27 kb_27 (6 : Int32) ([(own_h0 c0), (own_h8 c0), (own_h0 c1), (own_h8 c1), (own_h0 c2), (own_h8 c2)]) (2 : Int32) T27.heap n0 Zp27 O28 S__assertionsDisabled S_HI_BYTE_SHIFT S_LO_BYTE_SHIFT p27_0 ⟨by decide, by decide⟩ ⟨by decide, by decide⟩) (by decide) (by decide) (lenOf pd_5 rfl) rfl rfl rfl d9_32 rfl (by decide) (by decide) rfl ?_
        rintro _ T29 _ X29 ⟨rfl, N29q, hs29⟩
        have N29 := Fr.app N27 N29q
        show own_G p e below Φ T29 (mkF m 35 #[.val (.ref ca), .val (.int 0), .val (.int 3), .val (.ref ob21), .val (.int 2), .val (.ref vb_27)] [(.int (own_c16 ([(own_h0 c0), (own_h8 c0), (own_h0 c1), (own_h8 c1), (own_h0 c2), (own_h8 c2)]) (2 : Int32)))])
        have hq30 : (own_c16 ([(own_h0 c0), (own_h8 c0), (own_h0 c1), (own_h8 c1), (own_h0 c2), (own_h8 c2)]) (2 : Int32)) = c2 := own_r16 hr2
        rw [hq30]
        refine o_sipush X29 B d9_35 ?_
        refine o_icY X29 B 54 d9_38 (XT.ii_gt_t hg2) rfl ?_
        refine o_aload X29 B d9_54 rfl rfl ?_
        show own_G p e below Φ T29 (mkF m 56 #[.val (.ref ca), .val (.int 0), .val (.int 3), .val (.ref ob21), .val (.int 2), .val (.ref vb_27)] [(.ref vb_27)])
        rw [hΦ]
        refine own_ret X29 (v := some (.ref vb_27)) (own_nr hret) hlk (fun fs hr => retOut X29 hx hret rfl (Or.inr (Or.inr (Or.inr (Or.inr ⟨rfl, rfl, rfl⟩)))) (hb hby d9_56) hr) ?_ (by decide) (by decide)
        rw [hs29]
        exact ⟨vb_27, sz_vb_27, kb_27, rfl, N29, K27, p27_0⟩
      · exact (hex.elim hg0 (fun q => q.elim hg1 hg2)).elim
theorem ef_rmCmp4_0 (m : MethodId) (ca : Addr) : entryFrame m #[(.ref ca), (.int 0), (.int 4)] 6 = mkF m 0 #[.val (.ref ca), .val (.int 0), .val (.int 4), .unset, .unset, .unset] [] := by first | (simp [entryFrame, mkF, argsToLocals, Value.category]; done) | rfl
def Q_rmCmp4_0 (Z : State) (ca : Addr) (kc : ClassId) (c0 : Int32) (c1 : Int32) (c2 : Int32) (c3 : Int32) (h0 : Heap) (n0 : Nat) (v : Option Value) (h : Heap) (L : List Loc) : Prop := ∃ vb : Addr, h0.size ≤ vb ∧ ∃ kb : ClassId, v = some (.ref vb) ∧ Fr n0 L ∧ Keep h0 h [] ∧ Arv Z h vb kb .byte (4 : Int32) [(.int (own_lo c0)), (.int (own_lo c1)), (.int (own_lo c2)), (.int (own_lo c3))] (.int 0)
set_option maxRecDepth 65536 in
set_option maxHeartbeats 40000000 in
theorem rmCmp4_0 (l : Launch) (Z : State) (a0 : Array Value) (hw : own_H Z a0) (ws : List Jvm.Cond) (ca : Addr) (kc : ClassId) (c0 : Int32) (c1 : Int32) (c2 : Int32) (c3 : Int32) (h0 : Heap) (n0 : Nat) (Z0 : n0 ≤ h0.size) (V_ca : Arv Z h0 ca kc .char (4 : Int32) [(.int c0), (.int c1), (.int c2), (.int c3)] (.int 0)) (hl0 : ¬ (255 : Int32) < c0) (hl1 : ¬ (255 : Int32) < c1) (hl2 : ¬ (255 : Int32) < c2) (hl3 : ¬ (255 : Int32) < c3) :
    own_Met l (⟨"java/lang/StringUTF16", "compress", "([CII)[B"⟩ : MethodName) jdk_52_method_16_code 6 (some (.array .byte)) ws (own_rm 1 1 4 18) Z h0 #[(.ref ca), (.int 0), (.int 4)] (Q_rmCmp4_0 Z ca kc c0 c1 c2 c3 h0 n0) := by
  refine own_met (plainFor_of_name pn_5) (fun m => ef_rmCmp4_0 m ca) ?_
  intro p e s m below meth c s₁ Φ hΦ X0 hx hby hml hown hnm hret hlk hZ e0
  have N0 := Fr.nil n0
  have B : own_B p c _ _ := ⟨hx, hby, hml⟩
  have K0 : Keep h0 h0 [] := Keep.refl _ _
  show own_G p e below Φ s₁ (mkF m 0 #[.val (.ref ca), .val (.int 0), .val (.int 4), .unset, .unset, .unset] [])
  refine o_iloadN X0 B d9_0 rfl ?_
  obtain ⟨T1, h1, ka1, X1, e1, E1, A1, st1⟩ := newP (aty := .byte) X0 hx hZ (wd_22 hw) e0 (g := (mkF m 1 #[.val (.ref ca), .val (.int 0), .val (.int 4), .unset, .unset, .unset] [(.int 4)])) rfl (hb hby d9_1) rfl (by decide) (cap := 4) (by decide) (by decide) (by decide) (by decide)
  obtain ⟨ob1, g1⟩ : ∃ z, z = h0.size := ⟨_, rfl⟩
  rw [← g1] at A1 st1
  have ne_ca_ob1 : ca ≠ ob1 := Nat.ne_of_lt (Nat.lt_of_lt_of_le V_ca.lt (Nat.le_of_eq g1.symm))
  have V1 : Arv Z h1 ob1 ka1 .byte (4 : Int32) [(.int 0), (.int 0), (.int 0), (.int 0)] (.int 0) := (Arv.new A1 (by decide)).pad (pad_rep [] (.int 0) 4)
  have g_ob1 : n0 ≤ ob1 := Nat.le_trans Z0 (Nat.le_of_eq g1.symm)
  have sz_ob1 : h0.size ≤ ob1 := Nat.le_trans K0.1 (Nat.le_of_eq g1.symm)
  have K1 := K0.ext E1
  have Zp1 : n0 ≤ h1.size := Nat.le_trans Z0 E1.1
  refine own_go st1 ?_
  refine o_astoreN (L' := #[.val (.ref ca), .val (.int 0), .val (.int 4), .val (.ref ob1), .unset, .unset]) X1 B d9_3 rfl rfl ?_
  refine o_aloadN X1 B d9_4 rfl rfl ?_
  refine o_iloadN X1 B d9_5 rfl ?_
  refine o_aloadN X1 B d9_6 rfl rfl ?_
  refine o_iconst X1 B d9_7 ?_
  refine o_iloadN X1 B d9_8 rfl ?_
  show own_G p e below Φ T1 (mkF m 9 #[.val (.ref ca), .val (.int 0), .val (.int 4), .val (.ref ob1), .unset, .unset] [(.int 4), (.int 0), (.ref ob1), (.int 0), (.ref ca)])
  have f2 : Arv Z h1 ca kc .char (4 : Int32) [(.int c0), (.int c1), (.int c2), (.int c3)] (.int 0) := V_ca.ext E1
  refine o_cS (argsL := [(.ref ca), (.int 0), (.ref ob1), (.int 0), (.int 4)]) (rest := []) X1 B hZ hown (wd_52 hw) (wd_53 hw) (wd_54 hw) (wd_50 hw) (by decide) 0 (rmInn4_a l Z a0 hw [] ca kc ob1 ka1 c0 c1 c2 c3 h1 n0 Zp1 f2 V1 g_ob1 ne_ca_ob1 hl0 hl1 hl2 hl3) (by decide) (by decide) (lenOf pd_10 rfl) rfl rfl rfl d9_9 e1 (by decide) (by decide) rfl ?_
  rintro _ T3 _ X3 ⟨rfl, N3q, Kq3, p3_0⟩
  have N3 := Fr.app N0 N3q
  have K3 := K1.trans Kq3 (allS (Or.inr sz_ob1) all0)
  have Zp3 : n0 ≤ T3.heap.size := Nat.le_trans Zp1 Kq3.1
  refine o_istore (L' := #[.val (.ref ca), .val (.int 0), .val (.int 4), .val (.ref ob1), .val (.int 4), .unset]) X3 B d9_12 rfl ?_
  refine o_iload X3 B d9_14 rfl ?_
  refine o_iloadN X3 B d9_16 rfl ?_
  refine o_icY X3 B 57 d9_17 (XT.ii_eq_t (by decide : ((4 : Int32) = (4 : Int32)))) rfl ?_
  refine o_aloadN X3 B d9_57 rfl rfl ?_
  rw [hΦ]
  refine own_ret X3 (v := some (.ref ob1)) (own_nr hret) hlk (fun fs hr => retOut X3 hx hret rfl (Or.inr (Or.inr (Or.inr (Or.inr ⟨rfl, rfl, rfl⟩)))) (hb hby d9_58) hr) ?_ (by decide) (by decide)
  exact ⟨ob1, sz_ob1, ka1, rfl, N3, K3, p3_0⟩
theorem ef_rmCmp4_1 (m : MethodId) (ca : Addr) : entryFrame m #[(.ref ca), (.int 0), (.int 4)] 6 = mkF m 0 #[.val (.ref ca), .val (.int 0), .val (.int 4), .unset, .unset, .unset] [] := by first | (simp [entryFrame, mkF, argsToLocals, Value.category]; done) | rfl
def Q_rmCmp4_1 (Z : State) (ca : Addr) (kc : ClassId) (c0 : Int32) (c1 : Int32) (c2 : Int32) (c3 : Int32) (h0 : Heap) (n0 : Nat) (v : Option Value) (h : Heap) (L : List Loc) : Prop := ∃ vb : Addr, h0.size ≤ vb ∧ ∃ kb : ClassId, v = some (.ref vb) ∧ Fr n0 L ∧ Keep h0 h [] ∧ Arv Z h vb kb .byte (8 : Int32) [(.int (own_h0 c0)), (.int (own_h8 c0)), (.int (own_h0 c1)), (.int (own_h8 c1)), (.int (own_h0 c2)), (.int (own_h8 c2)), (.int (own_h0 c3)), (.int (own_h8 c3))] (.int 0)
set_option maxRecDepth 65536 in
set_option maxHeartbeats 40000000 in
theorem rmCmp4_1 (l : Launch) (Z : State) (a0 : Array Value) (hw : own_H Z a0) (ws : List Jvm.Cond) (ca : Addr) (kc : ClassId) (c0 : Int32) (c1 : Int32) (c2 : Int32) (c3 : Int32) (h0 : Heap) (n0 : Nat) (Z0 : n0 ≤ h0.size) (O0 : Old Z n0 h0) (S__assertionsDisabled : Sta Z Z.heap "java/lang/StringUTF16" "$assertionsDisabled" "Z" (.int 1)) (S_HI_BYTE_SHIFT : Sta Z Z.heap "java/lang/StringUTF16" "HI_BYTE_SHIFT" "I" (.int 0)) (S_LO_BYTE_SHIFT : Sta Z Z.heap "java/lang/StringUTF16" "LO_BYTE_SHIFT" "I" (.int 8)) (V_ca : Arv Z h0 ca kc .char (4 : Int32) [(.int c0), (.int c1), (.int c2), (.int c3)] (.int 0)) (hr0 : ¬ c0 < 0 ∧ ¬ (65535 : Int32) < c0) (hr1 : ¬ c1 < 0 ∧ ¬ (65535 : Int32) < c1) (hr2 : ¬ c2 < 0 ∧ ¬ (65535 : Int32) < c2) (hr3 : ¬ c3 < 0 ∧ ¬ (65535 : Int32) < c3) (hex : (255 : Int32) < c0 ∨ (255 : Int32) < c1 ∨ (255 : Int32) < c2 ∨ (255 : Int32) < c3) :
    own_Met l (⟨"java/lang/StringUTF16", "compress", "([CII)[B"⟩ : MethodName) jdk_52_method_16_code 6 (some (.array .byte)) ws (own_rm 3 2 12 40) Z h0 #[(.ref ca), (.int 0), (.int 4)] (Q_rmCmp4_1 Z ca kc c0 c1 c2 c3 h0 n0) := by
  refine own_met (plainFor_of_name pn_5) (fun m => ef_rmCmp4_1 m ca) ?_
  intro p e s m below meth c s₁ Φ hΦ X0 hx hby hml hown hnm hret hlk hZ e0
  have N0 := Fr.nil n0
  have B : own_B p c _ _ := ⟨hx, hby, hml⟩
  have K0 : Keep h0 h0 [] := Keep.refl _ _
  show own_G p e below Φ s₁ (mkF m 0 #[.val (.ref ca), .val (.int 0), .val (.int 4), .unset, .unset, .unset] [])
  by_cases hg0 : (255 : Int32) < c0
  · show own_G p e below Φ s₁ (mkF m 0 #[.val (.ref ca), .val (.int 0), .val (.int 4), .unset, .unset, .unset] [])
    refine o_iloadN X0 B d9_0 rfl ?_
    obtain ⟨T1, h1, ka1, X1, e1, E1, A1, st1⟩ := newP (aty := .byte) X0 hx hZ (wd_22 hw) e0 (g := (mkF m 1 #[.val (.ref ca), .val (.int 0), .val (.int 4), .unset, .unset, .unset] [(.int 4)])) rfl (hb hby d9_1) rfl (by decide) (cap := 4) (by decide) (by decide) (by decide) (by decide)
    obtain ⟨ob1, g1⟩ : ∃ z, z = h0.size := ⟨_, rfl⟩
    rw [← g1] at A1 st1
    have ne_ca_ob1 : ca ≠ ob1 := Nat.ne_of_lt (Nat.lt_of_lt_of_le V_ca.lt (Nat.le_of_eq g1.symm))
    have V1 : Arv Z h1 ob1 ka1 .byte (4 : Int32) [(.int 0), (.int 0), (.int 0), (.int 0)] (.int 0) := (Arv.new A1 (by decide)).pad (pad_rep [] (.int 0) 4)
    have g_ob1 : n0 ≤ ob1 := Nat.le_trans Z0 (Nat.le_of_eq g1.symm)
    have sz_ob1 : h0.size ≤ ob1 := Nat.le_trans K0.1 (Nat.le_of_eq g1.symm)
    have K1 := K0.ext E1
    have Zp1 : n0 ≤ h1.size := Nat.le_trans Z0 E1.1
    refine own_go st1 ?_
    have O2 := O0.ext E1
    refine o_astoreN (L' := #[.val (.ref ca), .val (.int 0), .val (.int 4), .val (.ref ob1), .unset, .unset]) X1 B d9_3 rfl rfl ?_
    refine o_aloadN X1 B d9_4 rfl rfl ?_
    refine o_iloadN X1 B d9_5 rfl ?_
    refine o_aloadN X1 B d9_6 rfl rfl ?_
    refine o_iconst X1 B d9_7 ?_
    refine o_iloadN X1 B d9_8 rfl ?_
    show own_G p e below Φ T1 (mkF m 9 #[.val (.ref ca), .val (.int 0), .val (.int 4), .val (.ref ob1), .unset, .unset] [(.int 4), (.int 0), (.ref ob1), (.int 0), (.ref ca)])
    have f3 : Arv Z h1 ca kc .char (4 : Int32) [(.int c0), (.int c1), (.int c2), (.int c3)] (.int 0) := V_ca.ext E1
    refine o_cS (argsL := [(.ref ca), (.int 0), (.ref ob1), (.int 0), (.int 4)]) (rest := []) X1 B hZ hown (wd_52 hw) (wd_53 hw) (wd_54 hw) (wd_50 hw) (by decide) 0 (rmInn4_0 l Z a0 hw [] ca kc ob1 ka1 c0 c1 c2 c3 h1 n0 Zp1 f3 V1 g_ob1 ne_ca_ob1 hg0) (by decide) (by decide) (lenOf pd_10 rfl) rfl rfl rfl d9_9 e1 (by decide) (by decide) rfl ?_
    rintro _ T4 _ X4 ⟨rfl, N4q, Kq4, p4_0⟩
    have N4 := Fr.app N0 N4q
    have K4 := K1.trans Kq4 (allS (Or.inr sz_ob1) all0)
    have Zp4 : n0 ≤ T4.heap.size := Nat.le_trans Zp1 Kq4.1
    have O5 := O2.keep Kq4 (allS g_ob1 all0)
    refine o_istore (L' := #[.val (.ref ca), .val (.int 0), .val (.int 4), .val (.ref ob1), .val (.int 0), .unset]) X4 B d9_12 rfl ?_
    refine o_iload X4 B d9_14 rfl ?_
    refine o_iloadN X4 B d9_16 rfl ?_
    refine o_icN X4 B d9_17 (XT.ii_eq_f (by decide : ¬ ((0 : Int32) = (4 : Int32)))) ?_
    refine o_aloadN X4 B d9_20 rfl rfl ?_
    refine o_iloadN X4 B d9_21 rfl ?_
    refine o_iloadN X4 B d9_22 rfl ?_
    show own_G p e below Φ T4 (mkF m 23 #[.val (.ref ca), .val (.int 0), .val (.int 4), .val (.ref ob1), .val (.int 0), .unset] [(.int 4), (.int 0), (.ref ca)])
    have f6 : Arv Z T4.heap ca kc .char (4 : Int32) [(.int c0), (.int c1), (.int c2), (.int c3)] (.int 0) := f3.keep Kq4 (ninS ne_ca_ob1 nin0)
    refine o_cS (argsL := [(.ref ca), (.int 0), (.int 4)]) (rest := []) X4 B hZ hown (wd_90 hw) (wd_91 hw) (wd_92 hw) (wd_50 hw) (by decide) 0 (rmTob4 l Z a0 hw [] ca kc c0 c1 c2 c3 T4.heap n0 Zp4 O5 S__assertionsDisabled S_HI_BYTE_SHIFT S_LO_BYTE_SHIFT f6) (by decide) (by decide) (lenOf pd_11 rfl) rfl rfl rfl d9_23 rfl (by decide) (by decide) rfl ?_
    rintro _ T7 _ X7 ⟨vb_7, ns_vb_7, kb_7, rfl, N7q, Kq7, p7_0⟩
    have N7 := Fr.app N4 N7q
    have ne_ca_vb_7 : ca ≠ vb_7 := Nat.ne_of_lt (Nat.lt_of_lt_of_le f6.lt ns_vb_7)
    have ne_ob1_vb_7 : ob1 ≠ vb_7 := Nat.ne_of_lt (Nat.lt_of_lt_of_le p4_0.lt ns_vb_7)
    have sz_vb_7 : h0.size ≤ vb_7 := Nat.le_trans K4.1 ns_vb_7
    have K7 := K4.trans Kq7 all0
    have g_vb_7 : n0 ≤ vb_7 := Nat.le_trans Zp4 ns_vb_7
    have Zp7 : n0 ≤ T7.heap.size := Nat.le_trans Zp4 Kq7.1
    have O8 := O5.keep Kq7 all0
    refine o_astore (L' := #[.val (.ref ca), .val (.int 0), .val (.int 4), .val (.ref ob1), .val (.int 0), .val (.ref vb_7)]) X7 B d9_26 rfl rfl ?_
    refine o_aload X7 B d9_28 rfl rfl ?_
    refine o_iload X7 B d9_30 rfl ?_
    refine o_cS (argsL := [(.ref vb_7), (.int 0)]) (rest := []) X7 B hZ hown (wd_106 hw) (wd_107 hw) (wd_108 hw) (wd_50 hw) (by decide) 0 (rmGch l Z a0 hw [] vb_7 kb_7 (8 : Int32) ([(own_h0 c0), (own_h8 c0), (own_h0 c1), (own_h8 c1), (own_h0 c2), (own_h8 c2), (own_h0 c3), (own_h8 c3)]) (0 : Int32) T7.heap n0 Zp7 O8 S__assertionsDisabled S_HI_BYTE_SHIFT S_LO_BYTE_SHIFT p7_0 ⟨by decide, by decide⟩ ⟨by decide, by decide⟩) (by decide) (by decide) (lenOf pd_5 rfl) rfl rfl rfl d9_32 rfl (by decide) (by decide) rfl ?_
    rintro _ T9 _ X9 ⟨rfl, N9q, hs9⟩
    have N9 := Fr.app N7 N9q
    show own_G p e below Φ T9 (mkF m 35 #[.val (.ref ca), .val (.int 0), .val (.int 4), .val (.ref ob1), .val (.int 0), .val (.ref vb_7)] [(.int (own_c16 ([(own_h0 c0), (own_h8 c0), (own_h0 c1), (own_h8 c1), (own_h0 c2), (own_h8 c2), (own_h0 c3), (own_h8 c3)]) (0 : Int32)))])
    have hq10 : (own_c16 ([(own_h0 c0), (own_h8 c0), (own_h0 c1), (own_h8 c1), (own_h0 c2), (own_h8 c2), (own_h0 c3), (own_h8 c3)]) (0 : Int32)) = c0 := own_r16 hr0
    rw [hq10]
    refine o_sipush X9 B d9_35 ?_
    refine o_icY X9 B 54 d9_38 (XT.ii_gt_t hg0) rfl ?_
    refine o_aload X9 B d9_54 rfl rfl ?_
    show own_G p e below Φ T9 (mkF m 56 #[.val (.ref ca), .val (.int 0), .val (.int 4), .val (.ref ob1), .val (.int 0), .val (.ref vb_7)] [(.ref vb_7)])
    rw [hΦ]
    refine own_ret X9 (v := some (.ref vb_7)) (own_nr hret) hlk (fun fs hr => retOut X9 hx hret rfl (Or.inr (Or.inr (Or.inr (Or.inr ⟨rfl, rfl, rfl⟩)))) (hb hby d9_56) hr) ?_ (by decide) (by decide)
    rw [hs9]
    exact ⟨vb_7, sz_vb_7, kb_7, rfl, N9, K7, p7_0⟩
  · skip
    by_cases hg1 : (255 : Int32) < c1
    · show own_G p e below Φ s₁ (mkF m 0 #[.val (.ref ca), .val (.int 0), .val (.int 4), .unset, .unset, .unset] [])
      refine o_iloadN X0 B d9_0 rfl ?_
      obtain ⟨T11, h11, ka11, X11, e11, E11, A11, st11⟩ := newP (aty := .byte) X0 hx hZ (wd_22 hw) e0 (g := (mkF m 1 #[.val (.ref ca), .val (.int 0), .val (.int 4), .unset, .unset, .unset] [(.int 4)])) rfl (hb hby d9_1) rfl (by decide) (cap := 4) (by decide) (by decide) (by decide) (by decide)
      obtain ⟨ob11, g11⟩ : ∃ z, z = h0.size := ⟨_, rfl⟩
      rw [← g11] at A11 st11
      have ne_ca_ob11 : ca ≠ ob11 := Nat.ne_of_lt (Nat.lt_of_lt_of_le V_ca.lt (Nat.le_of_eq g11.symm))
      have V11 : Arv Z h11 ob11 ka11 .byte (4 : Int32) [(.int 0), (.int 0), (.int 0), (.int 0)] (.int 0) := (Arv.new A11 (by decide)).pad (pad_rep [] (.int 0) 4)
      have g_ob11 : n0 ≤ ob11 := Nat.le_trans Z0 (Nat.le_of_eq g11.symm)
      have sz_ob11 : h0.size ≤ ob11 := Nat.le_trans K0.1 (Nat.le_of_eq g11.symm)
      have K11 := K0.ext E11
      have Zp11 : n0 ≤ h11.size := Nat.le_trans Z0 E11.1
      refine own_go st11 ?_
      have O12 := O0.ext E11
      refine o_astoreN (L' := #[.val (.ref ca), .val (.int 0), .val (.int 4), .val (.ref ob11), .unset, .unset]) X11 B d9_3 rfl rfl ?_
      refine o_aloadN X11 B d9_4 rfl rfl ?_
      refine o_iloadN X11 B d9_5 rfl ?_
      refine o_aloadN X11 B d9_6 rfl rfl ?_
      refine o_iconst X11 B d9_7 ?_
      refine o_iloadN X11 B d9_8 rfl ?_
      show own_G p e below Φ T11 (mkF m 9 #[.val (.ref ca), .val (.int 0), .val (.int 4), .val (.ref ob11), .unset, .unset] [(.int 4), (.int 0), (.ref ob11), (.int 0), (.ref ca)])
      have f13 : Arv Z h11 ca kc .char (4 : Int32) [(.int c0), (.int c1), (.int c2), (.int c3)] (.int 0) := V_ca.ext E11
      refine o_cS (argsL := [(.ref ca), (.int 0), (.ref ob11), (.int 0), (.int 4)]) (rest := []) X11 B hZ hown (wd_52 hw) (wd_53 hw) (wd_54 hw) (wd_50 hw) (by decide) 0 (rmInn4_1 l Z a0 hw [] ca kc ob11 ka11 c0 c1 c2 c3 h11 n0 Zp11 f13 V11 g_ob11 ne_ca_ob11 hg0 hg1) (by decide) (by decide) (lenOf pd_10 rfl) rfl rfl rfl d9_9 e11 (by decide) (by decide) rfl ?_
      rintro _ T14 _ X14 ⟨rfl, N14q, Kq14, p14_0⟩
      have N14 := Fr.app N0 N14q
      have K14 := K11.trans Kq14 (allS (Or.inr sz_ob11) all0)
      have Zp14 : n0 ≤ T14.heap.size := Nat.le_trans Zp11 Kq14.1
      have O15 := O12.keep Kq14 (allS g_ob11 all0)
      refine o_istore (L' := #[.val (.ref ca), .val (.int 0), .val (.int 4), .val (.ref ob11), .val (.int 1), .unset]) X14 B d9_12 rfl ?_
      refine o_iload X14 B d9_14 rfl ?_
      refine o_iloadN X14 B d9_16 rfl ?_
      refine o_icN X14 B d9_17 (XT.ii_eq_f (by decide : ¬ ((1 : Int32) = (4 : Int32)))) ?_
      refine o_aloadN X14 B d9_20 rfl rfl ?_
      refine o_iloadN X14 B d9_21 rfl ?_
      refine o_iloadN X14 B d9_22 rfl ?_
      show own_G p e below Φ T14 (mkF m 23 #[.val (.ref ca), .val (.int 0), .val (.int 4), .val (.ref ob11), .val (.int 1), .unset] [(.int 4), (.int 0), (.ref ca)])
      have f16 : Arv Z T14.heap ca kc .char (4 : Int32) [(.int c0), (.int c1), (.int c2), (.int c3)] (.int 0) := f13.keep Kq14 (ninS ne_ca_ob11 nin0)
      refine o_cS (argsL := [(.ref ca), (.int 0), (.int 4)]) (rest := []) X14 B hZ hown (wd_90 hw) (wd_91 hw) (wd_92 hw) (wd_50 hw) (by decide) 0 (rmTob4 l Z a0 hw [] ca kc c0 c1 c2 c3 T14.heap n0 Zp14 O15 S__assertionsDisabled S_HI_BYTE_SHIFT S_LO_BYTE_SHIFT f16) (by decide) (by decide) (lenOf pd_11 rfl) rfl rfl rfl d9_23 rfl (by decide) (by decide) rfl ?_
      rintro _ T17 _ X17 ⟨vb_17, ns_vb_17, kb_17, rfl, N17q, Kq17, p17_0⟩
      have N17 := Fr.app N14 N17q
      have ne_ca_vb_17 : ca ≠ vb_17 := Nat.ne_of_lt (Nat.lt_of_lt_of_le f16.lt ns_vb_17)
      have ne_ob11_vb_17 : ob11 ≠ vb_17 := Nat.ne_of_lt (Nat.lt_of_lt_of_le p14_0.lt ns_vb_17)
      have sz_vb_17 : h0.size ≤ vb_17 := Nat.le_trans K14.1 ns_vb_17
      have K17 := K14.trans Kq17 all0
      have g_vb_17 : n0 ≤ vb_17 := Nat.le_trans Zp14 ns_vb_17
      have Zp17 : n0 ≤ T17.heap.size := Nat.le_trans Zp14 Kq17.1
      have O18 := O15.keep Kq17 all0
      refine o_astore (L' := #[.val (.ref ca), .val (.int 0), .val (.int 4), .val (.ref ob11), .val (.int 1), .val (.ref vb_17)]) X17 B d9_26 rfl rfl ?_
      refine o_aload X17 B d9_28 rfl rfl ?_
      refine o_iload X17 B d9_30 rfl ?_
      refine o_cS (argsL := [(.ref vb_17), (.int 1)]) (rest := []) X17 B hZ hown (wd_106 hw) (wd_107 hw) (wd_108 hw) (wd_50 hw) (by decide) 0 (rmGch l Z a0 hw [] vb_17 kb_17 (8 : Int32) ([(own_h0 c0), (own_h8 c0), (own_h0 c1), (own_h8 c1), (own_h0 c2), (own_h8 c2), (own_h0 c3), (own_h8 c3)]) (1 : Int32) T17.heap n0 Zp17 O18 S__assertionsDisabled S_HI_BYTE_SHIFT S_LO_BYTE_SHIFT p17_0 ⟨by decide, by decide⟩ ⟨by decide, by decide⟩) (by decide) (by decide) (lenOf pd_5 rfl) rfl rfl rfl d9_32 rfl (by decide) (by decide) rfl ?_
      rintro _ T19 _ X19 ⟨rfl, N19q, hs19⟩
      have N19 := Fr.app N17 N19q
      show own_G p e below Φ T19 (mkF m 35 #[.val (.ref ca), .val (.int 0), .val (.int 4), .val (.ref ob11), .val (.int 1), .val (.ref vb_17)] [(.int (own_c16 ([(own_h0 c0), (own_h8 c0), (own_h0 c1), (own_h8 c1), (own_h0 c2), (own_h8 c2), (own_h0 c3), (own_h8 c3)]) (1 : Int32)))])
      have hq20 : (own_c16 ([(own_h0 c0), (own_h8 c0), (own_h0 c1), (own_h8 c1), (own_h0 c2), (own_h8 c2), (own_h0 c3), (own_h8 c3)]) (1 : Int32)) = c1 := own_r16 hr1
      rw [hq20]
      refine o_sipush X19 B d9_35 ?_
      refine o_icY X19 B 54 d9_38 (XT.ii_gt_t hg1) rfl ?_
      refine o_aload X19 B d9_54 rfl rfl ?_
      show own_G p e below Φ T19 (mkF m 56 #[.val (.ref ca), .val (.int 0), .val (.int 4), .val (.ref ob11), .val (.int 1), .val (.ref vb_17)] [(.ref vb_17)])
      rw [hΦ]
      refine own_ret X19 (v := some (.ref vb_17)) (own_nr hret) hlk (fun fs hr => retOut X19 hx hret rfl (Or.inr (Or.inr (Or.inr (Or.inr ⟨rfl, rfl, rfl⟩)))) (hb hby d9_56) hr) ?_ (by decide) (by decide)
      rw [hs19]
      exact ⟨vb_17, sz_vb_17, kb_17, rfl, N19, K17, p17_0⟩
    · skip
      by_cases hg2 : (255 : Int32) < c2
      · show own_G p e below Φ s₁ (mkF m 0 #[.val (.ref ca), .val (.int 0), .val (.int 4), .unset, .unset, .unset] [])
        refine o_iloadN X0 B d9_0 rfl ?_
        obtain ⟨T21, h21, ka21, X21, e21, E21, A21, st21⟩ := newP (aty := .byte) X0 hx hZ (wd_22 hw) e0 (g := (mkF m 1 #[.val (.ref ca), .val (.int 0), .val (.int 4), .unset, .unset, .unset] [(.int 4)])) rfl (hb hby d9_1) rfl (by decide) (cap := 4) (by decide) (by decide) (by decide) (by decide)
        obtain ⟨ob21, g21⟩ : ∃ z, z = h0.size := ⟨_, rfl⟩
        rw [← g21] at A21 st21
        have ne_ca_ob21 : ca ≠ ob21 := Nat.ne_of_lt (Nat.lt_of_lt_of_le V_ca.lt (Nat.le_of_eq g21.symm))
        have V21 : Arv Z h21 ob21 ka21 .byte (4 : Int32) [(.int 0), (.int 0), (.int 0), (.int 0)] (.int 0) := (Arv.new A21 (by decide)).pad (pad_rep [] (.int 0) 4)
        have g_ob21 : n0 ≤ ob21 := Nat.le_trans Z0 (Nat.le_of_eq g21.symm)
        have sz_ob21 : h0.size ≤ ob21 := Nat.le_trans K0.1 (Nat.le_of_eq g21.symm)
        have K21 := K0.ext E21
        have Zp21 : n0 ≤ h21.size := Nat.le_trans Z0 E21.1
        refine own_go st21 ?_
        have O22 := O0.ext E21
        refine o_astoreN (L' := #[.val (.ref ca), .val (.int 0), .val (.int 4), .val (.ref ob21), .unset, .unset]) X21 B d9_3 rfl rfl ?_
        refine o_aloadN X21 B d9_4 rfl rfl ?_
        refine o_iloadN X21 B d9_5 rfl ?_
        refine o_aloadN X21 B d9_6 rfl rfl ?_
        refine o_iconst X21 B d9_7 ?_
        refine o_iloadN X21 B d9_8 rfl ?_
        show own_G p e below Φ T21 (mkF m 9 #[.val (.ref ca), .val (.int 0), .val (.int 4), .val (.ref ob21), .unset, .unset] [(.int 4), (.int 0), (.ref ob21), (.int 0), (.ref ca)])
        have f23 : Arv Z h21 ca kc .char (4 : Int32) [(.int c0), (.int c1), (.int c2), (.int c3)] (.int 0) := V_ca.ext E21
        refine o_cS (argsL := [(.ref ca), (.int 0), (.ref ob21), (.int 0), (.int 4)]) (rest := []) X21 B hZ hown (wd_52 hw) (wd_53 hw) (wd_54 hw) (wd_50 hw) (by decide) 0 (rmInn4_2 l Z a0 hw [] ca kc ob21 ka21 c0 c1 c2 c3 h21 n0 Zp21 f23 V21 g_ob21 ne_ca_ob21 hg0 hg1 hg2) (by decide) (by decide) (lenOf pd_10 rfl) rfl rfl rfl d9_9 e21 (by decide) (by decide) rfl ?_
        rintro _ T24 _ X24 ⟨rfl, N24q, Kq24, p24_0⟩
        have N24 := Fr.app N0 N24q
        have K24 := K21.trans Kq24 (allS (Or.inr sz_ob21) all0)
        have Zp24 : n0 ≤ T24.heap.size := Nat.le_trans Zp21 Kq24.1
        have O25 := O22.keep Kq24 (allS g_ob21 all0)
        refine o_istore (L' := #[.val (.ref ca), .val (.int 0), .val (.int 4), .val (.ref ob21), .val (.int 2), .unset]) X24 B d9_12 rfl ?_
        refine o_iload X24 B d9_14 rfl ?_
        refine o_iloadN X24 B d9_16 rfl ?_
        refine o_icN X24 B d9_17 (XT.ii_eq_f (by decide : ¬ ((2 : Int32) = (4 : Int32)))) ?_
        refine o_aloadN X24 B d9_20 rfl rfl ?_
        refine o_iloadN X24 B d9_21 rfl ?_
        refine o_iloadN X24 B d9_22 rfl ?_
        show own_G p e below Φ T24 (mkF m 23 #[.val (.ref ca), .val (.int 0), .val (.int 4), .val (.ref ob21), .val (.int 2), .unset] [(.int 4), (.int 0), (.ref ca)])
        have f26 : Arv Z T24.heap ca kc .char (4 : Int32) [(.int c0), (.int c1), (.int c2), (.int c3)] (.int 0) := f23.keep Kq24 (ninS ne_ca_ob21 nin0)
        refine o_cS (argsL := [(.ref ca), (.int 0), (.int 4)]) (rest := []) X24 B hZ hown (wd_90 hw) (wd_91 hw) (wd_92 hw) (wd_50 hw) (by decide) 0 (rmTob4 l Z a0 hw [] ca kc c0 c1 c2 c3 T24.heap n0 Zp24 O25 S__assertionsDisabled S_HI_BYTE_SHIFT S_LO_BYTE_SHIFT f26) (by decide) (by decide) (lenOf pd_11 rfl) rfl rfl rfl d9_23 rfl (by decide) (by decide) rfl ?_
        rintro _ T27 _ X27 ⟨vb_27, ns_vb_27, kb_27, rfl, N27q, Kq27, p27_0⟩
        have N27 := Fr.app N24 N27q
        have ne_ca_vb_27 : ca ≠ vb_27 := Nat.ne_of_lt (Nat.lt_of_lt_of_le f26.lt ns_vb_27)
        have ne_ob21_vb_27 : ob21 ≠ vb_27 := Nat.ne_of_lt (Nat.lt_of_lt_of_le p24_0.lt ns_vb_27)
        have sz_vb_27 : h0.size ≤ vb_27 := Nat.le_trans K24.1 ns_vb_27
        have K27 := K24.trans Kq27 all0
        have g_vb_27 : n0 ≤ vb_27 := Nat.le_trans Zp24 ns_vb_27
        have Zp27 : n0 ≤ T27.heap.size := Nat.le_trans Zp24 Kq27.1
        have O28 := O25.keep Kq27 all0
        refine o_astore (L' := #[.val (.ref ca), .val (.int 0), .val (.int 4), .val (.ref ob21), .val (.int 2), .val (.ref vb_27)]) X27 B d9_26 rfl rfl ?_
        refine o_aload X27 B d9_28 rfl rfl ?_
        refine o_iload X27 B d9_30 rfl ?_
        refine o_cS (argsL := [(.ref vb_27), (.int 2)]) (rest := []) X27 B hZ hown (wd_106 hw) (wd_107 hw) (wd_108 hw) (wd_50 hw) (by decide) 0 (rmGch l Z a0 hw [] vb_27 kb_27 (8 : Int32) ([(own_h0 c0), (own_h8 c0), (own_h0 c1), (own_h8 c1), (own_h0 c2), (own_h8 c2), (own_h0 c3), (own_h8 c3)]) (2 : Int32) T27.heap n0 Zp27 O28 S__assertionsDisabled S_HI_BYTE_SHIFT S_LO_BYTE_SHIFT p27_0 ⟨by decide, by decide⟩ ⟨by decide, by decide⟩) (by decide) (by decide) (lenOf pd_5 rfl) rfl rfl rfl d9_32 rfl (by decide) (by decide) rfl ?_
        rintro _ T29 _ X29 ⟨rfl, N29q, hs29⟩
        have N29 := Fr.app N27 N29q
        show own_G p e below Φ T29 (mkF m 35 #[.val (.ref ca), .val (.int 0), .val (.int 4), .val (.ref ob21), .val (.int 2), .val (.ref vb_27)] [(.int (own_c16 ([(own_h0 c0), (own_h8 c0), (own_h0 c1), (own_h8 c1), (own_h0 c2), (own_h8 c2), (own_h0 c3), (own_h8 c3)]) (2 : Int32)))])
        have hq30 : (own_c16 ([(own_h0 c0), (own_h8 c0), (own_h0 c1), (own_h8 c1), (own_h0 c2), (own_h8 c2), (own_h0 c3), (own_h8 c3)]) (2 : Int32)) = c2 := own_r16 hr2
        rw [hq30]
        refine o_sipush X29 B d9_35 ?_
        refine o_icY X29 B 54 d9_38 (XT.ii_gt_t hg2) rfl ?_
        refine o_aload X29 B d9_54 rfl rfl ?_
        show own_G p e below Φ T29 (mkF m 56 #[.val (.ref ca), .val (.int 0), .val (.int 4), .val (.ref ob21), .val (.int 2), .val (.ref vb_27)] [(.ref vb_27)])
        rw [hΦ]
        refine own_ret X29 (v := some (.ref vb_27)) (own_nr hret) hlk (fun fs hr => retOut X29 hx hret rfl (Or.inr (Or.inr (Or.inr (Or.inr ⟨rfl, rfl, rfl⟩)))) (hb hby d9_56) hr) ?_ (by decide) (by decide)
        rw [hs29]
        exact ⟨vb_27, sz_vb_27, kb_27, rfl, N29, K27, p27_0⟩
      · skip
        by_cases hg3 : (255 : Int32) < c3
        · show own_G p e below Φ s₁ (mkF m 0 #[.val (.ref ca), .val (.int 0), .val (.int 4), .unset, .unset, .unset] [])
          refine o_iloadN X0 B d9_0 rfl ?_
          obtain ⟨T31, h31, ka31, X31, e31, E31, A31, st31⟩ := newP (aty := .byte) X0 hx hZ (wd_22 hw) e0 (g := (mkF m 1 #[.val (.ref ca), .val (.int 0), .val (.int 4), .unset, .unset, .unset] [(.int 4)])) rfl (hb hby d9_1) rfl (by decide) (cap := 4) (by decide) (by decide) (by decide) (by decide)
          obtain ⟨ob31, g31⟩ : ∃ z, z = h0.size := ⟨_, rfl⟩
          rw [← g31] at A31 st31
          have ne_ca_ob31 : ca ≠ ob31 := Nat.ne_of_lt (Nat.lt_of_lt_of_le V_ca.lt (Nat.le_of_eq g31.symm))
          have V31 : Arv Z h31 ob31 ka31 .byte (4 : Int32) [(.int 0), (.int 0), (.int 0), (.int 0)] (.int 0) := (Arv.new A31 (by decide)).pad (pad_rep [] (.int 0) 4)
          have g_ob31 : n0 ≤ ob31 := Nat.le_trans Z0 (Nat.le_of_eq g31.symm)
          have sz_ob31 : h0.size ≤ ob31 := Nat.le_trans K0.1 (Nat.le_of_eq g31.symm)
          have K31 := K0.ext E31
          have Zp31 : n0 ≤ h31.size := Nat.le_trans Z0 E31.1
          refine own_go st31 ?_
          have O32 := O0.ext E31
          refine o_astoreN (L' := #[.val (.ref ca), .val (.int 0), .val (.int 4), .val (.ref ob31), .unset, .unset]) X31 B d9_3 rfl rfl ?_
          refine o_aloadN X31 B d9_4 rfl rfl ?_
          refine o_iloadN X31 B d9_5 rfl ?_
          refine o_aloadN X31 B d9_6 rfl rfl ?_
          refine o_iconst X31 B d9_7 ?_
          refine o_iloadN X31 B d9_8 rfl ?_
          show own_G p e below Φ T31 (mkF m 9 #[.val (.ref ca), .val (.int 0), .val (.int 4), .val (.ref ob31), .unset, .unset] [(.int 4), (.int 0), (.ref ob31), (.int 0), (.ref ca)])
          have f33 : Arv Z h31 ca kc .char (4 : Int32) [(.int c0), (.int c1), (.int c2), (.int c3)] (.int 0) := V_ca.ext E31
          refine o_cS (argsL := [(.ref ca), (.int 0), (.ref ob31), (.int 0), (.int 4)]) (rest := []) X31 B hZ hown (wd_52 hw) (wd_53 hw) (wd_54 hw) (wd_50 hw) (by decide) 0 (rmInn4_3 l Z a0 hw [] ca kc ob31 ka31 c0 c1 c2 c3 h31 n0 Zp31 f33 V31 g_ob31 ne_ca_ob31 hg0 hg1 hg2 hg3) (by decide) (by decide) (lenOf pd_10 rfl) rfl rfl rfl d9_9 e31 (by decide) (by decide) rfl ?_
          rintro _ T34 _ X34 ⟨rfl, N34q, Kq34, p34_0⟩
          have N34 := Fr.app N0 N34q
          have K34 := K31.trans Kq34 (allS (Or.inr sz_ob31) all0)
          have Zp34 : n0 ≤ T34.heap.size := Nat.le_trans Zp31 Kq34.1
          have O35 := O32.keep Kq34 (allS g_ob31 all0)
          refine o_istore (L' := #[.val (.ref ca), .val (.int 0), .val (.int 4), .val (.ref ob31), .val (.int 3), .unset]) X34 B d9_12 rfl ?_
          refine o_iload X34 B d9_14 rfl ?_
          refine o_iloadN X34 B d9_16 rfl ?_
          refine o_icN X34 B d9_17 (XT.ii_eq_f (by decide : ¬ ((3 : Int32) = (4 : Int32)))) ?_
          refine o_aloadN X34 B d9_20 rfl rfl ?_
          refine o_iloadN X34 B d9_21 rfl ?_
          refine o_iloadN X34 B d9_22 rfl ?_
          show own_G p e below Φ T34 (mkF m 23 #[.val (.ref ca), .val (.int 0), .val (.int 4), .val (.ref ob31), .val (.int 3), .unset] [(.int 4), (.int 0), (.ref ca)])
          have f36 : Arv Z T34.heap ca kc .char (4 : Int32) [(.int c0), (.int c1), (.int c2), (.int c3)] (.int 0) := f33.keep Kq34 (ninS ne_ca_ob31 nin0)
          refine o_cS (argsL := [(.ref ca), (.int 0), (.int 4)]) (rest := []) X34 B hZ hown (wd_90 hw) (wd_91 hw) (wd_92 hw) (wd_50 hw) (by decide) 0 (rmTob4 l Z a0 hw [] ca kc c0 c1 c2 c3 T34.heap n0 Zp34 O35 S__assertionsDisabled S_HI_BYTE_SHIFT S_LO_BYTE_SHIFT f36) (by decide) (by decide) (lenOf pd_11 rfl) rfl rfl rfl d9_23 rfl (by decide) (by decide) rfl ?_
          rintro _ T37 _ X37 ⟨vb_37, ns_vb_37, kb_37, rfl, N37q, Kq37, p37_0⟩
          have N37 := Fr.app N34 N37q
          have ne_ca_vb_37 : ca ≠ vb_37 := Nat.ne_of_lt (Nat.lt_of_lt_of_le f36.lt ns_vb_37)
          have ne_ob31_vb_37 : ob31 ≠ vb_37 := Nat.ne_of_lt (Nat.lt_of_lt_of_le p34_0.lt ns_vb_37)
          have sz_vb_37 : h0.size ≤ vb_37 := Nat.le_trans K34.1 ns_vb_37
          have K37 := K34.trans Kq37 all0
          have g_vb_37 : n0 ≤ vb_37 := Nat.le_trans Zp34 ns_vb_37
          have Zp37 : n0 ≤ T37.heap.size := Nat.le_trans Zp34 Kq37.1
          have O38 := O35.keep Kq37 all0
          refine o_astore (L' := #[.val (.ref ca), .val (.int 0), .val (.int 4), .val (.ref ob31), .val (.int 3), .val (.ref vb_37)]) X37 B d9_26 rfl rfl ?_
          refine o_aload X37 B d9_28 rfl rfl ?_
          refine o_iload X37 B d9_30 rfl ?_
          refine o_cS (argsL := [(.ref vb_37), (.int 3)]) (rest := []) X37 B hZ hown (wd_106 hw) (wd_107 hw) (wd_108 hw) (wd_50 hw) (by decide) 0 (rmGch l Z a0 hw [] vb_37 kb_37 (8 : Int32) ([(own_h0 c0), (own_h8 c0), (own_h0 c1), (own_h8 c1), (own_h0 c2), (own_h8 c2), (own_h0 c3), (own_h8 c3)]) (3 : Int32) T37.heap n0 Zp37 O38 S__assertionsDisabled S_HI_BYTE_SHIFT S_LO_BYTE_SHIFT p37_0 ⟨by decide, by decide⟩ ⟨by decide, by decide⟩) (by decide) (by decide) (lenOf pd_5 rfl) rfl rfl rfl d9_32 rfl (by decide) (by decide) rfl ?_
          rintro _ T39 _ X39 ⟨rfl, N39q, hs39⟩
          have N39 := Fr.app N37 N39q
          show own_G p e below Φ T39 (mkF m 35 #[.val (.ref ca), .val (.int 0), .val (.int 4), .val (.ref ob31), .val (.int 3), .val (.ref vb_37)] [(.int (own_c16 ([(own_h0 c0), (own_h8 c0), (own_h0 c1), (own_h8 c1), (own_h0 c2), (own_h8 c2), (own_h0 c3), (own_h8 c3)]) (3 : Int32)))])
          have hq40 : (own_c16 ([(own_h0 c0), (own_h8 c0), (own_h0 c1), (own_h8 c1), (own_h0 c2), (own_h8 c2), (own_h0 c3), (own_h8 c3)]) (3 : Int32)) = c3 := own_r16 hr3
          rw [hq40]
          refine o_sipush X39 B d9_35 ?_
          refine o_icY X39 B 54 d9_38 (XT.ii_gt_t hg3) rfl ?_
          refine o_aload X39 B d9_54 rfl rfl ?_
          show own_G p e below Φ T39 (mkF m 56 #[.val (.ref ca), .val (.int 0), .val (.int 4), .val (.ref ob31), .val (.int 3), .val (.ref vb_37)] [(.ref vb_37)])
          rw [hΦ]
          refine own_ret X39 (v := some (.ref vb_37)) (own_nr hret) hlk (fun fs hr => retOut X39 hx hret rfl (Or.inr (Or.inr (Or.inr (Or.inr ⟨rfl, rfl, rfl⟩)))) (hb hby d9_56) hr) ?_ (by decide) (by decide)
          rw [hs39]
          exact ⟨vb_37, sz_vb_37, kb_37, rfl, N39, K37, p37_0⟩
        · exact (hex.elim hg0 (fun q => q.elim hg1 (fun q => q.elim hg2 hg3))).elim
theorem d11_0 : decode jdk_52_method_15_code 0 = .ok (.iload_n 1, 1) := by decide +kernel
theorem d11_1 : decode jdk_52_method_15_code 1 = .ok (.aload_n 0, 1) := by decide +kernel
theorem d11_2 : decode jdk_52_method_15_code 2 = .ok (.arraylength, 1) := by decide +kernel
theorem d11_3 : decode jdk_52_method_15_code 3 = .ok (.isub, 1) := by decide +kernel
theorem d11_4 : decode jdk_52_method_15_code 4 = .ok (.bipush 31, 2) := by decide +kernel
theorem d11_6 : decode jdk_52_method_15_code 6 = .ok (.iushr, 1) := by decide +kernel
theorem d11_7 : decode jdk_52_method_15_code 7 = .ok (.i2b, 1) := by decide +kernel
theorem d11_8 : decode jdk_52_method_15_code 8 = .ok (.ireturn, 1) := by decide +kernel
theorem ef_rmCfl1_1 (m : MethodId) (vb : Addr) : entryFrame m #[(.ref vb), (.int 1)] 2 = mkF m 0 #[.val (.ref vb), .val (.int 1)] [] := by first | (simp [entryFrame, mkF, argsToLocals, Value.category]; done) | rfl
def Q_rmCfl1_1 (Z : State) (vb : Addr) (kb : ClassId) (LL : List Int32) (h0 : Heap) (n0 : Nat) (v : Option Value) (h : Heap) (L : List Loc) : Prop := v = some (.int 0) ∧ Fr n0 L ∧ h = h0
set_option maxRecDepth 65536 in
set_option maxHeartbeats 40000000 in
theorem rmCfl1_1 (l : Launch) (Z : State) (a0 : Array Value) (hw : own_H Z a0) (ws : List Jvm.Cond) (vb : Addr) (kb : ClassId) (LL : List Int32) (h0 : Heap) (n0 : Nat) (Z0 : n0 ≤ h0.size) (V_vb : Arv Z h0 vb kb .byte (1 : Int32) (own_vs LL) (.int 0)) :
    own_Met l (⟨"java/lang/StringUTF16", "coderFromArrayLen", "([BI)B"⟩ : MethodName) jdk_52_method_15_code 2 (some .byte) ws (own_rm 0 0 0 0) Z h0 #[(.ref vb), (.int 1)] (Q_rmCfl1_1 Z vb kb LL h0 n0) := by
  refine own_met (plainFor_of_name pn_5) (fun m => ef_rmCfl1_1 m vb) ?_
  intro p e s m below meth c s₁ Φ hΦ X0 hx hby hml hown hnm hret hlk hZ e0
  have N0 := Fr.nil n0
  have B : own_B p c _ _ := ⟨hx, hby, hml⟩
  show own_G p e below Φ s₁ (mkF m 0 #[.val (.ref vb), .val (.int 1)] [])
  refine o_iloadN X0 B d11_0 rfl ?_
  refine o_aloadN X0 B d11_1 rfl rfl ?_
  obtain ⟨cl1, Ar1, zq1, S1, M1, H1, G1⟩ := id V_vb
  refine own_go (fun _ => X0.arraylength hx (by rw [e0]; exact Ar1.1) (State.isArrayOf_alike hZ.alike Ar1.2.1) (g := (mkF m 2 #[.val (.ref vb), .val (.int 1)] [(.ref vb), (.int 1)])) rfl rfl (hb hby d11_2) _) ?_
  rw [len_of S1 M1]
  refine own_go (fun _ => XS.isub X0.here hx rfl (hb hby d11_3) rfl) ?_
  show own_G p e below Φ s₁ (mkF m 4 #[.val (.ref vb), .val (.int 1)] [(.int 0)])
  refine o_bipush X0 B d11_4 ?_
  refine own_go (fun _ => XS.iushr X0.here hx rfl (hb hby d11_6) rfl) ?_
  refine own_go (fun _ => XS.i2b X0.here hx rfl (hb hby d11_7) rfl) ?_
  show own_G p e below Φ s₁ (mkF m 8 #[.val (.ref vb), .val (.int 1)] [(.int 0)])
  rw [hΦ]
  refine own_ret X0 (v := some (.int 0)) (own_nr hret) hlk (fun fs hr => retN X0 hx (t := .byte) hret (by simp) (hb hby d11_8) hr) ?_ (by decide) (by decide)
  rw [e0]
  exact ⟨rfl, N0, rfl⟩
theorem ef_rmCfl1_2 (m : MethodId) (vb : Addr) : entryFrame m #[(.ref vb), (.int 1)] 2 = mkF m 0 #[.val (.ref vb), .val (.int 1)] [] := by first | (simp [entryFrame, mkF, argsToLocals, Value.category]; done) | rfl
def Q_rmCfl1_2 (Z : State) (vb : Addr) (kb : ClassId) (LL : List Int32) (h0 : Heap) (n0 : Nat) (v : Option Value) (h : Heap) (L : List Loc) : Prop := v = some (.int 1) ∧ Fr n0 L ∧ h = h0
set_option maxRecDepth 65536 in
set_option maxHeartbeats 40000000 in
theorem rmCfl1_2 (l : Launch) (Z : State) (a0 : Array Value) (hw : own_H Z a0) (ws : List Jvm.Cond) (vb : Addr) (kb : ClassId) (LL : List Int32) (h0 : Heap) (n0 : Nat) (Z0 : n0 ≤ h0.size) (V_vb : Arv Z h0 vb kb .byte (2 : Int32) (own_vs LL) (.int 0)) :
    own_Met l (⟨"java/lang/StringUTF16", "coderFromArrayLen", "([BI)B"⟩ : MethodName) jdk_52_method_15_code 2 (some .byte) ws (own_rm 0 0 0 0) Z h0 #[(.ref vb), (.int 1)] (Q_rmCfl1_2 Z vb kb LL h0 n0) := by
  refine own_met (plainFor_of_name pn_5) (fun m => ef_rmCfl1_2 m vb) ?_
  intro p e s m below meth c s₁ Φ hΦ X0 hx hby hml hown hnm hret hlk hZ e0
  have N0 := Fr.nil n0
  have B : own_B p c _ _ := ⟨hx, hby, hml⟩
  show own_G p e below Φ s₁ (mkF m 0 #[.val (.ref vb), .val (.int 1)] [])
  refine o_iloadN X0 B d11_0 rfl ?_
  refine o_aloadN X0 B d11_1 rfl rfl ?_
  obtain ⟨cl1, Ar1, zq1, S1, M1, H1, G1⟩ := id V_vb
  refine own_go (fun _ => X0.arraylength hx (by rw [e0]; exact Ar1.1) (State.isArrayOf_alike hZ.alike Ar1.2.1) (g := (mkF m 2 #[.val (.ref vb), .val (.int 1)] [(.ref vb), (.int 1)])) rfl rfl (hb hby d11_2) _) ?_
  rw [len_of S1 M1]
  refine own_go (fun _ => XS.isub X0.here hx rfl (hb hby d11_3) rfl) ?_
  show own_G p e below Φ s₁ (mkF m 4 #[.val (.ref vb), .val (.int 1)] [(.int (-1 : Int32))])
  refine o_bipush X0 B d11_4 ?_
  refine own_go (fun _ => XS.iushr X0.here hx rfl (hb hby d11_6) rfl) ?_
  refine own_go (fun _ => XS.i2b X0.here hx rfl (hb hby d11_7) rfl) ?_
  show own_G p e below Φ s₁ (mkF m 8 #[.val (.ref vb), .val (.int 1)] [(.int 1)])
  rw [hΦ]
  refine own_ret X0 (v := some (.int 1)) (own_nr hret) hlk (fun fs hr => retN X0 hx (t := .byte) hret (by simp) (hb hby d11_8) hr) ?_ (by decide) (by decide)
  rw [e0]
  exact ⟨rfl, N0, rfl⟩
theorem ef_rmCfl2_2 (m : MethodId) (vb : Addr) : entryFrame m #[(.ref vb), (.int 2)] 2 = mkF m 0 #[.val (.ref vb), .val (.int 2)] [] := by first | (simp [entryFrame, mkF, argsToLocals, Value.category]; done) | rfl
def Q_rmCfl2_2 (Z : State) (vb : Addr) (kb : ClassId) (LL : List Int32) (h0 : Heap) (n0 : Nat) (v : Option Value) (h : Heap) (L : List Loc) : Prop := v = some (.int 0) ∧ Fr n0 L ∧ h = h0
set_option maxRecDepth 65536 in
set_option maxHeartbeats 40000000 in
theorem rmCfl2_2 (l : Launch) (Z : State) (a0 : Array Value) (hw : own_H Z a0) (ws : List Jvm.Cond) (vb : Addr) (kb : ClassId) (LL : List Int32) (h0 : Heap) (n0 : Nat) (Z0 : n0 ≤ h0.size) (V_vb : Arv Z h0 vb kb .byte (2 : Int32) (own_vs LL) (.int 0)) :
    own_Met l (⟨"java/lang/StringUTF16", "coderFromArrayLen", "([BI)B"⟩ : MethodName) jdk_52_method_15_code 2 (some .byte) ws (own_rm 0 0 0 0) Z h0 #[(.ref vb), (.int 2)] (Q_rmCfl2_2 Z vb kb LL h0 n0) := by
  refine own_met (plainFor_of_name pn_5) (fun m => ef_rmCfl2_2 m vb) ?_
  intro p e s m below meth c s₁ Φ hΦ X0 hx hby hml hown hnm hret hlk hZ e0
  have N0 := Fr.nil n0
  have B : own_B p c _ _ := ⟨hx, hby, hml⟩
  show own_G p e below Φ s₁ (mkF m 0 #[.val (.ref vb), .val (.int 2)] [])
  refine o_iloadN X0 B d11_0 rfl ?_
  refine o_aloadN X0 B d11_1 rfl rfl ?_
  obtain ⟨cl1, Ar1, zq1, S1, M1, H1, G1⟩ := id V_vb
  refine own_go (fun _ => X0.arraylength hx (by rw [e0]; exact Ar1.1) (State.isArrayOf_alike hZ.alike Ar1.2.1) (g := (mkF m 2 #[.val (.ref vb), .val (.int 2)] [(.ref vb), (.int 2)])) rfl rfl (hb hby d11_2) _) ?_
  rw [len_of S1 M1]
  refine own_go (fun _ => XS.isub X0.here hx rfl (hb hby d11_3) rfl) ?_
  show own_G p e below Φ s₁ (mkF m 4 #[.val (.ref vb), .val (.int 2)] [(.int 0)])
  refine o_bipush X0 B d11_4 ?_
  refine own_go (fun _ => XS.iushr X0.here hx rfl (hb hby d11_6) rfl) ?_
  refine own_go (fun _ => XS.i2b X0.here hx rfl (hb hby d11_7) rfl) ?_
  show own_G p e below Φ s₁ (mkF m 8 #[.val (.ref vb), .val (.int 2)] [(.int 0)])
  rw [hΦ]
  refine own_ret X0 (v := some (.int 0)) (own_nr hret) hlk (fun fs hr => retN X0 hx (t := .byte) hret (by simp) (hb hby d11_8) hr) ?_ (by decide) (by decide)
  rw [e0]
  exact ⟨rfl, N0, rfl⟩
theorem ef_rmCfl2_4 (m : MethodId) (vb : Addr) : entryFrame m #[(.ref vb), (.int 2)] 2 = mkF m 0 #[.val (.ref vb), .val (.int 2)] [] := by first | (simp [entryFrame, mkF, argsToLocals, Value.category]; done) | rfl
def Q_rmCfl2_4 (Z : State) (vb : Addr) (kb : ClassId) (LL : List Int32) (h0 : Heap) (n0 : Nat) (v : Option Value) (h : Heap) (L : List Loc) : Prop := v = some (.int 1) ∧ Fr n0 L ∧ h = h0
set_option maxRecDepth 65536 in
set_option maxHeartbeats 40000000 in
theorem rmCfl2_4 (l : Launch) (Z : State) (a0 : Array Value) (hw : own_H Z a0) (ws : List Jvm.Cond) (vb : Addr) (kb : ClassId) (LL : List Int32) (h0 : Heap) (n0 : Nat) (Z0 : n0 ≤ h0.size) (V_vb : Arv Z h0 vb kb .byte (4 : Int32) (own_vs LL) (.int 0)) :
    own_Met l (⟨"java/lang/StringUTF16", "coderFromArrayLen", "([BI)B"⟩ : MethodName) jdk_52_method_15_code 2 (some .byte) ws (own_rm 0 0 0 0) Z h0 #[(.ref vb), (.int 2)] (Q_rmCfl2_4 Z vb kb LL h0 n0) := by
  refine own_met (plainFor_of_name pn_5) (fun m => ef_rmCfl2_4 m vb) ?_
  intro p e s m below meth c s₁ Φ hΦ X0 hx hby hml hown hnm hret hlk hZ e0
  have N0 := Fr.nil n0
  have B : own_B p c _ _ := ⟨hx, hby, hml⟩
  show own_G p e below Φ s₁ (mkF m 0 #[.val (.ref vb), .val (.int 2)] [])
  refine o_iloadN X0 B d11_0 rfl ?_
  refine o_aloadN X0 B d11_1 rfl rfl ?_
  obtain ⟨cl1, Ar1, zq1, S1, M1, H1, G1⟩ := id V_vb
  refine own_go (fun _ => X0.arraylength hx (by rw [e0]; exact Ar1.1) (State.isArrayOf_alike hZ.alike Ar1.2.1) (g := (mkF m 2 #[.val (.ref vb), .val (.int 2)] [(.ref vb), (.int 2)])) rfl rfl (hb hby d11_2) _) ?_
  rw [len_of S1 M1]
  refine own_go (fun _ => XS.isub X0.here hx rfl (hb hby d11_3) rfl) ?_
  show own_G p e below Φ s₁ (mkF m 4 #[.val (.ref vb), .val (.int 2)] [(.int (-2 : Int32))])
  refine o_bipush X0 B d11_4 ?_
  refine own_go (fun _ => XS.iushr X0.here hx rfl (hb hby d11_6) rfl) ?_
  refine own_go (fun _ => XS.i2b X0.here hx rfl (hb hby d11_7) rfl) ?_
  show own_G p e below Φ s₁ (mkF m 8 #[.val (.ref vb), .val (.int 2)] [(.int 1)])
  rw [hΦ]
  refine own_ret X0 (v := some (.int 1)) (own_nr hret) hlk (fun fs hr => retN X0 hx (t := .byte) hret (by simp) (hb hby d11_8) hr) ?_ (by decide) (by decide)
  rw [e0]
  exact ⟨rfl, N0, rfl⟩
theorem ef_rmCfl3_3 (m : MethodId) (vb : Addr) : entryFrame m #[(.ref vb), (.int 3)] 2 = mkF m 0 #[.val (.ref vb), .val (.int 3)] [] := by first | (simp [entryFrame, mkF, argsToLocals, Value.category]; done) | rfl
def Q_rmCfl3_3 (Z : State) (vb : Addr) (kb : ClassId) (LL : List Int32) (h0 : Heap) (n0 : Nat) (v : Option Value) (h : Heap) (L : List Loc) : Prop := v = some (.int 0) ∧ Fr n0 L ∧ h = h0
set_option maxRecDepth 65536 in
set_option maxHeartbeats 40000000 in
theorem rmCfl3_3 (l : Launch) (Z : State) (a0 : Array Value) (hw : own_H Z a0) (ws : List Jvm.Cond) (vb : Addr) (kb : ClassId) (LL : List Int32) (h0 : Heap) (n0 : Nat) (Z0 : n0 ≤ h0.size) (V_vb : Arv Z h0 vb kb .byte (3 : Int32) (own_vs LL) (.int 0)) :
    own_Met l (⟨"java/lang/StringUTF16", "coderFromArrayLen", "([BI)B"⟩ : MethodName) jdk_52_method_15_code 2 (some .byte) ws (own_rm 0 0 0 0) Z h0 #[(.ref vb), (.int 3)] (Q_rmCfl3_3 Z vb kb LL h0 n0) := by
  refine own_met (plainFor_of_name pn_5) (fun m => ef_rmCfl3_3 m vb) ?_
  intro p e s m below meth c s₁ Φ hΦ X0 hx hby hml hown hnm hret hlk hZ e0
  have N0 := Fr.nil n0
  have B : own_B p c _ _ := ⟨hx, hby, hml⟩
  show own_G p e below Φ s₁ (mkF m 0 #[.val (.ref vb), .val (.int 3)] [])
  refine o_iloadN X0 B d11_0 rfl ?_
  refine o_aloadN X0 B d11_1 rfl rfl ?_
  obtain ⟨cl1, Ar1, zq1, S1, M1, H1, G1⟩ := id V_vb
  refine own_go (fun _ => X0.arraylength hx (by rw [e0]; exact Ar1.1) (State.isArrayOf_alike hZ.alike Ar1.2.1) (g := (mkF m 2 #[.val (.ref vb), .val (.int 3)] [(.ref vb), (.int 3)])) rfl rfl (hb hby d11_2) _) ?_
  rw [len_of S1 M1]
  refine own_go (fun _ => XS.isub X0.here hx rfl (hb hby d11_3) rfl) ?_
  show own_G p e below Φ s₁ (mkF m 4 #[.val (.ref vb), .val (.int 3)] [(.int 0)])
  refine o_bipush X0 B d11_4 ?_
  refine own_go (fun _ => XS.iushr X0.here hx rfl (hb hby d11_6) rfl) ?_
  refine own_go (fun _ => XS.i2b X0.here hx rfl (hb hby d11_7) rfl) ?_
  show own_G p e below Φ s₁ (mkF m 8 #[.val (.ref vb), .val (.int 3)] [(.int 0)])
  rw [hΦ]
  refine own_ret X0 (v := some (.int 0)) (own_nr hret) hlk (fun fs hr => retN X0 hx (t := .byte) hret (by simp) (hb hby d11_8) hr) ?_ (by decide) (by decide)
  rw [e0]
  exact ⟨rfl, N0, rfl⟩
theorem ef_rmCfl3_6 (m : MethodId) (vb : Addr) : entryFrame m #[(.ref vb), (.int 3)] 2 = mkF m 0 #[.val (.ref vb), .val (.int 3)] [] := by first | (simp [entryFrame, mkF, argsToLocals, Value.category]; done) | rfl
def Q_rmCfl3_6 (Z : State) (vb : Addr) (kb : ClassId) (LL : List Int32) (h0 : Heap) (n0 : Nat) (v : Option Value) (h : Heap) (L : List Loc) : Prop := v = some (.int 1) ∧ Fr n0 L ∧ h = h0
set_option maxRecDepth 65536 in
set_option maxHeartbeats 40000000 in
theorem rmCfl3_6 (l : Launch) (Z : State) (a0 : Array Value) (hw : own_H Z a0) (ws : List Jvm.Cond) (vb : Addr) (kb : ClassId) (LL : List Int32) (h0 : Heap) (n0 : Nat) (Z0 : n0 ≤ h0.size) (V_vb : Arv Z h0 vb kb .byte (6 : Int32) (own_vs LL) (.int 0)) :
    own_Met l (⟨"java/lang/StringUTF16", "coderFromArrayLen", "([BI)B"⟩ : MethodName) jdk_52_method_15_code 2 (some .byte) ws (own_rm 0 0 0 0) Z h0 #[(.ref vb), (.int 3)] (Q_rmCfl3_6 Z vb kb LL h0 n0) := by
  refine own_met (plainFor_of_name pn_5) (fun m => ef_rmCfl3_6 m vb) ?_
  intro p e s m below meth c s₁ Φ hΦ X0 hx hby hml hown hnm hret hlk hZ e0
  have N0 := Fr.nil n0
  have B : own_B p c _ _ := ⟨hx, hby, hml⟩
  show own_G p e below Φ s₁ (mkF m 0 #[.val (.ref vb), .val (.int 3)] [])
  refine o_iloadN X0 B d11_0 rfl ?_
  refine o_aloadN X0 B d11_1 rfl rfl ?_
  obtain ⟨cl1, Ar1, zq1, S1, M1, H1, G1⟩ := id V_vb
  refine own_go (fun _ => X0.arraylength hx (by rw [e0]; exact Ar1.1) (State.isArrayOf_alike hZ.alike Ar1.2.1) (g := (mkF m 2 #[.val (.ref vb), .val (.int 3)] [(.ref vb), (.int 3)])) rfl rfl (hb hby d11_2) _) ?_
  rw [len_of S1 M1]
  refine own_go (fun _ => XS.isub X0.here hx rfl (hb hby d11_3) rfl) ?_
  show own_G p e below Φ s₁ (mkF m 4 #[.val (.ref vb), .val (.int 3)] [(.int (-3 : Int32))])
  refine o_bipush X0 B d11_4 ?_
  refine own_go (fun _ => XS.iushr X0.here hx rfl (hb hby d11_6) rfl) ?_
  refine own_go (fun _ => XS.i2b X0.here hx rfl (hb hby d11_7) rfl) ?_
  show own_G p e below Φ s₁ (mkF m 8 #[.val (.ref vb), .val (.int 3)] [(.int 1)])
  rw [hΦ]
  refine own_ret X0 (v := some (.int 1)) (own_nr hret) hlk (fun fs hr => retN X0 hx (t := .byte) hret (by simp) (hb hby d11_8) hr) ?_ (by decide) (by decide)
  rw [e0]
  exact ⟨rfl, N0, rfl⟩
theorem ef_rmCfl4_4 (m : MethodId) (vb : Addr) : entryFrame m #[(.ref vb), (.int 4)] 2 = mkF m 0 #[.val (.ref vb), .val (.int 4)] [] := by first | (simp [entryFrame, mkF, argsToLocals, Value.category]; done) | rfl
def Q_rmCfl4_4 (Z : State) (vb : Addr) (kb : ClassId) (LL : List Int32) (h0 : Heap) (n0 : Nat) (v : Option Value) (h : Heap) (L : List Loc) : Prop := v = some (.int 0) ∧ Fr n0 L ∧ h = h0
set_option maxRecDepth 65536 in
set_option maxHeartbeats 40000000 in
theorem rmCfl4_4 (l : Launch) (Z : State) (a0 : Array Value) (hw : own_H Z a0) (ws : List Jvm.Cond) (vb : Addr) (kb : ClassId) (LL : List Int32) (h0 : Heap) (n0 : Nat) (Z0 : n0 ≤ h0.size) (V_vb : Arv Z h0 vb kb .byte (4 : Int32) (own_vs LL) (.int 0)) :
    own_Met l (⟨"java/lang/StringUTF16", "coderFromArrayLen", "([BI)B"⟩ : MethodName) jdk_52_method_15_code 2 (some .byte) ws (own_rm 0 0 0 0) Z h0 #[(.ref vb), (.int 4)] (Q_rmCfl4_4 Z vb kb LL h0 n0) := by
  refine own_met (plainFor_of_name pn_5) (fun m => ef_rmCfl4_4 m vb) ?_
  intro p e s m below meth c s₁ Φ hΦ X0 hx hby hml hown hnm hret hlk hZ e0
  have N0 := Fr.nil n0
  have B : own_B p c _ _ := ⟨hx, hby, hml⟩
  show own_G p e below Φ s₁ (mkF m 0 #[.val (.ref vb), .val (.int 4)] [])
  refine o_iloadN X0 B d11_0 rfl ?_
  refine o_aloadN X0 B d11_1 rfl rfl ?_
  obtain ⟨cl1, Ar1, zq1, S1, M1, H1, G1⟩ := id V_vb
  refine own_go (fun _ => X0.arraylength hx (by rw [e0]; exact Ar1.1) (State.isArrayOf_alike hZ.alike Ar1.2.1) (g := (mkF m 2 #[.val (.ref vb), .val (.int 4)] [(.ref vb), (.int 4)])) rfl rfl (hb hby d11_2) _) ?_
  rw [len_of S1 M1]
  refine own_go (fun _ => XS.isub X0.here hx rfl (hb hby d11_3) rfl) ?_
  show own_G p e below Φ s₁ (mkF m 4 #[.val (.ref vb), .val (.int 4)] [(.int 0)])
  refine o_bipush X0 B d11_4 ?_
  refine own_go (fun _ => XS.iushr X0.here hx rfl (hb hby d11_6) rfl) ?_
  refine own_go (fun _ => XS.i2b X0.here hx rfl (hb hby d11_7) rfl) ?_
  show own_G p e below Φ s₁ (mkF m 8 #[.val (.ref vb), .val (.int 4)] [(.int 0)])
  rw [hΦ]
  refine own_ret X0 (v := some (.int 0)) (own_nr hret) hlk (fun fs hr => retN X0 hx (t := .byte) hret (by simp) (hb hby d11_8) hr) ?_ (by decide) (by decide)
  rw [e0]
  exact ⟨rfl, N0, rfl⟩
theorem ef_rmCfl4_8 (m : MethodId) (vb : Addr) : entryFrame m #[(.ref vb), (.int 4)] 2 = mkF m 0 #[.val (.ref vb), .val (.int 4)] [] := by first | (simp [entryFrame, mkF, argsToLocals, Value.category]; done) | rfl
def Q_rmCfl4_8 (Z : State) (vb : Addr) (kb : ClassId) (LL : List Int32) (h0 : Heap) (n0 : Nat) (v : Option Value) (h : Heap) (L : List Loc) : Prop := v = some (.int 1) ∧ Fr n0 L ∧ h = h0
set_option maxRecDepth 65536 in
set_option maxHeartbeats 40000000 in
theorem rmCfl4_8 (l : Launch) (Z : State) (a0 : Array Value) (hw : own_H Z a0) (ws : List Jvm.Cond) (vb : Addr) (kb : ClassId) (LL : List Int32) (h0 : Heap) (n0 : Nat) (Z0 : n0 ≤ h0.size) (V_vb : Arv Z h0 vb kb .byte (8 : Int32) (own_vs LL) (.int 0)) :
    own_Met l (⟨"java/lang/StringUTF16", "coderFromArrayLen", "([BI)B"⟩ : MethodName) jdk_52_method_15_code 2 (some .byte) ws (own_rm 0 0 0 0) Z h0 #[(.ref vb), (.int 4)] (Q_rmCfl4_8 Z vb kb LL h0 n0) := by
  refine own_met (plainFor_of_name pn_5) (fun m => ef_rmCfl4_8 m vb) ?_
  intro p e s m below meth c s₁ Φ hΦ X0 hx hby hml hown hnm hret hlk hZ e0
  have N0 := Fr.nil n0
  have B : own_B p c _ _ := ⟨hx, hby, hml⟩
  show own_G p e below Φ s₁ (mkF m 0 #[.val (.ref vb), .val (.int 4)] [])
  refine o_iloadN X0 B d11_0 rfl ?_
  refine o_aloadN X0 B d11_1 rfl rfl ?_
  obtain ⟨cl1, Ar1, zq1, S1, M1, H1, G1⟩ := id V_vb
  refine own_go (fun _ => X0.arraylength hx (by rw [e0]; exact Ar1.1) (State.isArrayOf_alike hZ.alike Ar1.2.1) (g := (mkF m 2 #[.val (.ref vb), .val (.int 4)] [(.ref vb), (.int 4)])) rfl rfl (hb hby d11_2) _) ?_
  rw [len_of S1 M1]
  refine own_go (fun _ => XS.isub X0.here hx rfl (hb hby d11_3) rfl) ?_
  show own_G p e below Φ s₁ (mkF m 4 #[.val (.ref vb), .val (.int 4)] [(.int (-4 : Int32))])
  refine o_bipush X0 B d11_4 ?_
  refine own_go (fun _ => XS.iushr X0.here hx rfl (hb hby d11_6) rfl) ?_
  refine own_go (fun _ => XS.i2b X0.here hx rfl (hb hby d11_7) rfl) ?_
  show own_G p e below Φ s₁ (mkF m 8 #[.val (.ref vb), .val (.int 4)] [(.int 1)])
  rw [hΦ]
  refine own_ret X0 (v := some (.int 1)) (own_nr hret) hlk (fun fs hr => retN X0 hx (t := .byte) hret (by simp) (hb hby d11_8) hr) ?_ (by decide) (by decide)
  rw [e0]
  exact ⟨rfl, N0, rfl⟩
theorem d4_0 : decode jdk_42_method_149_code 0 = .ok (.aload_n 0, 1) := by decide +kernel
theorem d4_1 : decode jdk_42_method_149_code 1 = .ok (.invokespecial 1, 3) := by decide +kernel
theorem wd_18 {Z : State} {a0 : Array Value} (hw : own_H Z a0) : ((Jvm.Cond.methodLink "java/lang/String" (1 : Nat) ({ cls := "java/lang/Object", name := "<init>", desc := "()V" } : Jvm.MethodName)) : Jvm.Cond).before a0 Z = true := hw _ (List.mem_of_getElem? (i := 18) rfl)
theorem wd_19 {Z : State} {a0 : Array Value} (hw : own_H Z a0) : ((Jvm.Cond.instanceMethod ({ cls := "java/lang/Object", name := "<init>", desc := "()V" } : Jvm.MethodName)) : Jvm.Cond).before a0 Z = true := hw _ (List.mem_of_getElem? (i := 19) rfl)
theorem wd_20 {Z : State} {a0 : Array Value} (hw : own_H Z a0) : ((Jvm.Cond.code ({ cls := "java/lang/Object", name := "<init>", desc := "()V" } : Jvm.MethodName) object_method_1_code (1 : Nat) (Option.none : Option Jvm.ClassFile.FieldType)) : Jvm.Cond).before a0 Z = true := hw _ (List.mem_of_getElem? (i := 20) rfl)
theorem d4_4 : decode jdk_42_method_149_code 4 = .ok (.iload_n 3, 1) := by decide +kernel
theorem d4_5 : decode jdk_42_method_149_code 5 = .ok (.ifCond .ne 22, 3) := by decide +kernel
theorem d4_27 : decode jdk_42_method_149_code 27 = .ok (.getstatic 38, 3) := by decide +kernel
theorem d4_30 : decode jdk_42_method_149_code 30 = .ok (.ifCond .eq 28, 3) := by decide +kernel
theorem d4_33 : decode jdk_42_method_149_code 33 = .ok (.aload_n 1, 1) := by decide +kernel
theorem d4_34 : decode jdk_42_method_149_code 34 = .ok (.iload_n 2, 1) := by decide +kernel
theorem d4_35 : decode jdk_42_method_149_code 35 = .ok (.iload_n 3, 1) := by decide +kernel
theorem d4_36 : decode jdk_42_method_149_code 36 = .ok (.invokestatic 177, 3) := by decide +kernel
theorem wd_48 {Z : State} {a0 : Array Value} (hw : own_H Z a0) : ((Jvm.Cond.methodLink "java/lang/String" (177 : Nat) ({ cls := "java/lang/StringUTF16", name := "compress", desc := "([CII)[B" } : Jvm.MethodName)) : Jvm.Cond).before a0 Z = true := hw _ (List.mem_of_getElem? (i := 48) rfl)
theorem wd_51 {Z : State} {a0 : Array Value} (hw : own_H Z a0) : ((Jvm.Cond.code ({ cls := "java/lang/StringUTF16", name := "compress", desc := "([CII)[B" } : Jvm.MethodName) jdk_52_method_16_code (6 : Nat) (Option.some (Jvm.ClassFile.FieldType.array Jvm.ClassFile.FieldType.byte))) : Jvm.Cond).before a0 Z = true := hw _ (List.mem_of_getElem? (i := 51) rfl)
theorem wd_49 {Z : State} {a0 : Array Value} (hw : own_H Z a0) : ((Jvm.Cond.static ({ cls := "java/lang/StringUTF16", name := "compress", desc := "([CII)[B" } : Jvm.MethodName)) : Jvm.Cond).before a0 Z = true := hw _ (List.mem_of_getElem? (i := 49) rfl)
theorem d4_39 : decode jdk_42_method_149_code 39 = .ok (.astore 5, 2) := by decide +kernel
theorem d4_41 : decode jdk_42_method_149_code 41 = .ok (.aload_n 0, 1) := by decide +kernel
theorem d4_42 : decode jdk_42_method_149_code 42 = .ok (.aload 5, 2) := by decide +kernel
theorem d4_44 : decode jdk_42_method_149_code 44 = .ok (.iload_n 3, 1) := by decide +kernel
theorem d4_45 : decode jdk_42_method_149_code 45 = .ok (.invokestatic 47, 3) := by decide +kernel
theorem wd_55 {Z : State} {a0 : Array Value} (hw : own_H Z a0) : ((Jvm.Cond.methodLink "java/lang/String" (47 : Nat) ({ cls := "java/lang/StringUTF16", name := "coderFromArrayLen", desc := "([BI)B" } : Jvm.MethodName)) : Jvm.Cond).before a0 Z = true := hw _ (List.mem_of_getElem? (i := 55) rfl)
theorem wd_57 {Z : State} {a0 : Array Value} (hw : own_H Z a0) : ((Jvm.Cond.code ({ cls := "java/lang/StringUTF16", name := "coderFromArrayLen", desc := "([BI)B" } : Jvm.MethodName) jdk_52_method_15_code (2 : Nat) (Option.some Jvm.ClassFile.FieldType.byte)) : Jvm.Cond).before a0 Z = true := hw _ (List.mem_of_getElem? (i := 57) rfl)
theorem pd_12 : parseMethodDescriptor "([BI)B" = some ⟨[(.array .byte), .int], some .byte⟩ := by decide +kernel
theorem wd_56 {Z : State} {a0 : Array Value} (hw : own_H Z a0) : ((Jvm.Cond.static ({ cls := "java/lang/StringUTF16", name := "coderFromArrayLen", desc := "([BI)B" } : Jvm.MethodName)) : Jvm.Cond).before a0 Z = true := hw _ (List.mem_of_getElem? (i := 56) rfl)
theorem d4_48 : decode jdk_42_method_149_code 48 = .ok (.putfield 15, 3) := by decide +kernel
theorem wd_24 {Z : State} {a0 : Array Value} (hw : own_H Z a0) : ((Jvm.Cond.laysFinal "java/lang/String" "java/lang/String" "coder" "B") : Jvm.Cond).before a0 Z = true := hw _ (List.mem_of_getElem? (i := 24) rfl)
theorem wd_8 {Z : State} {a0 : Array Value} (hw : own_H Z a0) : ((Jvm.Cond.instantiable "java/lang/String" (4 : Nat)) : Jvm.Cond).before a0 Z = true := hw _ (List.mem_of_getElem? (i := 8) rfl)
theorem d4_51 : decode jdk_42_method_149_code 51 = .ok (.aload_n 0, 1) := by decide +kernel
theorem d4_52 : decode jdk_42_method_149_code 52 = .ok (.aload 5, 2) := by decide +kernel
theorem d4_54 : decode jdk_42_method_149_code 54 = .ok (.putfield 9, 3) := by decide +kernel
theorem wd_23 {Z : State} {a0 : Array Value} (hw : own_H Z a0) : ((Jvm.Cond.laysFinal "java/lang/String" "java/lang/String" "value" "[B") : Jvm.Cond).before a0 Z = true := hw _ (List.mem_of_getElem? (i := 23) rfl)
theorem sl_0 {Z : State} {a0 : Array Value} (hw : own_H Z a0) : Jvm.RoadKit.slotOf Z "java/lang/String" "value" "[B" ≠ Jvm.RoadKit.slotOf Z "java/lang/String" "coder" "B" := slot_ne (C := "java/lang/String") (Or.inr (wd_23 hw)) (Or.inr (wd_24 hw)) (by decide) (t := (.array .byte)) (t' := .byte) (by decide) (by decide)
theorem d4_57 : decode jdk_42_method_149_code 57 = .ok (.return_, 1) := by decide +kernel
theorem sl_1 {Z : State} {a0 : Array Value} (hw : own_H Z a0) : Jvm.RoadKit.slotOf Z "java/lang/String" "coder" "B" ≠ Jvm.RoadKit.slotOf Z "java/lang/String" "value" "[B" := slot_ne (C := "java/lang/String") (Or.inr (wd_24 hw)) (Or.inr (wd_23 hw)) (by decide) (t := .byte) (t' := (.array .byte)) (by decide) (by decide)
theorem ef_rmIn2_10 (m : MethodId) (a1 : Addr) (ca : Addr) : entryFrame m #[(.ref a1), (.ref ca), (.int 0), (.int 1), .null] 6 = mkF m 0 #[.val (.ref a1), .val (.ref ca), .val (.int 0), .val (.int 1), .val .null, .unset] [] := by first | (simp [entryFrame, mkF, argsToLocals, Value.category]; done) | rfl
def Q_rmIn2_10 (Z : State) (a1 : Addr) (gz : Int32) (ca : Addr) (kc : ClassId) (c0 : Int32) (u1 : Value) (h0 : Heap) (n0 : Nat) (v : Option Value) (h : Heap) (L : List Loc) : Prop := ∃ vb : Addr, h0.size ≤ vb ∧ ∃ kb : ClassId, v = none ∧ Fr n0 L ∧ Keep h0 h [a1] ∧ Exa Z h a1 "java/lang/String" ∧ Fld Z h a1 "java/lang/String" "value" "[B" (.ref vb) ∧ Fld Z h a1 "java/lang/String" "coder" "B" (.int 0) ∧ Arv Z h vb kb .byte (1 : Int32) [(.int (own_lo c0))] (.int 0)
set_option maxRecDepth 65536 in
set_option maxHeartbeats 40000000 in
theorem rmIn2_10 (l : Launch) (Z : State) (a0 : Array Value) (hw : own_H Z a0) (ws : List Jvm.Cond) (a1 : Addr) (gz : Int32) (ca : Addr) (kc : ClassId) (c0 : Int32) (u1 : Value) (h0 : Heap) (n0 : Nat) (Z0 : n0 ≤ h0.size) (O0 : Old Z n0 h0) (S_COMPACT_STRINGS : Sta Z Z.heap "java/lang/String" "COMPACT_STRINGS" "Z" (.int gz)) (hgz : ¬ gz = (0 : Int32)) (E_a1 : Exa Z h0 a1 "java/lang/String") (F_value_a1 : Fld Z h0 a1 "java/lang/String" "value" "[B" .null) (F_coder_a1 : Fld Z h0 a1 "java/lang/String" "coder" "B" u1) (g_a1 : n0 ≤ a1) (V_ca : Arv Z h0 ca kc .char (1 : Int32) [(.int c0)] (.int 0)) (ne_a1_ca : a1 ≠ ca) (hl0 : ¬ (255 : Int32) < c0) :
    own_Met l (⟨"java/lang/String", "<init>", "([CIILjava/lang/Void;)V"⟩ : MethodName) jdk_42_method_149_code 6 none ws (own_rm 2 1 1 35) Z h0 #[(.ref a1), (.ref ca), (.int 0), (.int 1), .null] (Q_rmIn2_10 Z a1 gz ca kc c0 u1 h0 n0) := by
  refine own_met (plainFor_of_name pn_3) (fun m => ef_rmIn2_10 m a1 ca) ?_
  intro p e s m below meth c s₁ Φ hΦ X0 hx hby hml hown hnm hret hlk hZ e0
  have N0 := Fr.nil n0
  have B : own_B p c _ _ := ⟨hx, hby, hml⟩
  have K0 : Keep h0 h0 [a1] := Keep.refl _ _
  show own_G p e below Φ s₁ (mkF m 0 #[.val (.ref a1), .val (.ref ca), .val (.int 0), .val (.int 1), .val .null, .unset] [])
  refine o_aloadN X0 B d4_0 rfl rfl ?_
  obtain ⟨T1, X1, e1, st1⟩ := initO X0 hx hZ hown (wd_18 hw) (wd_19 hw) (wd_20 hw) e0 (g := (mkF m 1 #[.val (.ref a1), .val (.ref ca), .val (.int 0), .val (.int 1), .val .null, .unset] [(.ref a1)])) rfl (by rw [hml]; rfl) rfl (hb hby d4_1) (by decide) (W := 0) (by show 2 * 0 + _ ≤ _; exact Nat.le_of_eq rfl) (by decide)
  refine own_go st1 ?_
  refine o_iloadN X1 B d4_4 rfl ?_
  refine o_ifY X1 B 27 d4_5 (XT.i0_ne_t (by decide : ¬ ((1 : Int32) = (0 : Int32)))) rfl ?_
  obtain ⟨T2, X2, e2, st2⟩ := getS2 X1 hx hZ hown (host := "") (Or.inl (wd_47 hw)) Via.refl e1 (S_COMPACT_STRINGS.ext O0.2) (g := (mkF m 27 #[.val (.ref a1), .val (.ref ca), .val (.int 0), .val (.int 1), .val .null, .unset] [])) rfl (hb hby d4_27)
  refine own_go st2 ?_
  refine o_ifN X2 B d4_30 (XT.i0_eq_f hgz) ?_
  refine o_aloadN X2 B d4_33 rfl rfl ?_
  refine o_iloadN X2 B d4_34 rfl ?_
  show own_G p e below Φ T2 (mkF m 35 #[.val (.ref a1), .val (.ref ca), .val (.int 0), .val (.int 1), .val .null, .unset] [(.int 0), (.ref ca)])
  refine o_iloadN X2 B d4_35 rfl ?_
  refine o_cS (argsL := [(.ref ca), (.int 0), (.int 1)]) (rest := []) X2 B hZ hown (wd_48 hw) (wd_49 hw) (wd_51 hw) (wd_50 hw) (by decide) 0 (rmCmp1_0 l Z a0 hw [] ca kc c0 h0 n0 Z0 V_ca hl0) (by decide) (by decide) (lenOf pd_11 rfl) rfl rfl rfl d4_36 e2 (by decide) (by decide) rfl ?_
  rintro _ T3 _ X3 ⟨vb_3, ns_vb_3, kb_3, rfl, N3q, Kq3, p3_0⟩
  have N3 := Fr.app N0 N3q
  have ne_a1_vb_3 : a1 ≠ vb_3 := Nat.ne_of_lt (Nat.lt_of_lt_of_le E_a1.lt ns_vb_3)
  have ne_ca_vb_3 : ca ≠ vb_3 := Nat.ne_of_lt (Nat.lt_of_lt_of_le V_ca.lt ns_vb_3)
  have sz_vb_3 : h0.size ≤ vb_3 := Nat.le_trans K0.1 ns_vb_3
  have K3 := K0.trans Kq3 all0
  have g_vb_3 : n0 ≤ vb_3 := Nat.le_trans Z0 ns_vb_3
  have Zp3 : n0 ≤ T3.heap.size := Nat.le_trans Z0 Kq3.1
  have O4 := O0.keep Kq3 all0
  refine o_astore (L' := #[.val (.ref a1), .val (.ref ca), .val (.int 0), .val (.int 1), .val .null, .val (.ref vb_3)]) X3 B d4_39 rfl rfl ?_
  refine o_aloadN X3 B d4_41 rfl rfl ?_
  refine o_aload X3 B d4_42 rfl rfl ?_
  refine o_iloadN X3 B d4_44 rfl ?_
  refine o_cS (argsL := [(.ref vb_3), (.int 1)]) (rest := [(.ref a1)]) X3 B hZ hown (wd_55 hw) (wd_56 hw) (wd_57 hw) (wd_50 hw) (by decide) 1 (rmCfl1_1 l Z a0 hw [] vb_3 kb_3 ([(own_lo c0)]) T3.heap n0 Zp3 p3_0) (by decide) (by decide) (lenOf pd_12 rfl) rfl rfl rfl d4_45 rfl (by decide) (by decide) rfl ?_
  rintro _ T5 _ X5 ⟨rfl, N5q, hs5⟩
  have N5 := Fr.app N3 N5q
  have f6 : Exa Z T3.heap a1 "java/lang/String" := E_a1.keep Kq3
  have f7 : Fld Z T3.heap a1 "java/lang/String" "coder" "B" u1 := F_coder_a1.keep Kq3 nin0
  obtain ⟨T8, h8, X8, e8, W8, st8⟩ := putFN X5 hx hZ hown (wd_28 hw) Via.refl hs5 f7 f6 (Or.inr ⟨(wd_24 hw), rfl, hnm⟩) (wd_8 hw) (ty := .byte) (v' := (.int 0)) (by decide) rfl (fits_nar_byte (0 : Int32)) (g := (mkF m 48 #[.val (.ref a1), .val (.ref ca), .val (.int 0), .val (.int 1), .val .null, .val (.ref vb_3)] [(.int 0), (.ref a1)])) rfl rfl (hb hby d4_48)
  refine own_go st8 ?_
  have O9 := O4.wr W8 g_a1
  have N8 := Fr.snoc X8 N5 g_a1
  have K8 := K3.wr W8 (Or.inl (List.mem_of_getElem? (i := 0) rfl))
  have Zp8 : n0 ≤ h8.size := Nat.le_trans Zp3 (Keep.of_wr W8).1
  have f8w := f7.same W8
  show own_G p e below Φ T8 (mkF m 51 #[.val (.ref a1), .val (.ref ca), .val (.int 0), .val (.int 1), .val .null, .val (.ref vb_3)] [])
  refine o_aloadN X8 B d4_51 rfl rfl ?_
  refine o_aload X8 B d4_52 rfl rfl ?_
  have f10 : Exa Z h8 a1 "java/lang/String" := f6.wr W8
  have f11 : Fld Z T3.heap a1 "java/lang/String" "value" "[B" .null := F_value_a1.keep Kq3 nin0
  have f12 : Fld Z h8 a1 "java/lang/String" "value" "[B" .null := f11.other W8 (Or.inr (sl_0 hw))
  obtain ⟨T13, h13, X13, e13, W13, st13⟩ := putF X8 hx hZ hown (host := "") (Or.inl (wd_27 hw)) Via.refl e8 f12 f10 (Or.inr ⟨(wd_23 hw), rfl, hnm⟩) (wd_8 hw) (ty := (.array .byte)) (by decide) rfl rfl (g := (mkF m 54 #[.val (.ref a1), .val (.ref ca), .val (.int 0), .val (.int 1), .val .null, .val (.ref vb_3)] [(.ref vb_3), (.ref a1)])) rfl rfl (hb hby d4_54)
  refine own_go st13 ?_
  have O14 := O9.wr W13 g_a1
  have N13 := Fr.snoc X13 N8 g_a1
  have K13 := K8.wr W13 (Or.inl (List.mem_of_getElem? (i := 0) rfl))
  have Zp13 : n0 ≤ h13.size := Nat.le_trans Zp8 (Keep.of_wr W13).1
  have f13w := f12.same W13
  have f15 : Exa Z h13 a1 "java/lang/String" := f10.wr W13
  have f16 : Fld Z h13 a1 "java/lang/String" "coder" "B" (.int 0) := f8w.other W13 (Or.inr (sl_1 hw))
  have f17 : Arv Z h8 vb_3 kb_3 .byte (1 : Int32) [(.int (own_lo c0))] (.int 0) := p3_0.other W8 (Ne.symm ne_a1_vb_3)
  have f18 : Arv Z h13 vb_3 kb_3 .byte (1 : Int32) [(.int (own_lo c0))] (.int 0) := f17.other W13 (Ne.symm ne_a1_vb_3)
  rw [hΦ]
  refine own_ret X13 (v := none) (fun _ => rfl) hlk (fun fs hr => X13.returnOut hx hret (hb hby d4_57) hr) ?_ (by decide) (by decide)
  rw [e13]
  exact ⟨vb_3, sz_vb_3, kb_3, rfl, N13, K13, f15, f13w, f16, f18⟩
theorem ef_rmIn2_11 (m : MethodId) (a1 : Addr) (ca : Addr) : entryFrame m #[(.ref a1), (.ref ca), (.int 0), (.int 1), .null] 6 = mkF m 0 #[.val (.ref a1), .val (.ref ca), .val (.int 0), .val (.int 1), .val .null, .unset] [] := by first | (simp [entryFrame, mkF, argsToLocals, Value.category]; done) | rfl
def Q_rmIn2_11 (Z : State) (a1 : Addr) (gz : Int32) (ca : Addr) (kc : ClassId) (c0 : Int32) (u1 : Value) (h0 : Heap) (n0 : Nat) (v : Option Value) (h : Heap) (L : List Loc) : Prop := ∃ vb : Addr, h0.size ≤ vb ∧ ∃ kb : ClassId, v = none ∧ Fr n0 L ∧ Keep h0 h [a1] ∧ Exa Z h a1 "java/lang/String" ∧ Fld Z h a1 "java/lang/String" "value" "[B" (.ref vb) ∧ Fld Z h a1 "java/lang/String" "coder" "B" (.int 1) ∧ Arv Z h vb kb .byte (2 : Int32) [(.int (own_h0 c0)), (.int (own_h8 c0))] (.int 0)
set_option maxRecDepth 65536 in
set_option maxHeartbeats 40000000 in
theorem rmIn2_11 (l : Launch) (Z : State) (a0 : Array Value) (hw : own_H Z a0) (ws : List Jvm.Cond) (a1 : Addr) (gz : Int32) (ca : Addr) (kc : ClassId) (c0 : Int32) (u1 : Value) (h0 : Heap) (n0 : Nat) (Z0 : n0 ≤ h0.size) (O0 : Old Z n0 h0) (S_COMPACT_STRINGS : Sta Z Z.heap "java/lang/String" "COMPACT_STRINGS" "Z" (.int gz)) (hgz : ¬ gz = (0 : Int32)) (S__assertionsDisabled : Sta Z Z.heap "java/lang/StringUTF16" "$assertionsDisabled" "Z" (.int 1)) (S_HI_BYTE_SHIFT : Sta Z Z.heap "java/lang/StringUTF16" "HI_BYTE_SHIFT" "I" (.int 0)) (S_LO_BYTE_SHIFT : Sta Z Z.heap "java/lang/StringUTF16" "LO_BYTE_SHIFT" "I" (.int 8)) (E_a1 : Exa Z h0 a1 "java/lang/String") (F_value_a1 : Fld Z h0 a1 "java/lang/String" "value" "[B" .null) (F_coder_a1 : Fld Z h0 a1 "java/lang/String" "coder" "B" u1) (g_a1 : n0 ≤ a1) (V_ca : Arv Z h0 ca kc .char (1 : Int32) [(.int c0)] (.int 0)) (ne_a1_ca : a1 ≠ ca) (hr0 : ¬ c0 < 0 ∧ ¬ (65535 : Int32) < c0) (hex : (255 : Int32) < c0) :
    own_Met l (⟨"java/lang/String", "<init>", "([CIILjava/lang/Void;)V"⟩ : MethodName) jdk_42_method_149_code 6 none ws (own_rm 4 2 3 57) Z h0 #[(.ref a1), (.ref ca), (.int 0), (.int 1), .null] (Q_rmIn2_11 Z a1 gz ca kc c0 u1 h0 n0) := by
  refine own_met (plainFor_of_name pn_3) (fun m => ef_rmIn2_11 m a1 ca) ?_
  intro p e s m below meth c s₁ Φ hΦ X0 hx hby hml hown hnm hret hlk hZ e0
  have N0 := Fr.nil n0
  have B : own_B p c _ _ := ⟨hx, hby, hml⟩
  have K0 : Keep h0 h0 [a1] := Keep.refl _ _
  show own_G p e below Φ s₁ (mkF m 0 #[.val (.ref a1), .val (.ref ca), .val (.int 0), .val (.int 1), .val .null, .unset] [])
  refine o_aloadN X0 B d4_0 rfl rfl ?_
  obtain ⟨T1, X1, e1, st1⟩ := initO X0 hx hZ hown (wd_18 hw) (wd_19 hw) (wd_20 hw) e0 (g := (mkF m 1 #[.val (.ref a1), .val (.ref ca), .val (.int 0), .val (.int 1), .val .null, .unset] [(.ref a1)])) rfl (by rw [hml]; rfl) rfl (hb hby d4_1) (by decide) (W := 0) (by show 2 * 0 + _ ≤ _; exact Nat.le_of_eq rfl) (by decide)
  refine own_go st1 ?_
  refine o_iloadN X1 B d4_4 rfl ?_
  refine o_ifY X1 B 27 d4_5 (XT.i0_ne_t (by decide : ¬ ((1 : Int32) = (0 : Int32)))) rfl ?_
  obtain ⟨T2, X2, e2, st2⟩ := getS2 X1 hx hZ hown (host := "") (Or.inl (wd_47 hw)) Via.refl e1 (S_COMPACT_STRINGS.ext O0.2) (g := (mkF m 27 #[.val (.ref a1), .val (.ref ca), .val (.int 0), .val (.int 1), .val .null, .unset] [])) rfl (hb hby d4_27)
  refine own_go st2 ?_
  refine o_ifN X2 B d4_30 (XT.i0_eq_f hgz) ?_
  refine o_aloadN X2 B d4_33 rfl rfl ?_
  refine o_iloadN X2 B d4_34 rfl ?_
  show own_G p e below Φ T2 (mkF m 35 #[.val (.ref a1), .val (.ref ca), .val (.int 0), .val (.int 1), .val .null, .unset] [(.int 0), (.ref ca)])
  refine o_iloadN X2 B d4_35 rfl ?_
  refine o_cS (argsL := [(.ref ca), (.int 0), (.int 1)]) (rest := []) X2 B hZ hown (wd_48 hw) (wd_49 hw) (wd_51 hw) (wd_50 hw) (by decide) 0 (rmCmp1_1 l Z a0 hw [] ca kc c0 h0 n0 Z0 O0 S__assertionsDisabled S_HI_BYTE_SHIFT S_LO_BYTE_SHIFT V_ca hr0 hex) (by decide) (by decide) (lenOf pd_11 rfl) rfl rfl rfl d4_36 e2 (by decide) (by decide) rfl ?_
  rintro _ T3 _ X3 ⟨vb_3, ns_vb_3, kb_3, rfl, N3q, Kq3, p3_0⟩
  have N3 := Fr.app N0 N3q
  have ne_a1_vb_3 : a1 ≠ vb_3 := Nat.ne_of_lt (Nat.lt_of_lt_of_le E_a1.lt ns_vb_3)
  have ne_ca_vb_3 : ca ≠ vb_3 := Nat.ne_of_lt (Nat.lt_of_lt_of_le V_ca.lt ns_vb_3)
  have sz_vb_3 : h0.size ≤ vb_3 := Nat.le_trans K0.1 ns_vb_3
  have K3 := K0.trans Kq3 all0
  have g_vb_3 : n0 ≤ vb_3 := Nat.le_trans Z0 ns_vb_3
  have Zp3 : n0 ≤ T3.heap.size := Nat.le_trans Z0 Kq3.1
  have O4 := O0.keep Kq3 all0
  refine o_astore (L' := #[.val (.ref a1), .val (.ref ca), .val (.int 0), .val (.int 1), .val .null, .val (.ref vb_3)]) X3 B d4_39 rfl rfl ?_
  refine o_aloadN X3 B d4_41 rfl rfl ?_
  refine o_aload X3 B d4_42 rfl rfl ?_
  refine o_iloadN X3 B d4_44 rfl ?_
  refine o_cS (argsL := [(.ref vb_3), (.int 1)]) (rest := [(.ref a1)]) X3 B hZ hown (wd_55 hw) (wd_56 hw) (wd_57 hw) (wd_50 hw) (by decide) 1 (rmCfl1_2 l Z a0 hw [] vb_3 kb_3 ([(own_h0 c0), (own_h8 c0)]) T3.heap n0 Zp3 p3_0) (by decide) (by decide) (lenOf pd_12 rfl) rfl rfl rfl d4_45 rfl (by decide) (by decide) rfl ?_
  rintro _ T5 _ X5 ⟨rfl, N5q, hs5⟩
  have N5 := Fr.app N3 N5q
  have f6 : Exa Z T3.heap a1 "java/lang/String" := E_a1.keep Kq3
  have f7 : Fld Z T3.heap a1 "java/lang/String" "coder" "B" u1 := F_coder_a1.keep Kq3 nin0
  obtain ⟨T8, h8, X8, e8, W8, st8⟩ := putFN X5 hx hZ hown (wd_28 hw) Via.refl hs5 f7 f6 (Or.inr ⟨(wd_24 hw), rfl, hnm⟩) (wd_8 hw) (ty := .byte) (v' := (.int 1)) (by decide) rfl (fits_nar_byte (1 : Int32)) (g := (mkF m 48 #[.val (.ref a1), .val (.ref ca), .val (.int 0), .val (.int 1), .val .null, .val (.ref vb_3)] [(.int 1), (.ref a1)])) rfl rfl (hb hby d4_48)
  refine own_go st8 ?_
  have O9 := O4.wr W8 g_a1
  have N8 := Fr.snoc X8 N5 g_a1
  have K8 := K3.wr W8 (Or.inl (List.mem_of_getElem? (i := 0) rfl))
  have Zp8 : n0 ≤ h8.size := Nat.le_trans Zp3 (Keep.of_wr W8).1
  have f8w := f7.same W8
  show own_G p e below Φ T8 (mkF m 51 #[.val (.ref a1), .val (.ref ca), .val (.int 0), .val (.int 1), .val .null, .val (.ref vb_3)] [])
  refine o_aloadN X8 B d4_51 rfl rfl ?_
  refine o_aload X8 B d4_52 rfl rfl ?_
  have f10 : Exa Z h8 a1 "java/lang/String" := f6.wr W8
  have f11 : Fld Z T3.heap a1 "java/lang/String" "value" "[B" .null := F_value_a1.keep Kq3 nin0
  have f12 : Fld Z h8 a1 "java/lang/String" "value" "[B" .null := f11.other W8 (Or.inr (sl_0 hw))
  obtain ⟨T13, h13, X13, e13, W13, st13⟩ := putF X8 hx hZ hown (host := "") (Or.inl (wd_27 hw)) Via.refl e8 f12 f10 (Or.inr ⟨(wd_23 hw), rfl, hnm⟩) (wd_8 hw) (ty := (.array .byte)) (by decide) rfl rfl (g := (mkF m 54 #[.val (.ref a1), .val (.ref ca), .val (.int 0), .val (.int 1), .val .null, .val (.ref vb_3)] [(.ref vb_3), (.ref a1)])) rfl rfl (hb hby d4_54)
  refine own_go st13 ?_
  have O14 := O9.wr W13 g_a1
  have N13 := Fr.snoc X13 N8 g_a1
  have K13 := K8.wr W13 (Or.inl (List.mem_of_getElem? (i := 0) rfl))
  have Zp13 : n0 ≤ h13.size := Nat.le_trans Zp8 (Keep.of_wr W13).1
  have f13w := f12.same W13
  have f15 : Exa Z h13 a1 "java/lang/String" := f10.wr W13
  have f16 : Fld Z h13 a1 "java/lang/String" "coder" "B" (.int 1) := f8w.other W13 (Or.inr (sl_1 hw))
  have f17 : Arv Z h8 vb_3 kb_3 .byte (2 : Int32) [(.int (own_h0 c0)), (.int (own_h8 c0))] (.int 0) := p3_0.other W8 (Ne.symm ne_a1_vb_3)
  have f18 : Arv Z h13 vb_3 kb_3 .byte (2 : Int32) [(.int (own_h0 c0)), (.int (own_h8 c0))] (.int 0) := f17.other W13 (Ne.symm ne_a1_vb_3)
  rw [hΦ]
  refine own_ret X13 (v := none) (fun _ => rfl) hlk (fun fs hr => X13.returnOut hx hret (hb hby d4_57) hr) ?_ (by decide) (by decide)
  rw [e13]
  exact ⟨vb_3, sz_vb_3, kb_3, rfl, N13, K13, f15, f13w, f16, f18⟩
theorem ef_rmIn2_20 (m : MethodId) (a1 : Addr) (ca : Addr) : entryFrame m #[(.ref a1), (.ref ca), (.int 0), (.int 2), .null] 6 = mkF m 0 #[.val (.ref a1), .val (.ref ca), .val (.int 0), .val (.int 2), .val .null, .unset] [] := by first | (simp [entryFrame, mkF, argsToLocals, Value.category]; done) | rfl
def Q_rmIn2_20 (Z : State) (a1 : Addr) (gz : Int32) (ca : Addr) (kc : ClassId) (c0 : Int32) (c1 : Int32) (u1 : Value) (h0 : Heap) (n0 : Nat) (v : Option Value) (h : Heap) (L : List Loc) : Prop := ∃ vb : Addr, h0.size ≤ vb ∧ ∃ kb : ClassId, v = none ∧ Fr n0 L ∧ Keep h0 h [a1] ∧ Exa Z h a1 "java/lang/String" ∧ Fld Z h a1 "java/lang/String" "value" "[B" (.ref vb) ∧ Fld Z h a1 "java/lang/String" "coder" "B" (.int 0) ∧ Arv Z h vb kb .byte (2 : Int32) [(.int (own_lo c0)), (.int (own_lo c1))] (.int 0)
set_option maxRecDepth 65536 in
set_option maxHeartbeats 40000000 in
theorem rmIn2_20 (l : Launch) (Z : State) (a0 : Array Value) (hw : own_H Z a0) (ws : List Jvm.Cond) (a1 : Addr) (gz : Int32) (ca : Addr) (kc : ClassId) (c0 : Int32) (c1 : Int32) (u1 : Value) (h0 : Heap) (n0 : Nat) (Z0 : n0 ≤ h0.size) (O0 : Old Z n0 h0) (S_COMPACT_STRINGS : Sta Z Z.heap "java/lang/String" "COMPACT_STRINGS" "Z" (.int gz)) (hgz : ¬ gz = (0 : Int32)) (E_a1 : Exa Z h0 a1 "java/lang/String") (F_value_a1 : Fld Z h0 a1 "java/lang/String" "value" "[B" .null) (F_coder_a1 : Fld Z h0 a1 "java/lang/String" "coder" "B" u1) (g_a1 : n0 ≤ a1) (V_ca : Arv Z h0 ca kc .char (2 : Int32) [(.int c0), (.int c1)] (.int 0)) (ne_a1_ca : a1 ≠ ca) (hl0 : ¬ (255 : Int32) < c0) (hl1 : ¬ (255 : Int32) < c1) :
    own_Met l (⟨"java/lang/String", "<init>", "([CIILjava/lang/Void;)V"⟩ : MethodName) jdk_42_method_149_code 6 none ws (own_rm 2 1 2 35) Z h0 #[(.ref a1), (.ref ca), (.int 0), (.int 2), .null] (Q_rmIn2_20 Z a1 gz ca kc c0 c1 u1 h0 n0) := by
  refine own_met (plainFor_of_name pn_3) (fun m => ef_rmIn2_20 m a1 ca) ?_
  intro p e s m below meth c s₁ Φ hΦ X0 hx hby hml hown hnm hret hlk hZ e0
  have N0 := Fr.nil n0
  have B : own_B p c _ _ := ⟨hx, hby, hml⟩
  have K0 : Keep h0 h0 [a1] := Keep.refl _ _
  show own_G p e below Φ s₁ (mkF m 0 #[.val (.ref a1), .val (.ref ca), .val (.int 0), .val (.int 2), .val .null, .unset] [])
  refine o_aloadN X0 B d4_0 rfl rfl ?_
  obtain ⟨T1, X1, e1, st1⟩ := initO X0 hx hZ hown (wd_18 hw) (wd_19 hw) (wd_20 hw) e0 (g := (mkF m 1 #[.val (.ref a1), .val (.ref ca), .val (.int 0), .val (.int 2), .val .null, .unset] [(.ref a1)])) rfl (by rw [hml]; rfl) rfl (hb hby d4_1) (by decide) (W := 0) (by show 2 * 0 + _ ≤ _; exact Nat.le_of_eq rfl) (by decide)
  refine own_go st1 ?_
  refine o_iloadN X1 B d4_4 rfl ?_
  refine o_ifY X1 B 27 d4_5 (XT.i0_ne_t (by decide : ¬ ((2 : Int32) = (0 : Int32)))) rfl ?_
  obtain ⟨T2, X2, e2, st2⟩ := getS2 X1 hx hZ hown (host := "") (Or.inl (wd_47 hw)) Via.refl e1 (S_COMPACT_STRINGS.ext O0.2) (g := (mkF m 27 #[.val (.ref a1), .val (.ref ca), .val (.int 0), .val (.int 2), .val .null, .unset] [])) rfl (hb hby d4_27)
  refine own_go st2 ?_
  refine o_ifN X2 B d4_30 (XT.i0_eq_f hgz) ?_
  refine o_aloadN X2 B d4_33 rfl rfl ?_
  refine o_iloadN X2 B d4_34 rfl ?_
  show own_G p e below Φ T2 (mkF m 35 #[.val (.ref a1), .val (.ref ca), .val (.int 0), .val (.int 2), .val .null, .unset] [(.int 0), (.ref ca)])
  refine o_iloadN X2 B d4_35 rfl ?_
  refine o_cS (argsL := [(.ref ca), (.int 0), (.int 2)]) (rest := []) X2 B hZ hown (wd_48 hw) (wd_49 hw) (wd_51 hw) (wd_50 hw) (by decide) 0 (rmCmp2_0 l Z a0 hw [] ca kc c0 c1 h0 n0 Z0 V_ca hl0 hl1) (by decide) (by decide) (lenOf pd_11 rfl) rfl rfl rfl d4_36 e2 (by decide) (by decide) rfl ?_
  rintro _ T3 _ X3 ⟨vb_3, ns_vb_3, kb_3, rfl, N3q, Kq3, p3_0⟩
  have N3 := Fr.app N0 N3q
  have ne_a1_vb_3 : a1 ≠ vb_3 := Nat.ne_of_lt (Nat.lt_of_lt_of_le E_a1.lt ns_vb_3)
  have ne_ca_vb_3 : ca ≠ vb_3 := Nat.ne_of_lt (Nat.lt_of_lt_of_le V_ca.lt ns_vb_3)
  have sz_vb_3 : h0.size ≤ vb_3 := Nat.le_trans K0.1 ns_vb_3
  have K3 := K0.trans Kq3 all0
  have g_vb_3 : n0 ≤ vb_3 := Nat.le_trans Z0 ns_vb_3
  have Zp3 : n0 ≤ T3.heap.size := Nat.le_trans Z0 Kq3.1
  have O4 := O0.keep Kq3 all0
  refine o_astore (L' := #[.val (.ref a1), .val (.ref ca), .val (.int 0), .val (.int 2), .val .null, .val (.ref vb_3)]) X3 B d4_39 rfl rfl ?_
  refine o_aloadN X3 B d4_41 rfl rfl ?_
  refine o_aload X3 B d4_42 rfl rfl ?_
  refine o_iloadN X3 B d4_44 rfl ?_
  refine o_cS (argsL := [(.ref vb_3), (.int 2)]) (rest := [(.ref a1)]) X3 B hZ hown (wd_55 hw) (wd_56 hw) (wd_57 hw) (wd_50 hw) (by decide) 1 (rmCfl2_2 l Z a0 hw [] vb_3 kb_3 ([(own_lo c0), (own_lo c1)]) T3.heap n0 Zp3 p3_0) (by decide) (by decide) (lenOf pd_12 rfl) rfl rfl rfl d4_45 rfl (by decide) (by decide) rfl ?_
  rintro _ T5 _ X5 ⟨rfl, N5q, hs5⟩
  have N5 := Fr.app N3 N5q
  have f6 : Exa Z T3.heap a1 "java/lang/String" := E_a1.keep Kq3
  have f7 : Fld Z T3.heap a1 "java/lang/String" "coder" "B" u1 := F_coder_a1.keep Kq3 nin0
  obtain ⟨T8, h8, X8, e8, W8, st8⟩ := putFN X5 hx hZ hown (wd_28 hw) Via.refl hs5 f7 f6 (Or.inr ⟨(wd_24 hw), rfl, hnm⟩) (wd_8 hw) (ty := .byte) (v' := (.int 0)) (by decide) rfl (fits_nar_byte (0 : Int32)) (g := (mkF m 48 #[.val (.ref a1), .val (.ref ca), .val (.int 0), .val (.int 2), .val .null, .val (.ref vb_3)] [(.int 0), (.ref a1)])) rfl rfl (hb hby d4_48)
  refine own_go st8 ?_
  have O9 := O4.wr W8 g_a1
  have N8 := Fr.snoc X8 N5 g_a1
  have K8 := K3.wr W8 (Or.inl (List.mem_of_getElem? (i := 0) rfl))
  have Zp8 : n0 ≤ h8.size := Nat.le_trans Zp3 (Keep.of_wr W8).1
  have f8w := f7.same W8
  show own_G p e below Φ T8 (mkF m 51 #[.val (.ref a1), .val (.ref ca), .val (.int 0), .val (.int 2), .val .null, .val (.ref vb_3)] [])
  refine o_aloadN X8 B d4_51 rfl rfl ?_
  refine o_aload X8 B d4_52 rfl rfl ?_
  have f10 : Exa Z h8 a1 "java/lang/String" := f6.wr W8
  have f11 : Fld Z T3.heap a1 "java/lang/String" "value" "[B" .null := F_value_a1.keep Kq3 nin0
  have f12 : Fld Z h8 a1 "java/lang/String" "value" "[B" .null := f11.other W8 (Or.inr (sl_0 hw))
  obtain ⟨T13, h13, X13, e13, W13, st13⟩ := putF X8 hx hZ hown (host := "") (Or.inl (wd_27 hw)) Via.refl e8 f12 f10 (Or.inr ⟨(wd_23 hw), rfl, hnm⟩) (wd_8 hw) (ty := (.array .byte)) (by decide) rfl rfl (g := (mkF m 54 #[.val (.ref a1), .val (.ref ca), .val (.int 0), .val (.int 2), .val .null, .val (.ref vb_3)] [(.ref vb_3), (.ref a1)])) rfl rfl (hb hby d4_54)
  refine own_go st13 ?_
  have O14 := O9.wr W13 g_a1
  have N13 := Fr.snoc X13 N8 g_a1
  have K13 := K8.wr W13 (Or.inl (List.mem_of_getElem? (i := 0) rfl))
  have Zp13 : n0 ≤ h13.size := Nat.le_trans Zp8 (Keep.of_wr W13).1
  have f13w := f12.same W13
  have f15 : Exa Z h13 a1 "java/lang/String" := f10.wr W13
  have f16 : Fld Z h13 a1 "java/lang/String" "coder" "B" (.int 0) := f8w.other W13 (Or.inr (sl_1 hw))
  have f17 : Arv Z h8 vb_3 kb_3 .byte (2 : Int32) [(.int (own_lo c0)), (.int (own_lo c1))] (.int 0) := p3_0.other W8 (Ne.symm ne_a1_vb_3)
  have f18 : Arv Z h13 vb_3 kb_3 .byte (2 : Int32) [(.int (own_lo c0)), (.int (own_lo c1))] (.int 0) := f17.other W13 (Ne.symm ne_a1_vb_3)
  rw [hΦ]
  refine own_ret X13 (v := none) (fun _ => rfl) hlk (fun fs hr => X13.returnOut hx hret (hb hby d4_57) hr) ?_ (by decide) (by decide)
  rw [e13]
  exact ⟨vb_3, sz_vb_3, kb_3, rfl, N13, K13, f15, f13w, f16, f18⟩
theorem ef_rmIn2_21 (m : MethodId) (a1 : Addr) (ca : Addr) : entryFrame m #[(.ref a1), (.ref ca), (.int 0), (.int 2), .null] 6 = mkF m 0 #[.val (.ref a1), .val (.ref ca), .val (.int 0), .val (.int 2), .val .null, .unset] [] := by first | (simp [entryFrame, mkF, argsToLocals, Value.category]; done) | rfl
def Q_rmIn2_21 (Z : State) (a1 : Addr) (gz : Int32) (ca : Addr) (kc : ClassId) (c0 : Int32) (c1 : Int32) (u1 : Value) (h0 : Heap) (n0 : Nat) (v : Option Value) (h : Heap) (L : List Loc) : Prop := ∃ vb : Addr, h0.size ≤ vb ∧ ∃ kb : ClassId, v = none ∧ Fr n0 L ∧ Keep h0 h [a1] ∧ Exa Z h a1 "java/lang/String" ∧ Fld Z h a1 "java/lang/String" "value" "[B" (.ref vb) ∧ Fld Z h a1 "java/lang/String" "coder" "B" (.int 1) ∧ Arv Z h vb kb .byte (4 : Int32) [(.int (own_h0 c0)), (.int (own_h8 c0)), (.int (own_h0 c1)), (.int (own_h8 c1))] (.int 0)
set_option maxRecDepth 65536 in
set_option maxHeartbeats 40000000 in
theorem rmIn2_21 (l : Launch) (Z : State) (a0 : Array Value) (hw : own_H Z a0) (ws : List Jvm.Cond) (a1 : Addr) (gz : Int32) (ca : Addr) (kc : ClassId) (c0 : Int32) (c1 : Int32) (u1 : Value) (h0 : Heap) (n0 : Nat) (Z0 : n0 ≤ h0.size) (O0 : Old Z n0 h0) (S_COMPACT_STRINGS : Sta Z Z.heap "java/lang/String" "COMPACT_STRINGS" "Z" (.int gz)) (hgz : ¬ gz = (0 : Int32)) (S__assertionsDisabled : Sta Z Z.heap "java/lang/StringUTF16" "$assertionsDisabled" "Z" (.int 1)) (S_HI_BYTE_SHIFT : Sta Z Z.heap "java/lang/StringUTF16" "HI_BYTE_SHIFT" "I" (.int 0)) (S_LO_BYTE_SHIFT : Sta Z Z.heap "java/lang/StringUTF16" "LO_BYTE_SHIFT" "I" (.int 8)) (E_a1 : Exa Z h0 a1 "java/lang/String") (F_value_a1 : Fld Z h0 a1 "java/lang/String" "value" "[B" .null) (F_coder_a1 : Fld Z h0 a1 "java/lang/String" "coder" "B" u1) (g_a1 : n0 ≤ a1) (V_ca : Arv Z h0 ca kc .char (2 : Int32) [(.int c0), (.int c1)] (.int 0)) (ne_a1_ca : a1 ≠ ca) (hr0 : ¬ c0 < 0 ∧ ¬ (65535 : Int32) < c0) (hr1 : ¬ c1 < 0 ∧ ¬ (65535 : Int32) < c1) (hex : (255 : Int32) < c0 ∨ (255 : Int32) < c1) :
    own_Met l (⟨"java/lang/String", "<init>", "([CIILjava/lang/Void;)V"⟩ : MethodName) jdk_42_method_149_code 6 none ws (own_rm 4 2 6 57) Z h0 #[(.ref a1), (.ref ca), (.int 0), (.int 2), .null] (Q_rmIn2_21 Z a1 gz ca kc c0 c1 u1 h0 n0) := by
  refine own_met (plainFor_of_name pn_3) (fun m => ef_rmIn2_21 m a1 ca) ?_
  intro p e s m below meth c s₁ Φ hΦ X0 hx hby hml hown hnm hret hlk hZ e0
  have N0 := Fr.nil n0
  have B : own_B p c _ _ := ⟨hx, hby, hml⟩
  have K0 : Keep h0 h0 [a1] := Keep.refl _ _
  show own_G p e below Φ s₁ (mkF m 0 #[.val (.ref a1), .val (.ref ca), .val (.int 0), .val (.int 2), .val .null, .unset] [])
  refine o_aloadN X0 B d4_0 rfl rfl ?_
  obtain ⟨T1, X1, e1, st1⟩ := initO X0 hx hZ hown (wd_18 hw) (wd_19 hw) (wd_20 hw) e0 (g := (mkF m 1 #[.val (.ref a1), .val (.ref ca), .val (.int 0), .val (.int 2), .val .null, .unset] [(.ref a1)])) rfl (by rw [hml]; rfl) rfl (hb hby d4_1) (by decide) (W := 0) (by show 2 * 0 + _ ≤ _; exact Nat.le_of_eq rfl) (by decide)
  refine own_go st1 ?_
  refine o_iloadN X1 B d4_4 rfl ?_
  refine o_ifY X1 B 27 d4_5 (XT.i0_ne_t (by decide : ¬ ((2 : Int32) = (0 : Int32)))) rfl ?_
  obtain ⟨T2, X2, e2, st2⟩ := getS2 X1 hx hZ hown (host := "") (Or.inl (wd_47 hw)) Via.refl e1 (S_COMPACT_STRINGS.ext O0.2) (g := (mkF m 27 #[.val (.ref a1), .val (.ref ca), .val (.int 0), .val (.int 2), .val .null, .unset] [])) rfl (hb hby d4_27)
  refine own_go st2 ?_
  refine o_ifN X2 B d4_30 (XT.i0_eq_f hgz) ?_
  refine o_aloadN X2 B d4_33 rfl rfl ?_
  refine o_iloadN X2 B d4_34 rfl ?_
  show own_G p e below Φ T2 (mkF m 35 #[.val (.ref a1), .val (.ref ca), .val (.int 0), .val (.int 2), .val .null, .unset] [(.int 0), (.ref ca)])
  refine o_iloadN X2 B d4_35 rfl ?_
  refine o_cS (argsL := [(.ref ca), (.int 0), (.int 2)]) (rest := []) X2 B hZ hown (wd_48 hw) (wd_49 hw) (wd_51 hw) (wd_50 hw) (by decide) 0 (rmCmp2_1 l Z a0 hw [] ca kc c0 c1 h0 n0 Z0 O0 S__assertionsDisabled S_HI_BYTE_SHIFT S_LO_BYTE_SHIFT V_ca hr0 hr1 hex) (by decide) (by decide) (lenOf pd_11 rfl) rfl rfl rfl d4_36 e2 (by decide) (by decide) rfl ?_
  rintro _ T3 _ X3 ⟨vb_3, ns_vb_3, kb_3, rfl, N3q, Kq3, p3_0⟩
  have N3 := Fr.app N0 N3q
  have ne_a1_vb_3 : a1 ≠ vb_3 := Nat.ne_of_lt (Nat.lt_of_lt_of_le E_a1.lt ns_vb_3)
  have ne_ca_vb_3 : ca ≠ vb_3 := Nat.ne_of_lt (Nat.lt_of_lt_of_le V_ca.lt ns_vb_3)
  have sz_vb_3 : h0.size ≤ vb_3 := Nat.le_trans K0.1 ns_vb_3
  have K3 := K0.trans Kq3 all0
  have g_vb_3 : n0 ≤ vb_3 := Nat.le_trans Z0 ns_vb_3
  have Zp3 : n0 ≤ T3.heap.size := Nat.le_trans Z0 Kq3.1
  have O4 := O0.keep Kq3 all0
  refine o_astore (L' := #[.val (.ref a1), .val (.ref ca), .val (.int 0), .val (.int 2), .val .null, .val (.ref vb_3)]) X3 B d4_39 rfl rfl ?_
  refine o_aloadN X3 B d4_41 rfl rfl ?_
  refine o_aload X3 B d4_42 rfl rfl ?_
  refine o_iloadN X3 B d4_44 rfl ?_
  refine o_cS (argsL := [(.ref vb_3), (.int 2)]) (rest := [(.ref a1)]) X3 B hZ hown (wd_55 hw) (wd_56 hw) (wd_57 hw) (wd_50 hw) (by decide) 1 (rmCfl2_4 l Z a0 hw [] vb_3 kb_3 ([(own_h0 c0), (own_h8 c0), (own_h0 c1), (own_h8 c1)]) T3.heap n0 Zp3 p3_0) (by decide) (by decide) (lenOf pd_12 rfl) rfl rfl rfl d4_45 rfl (by decide) (by decide) rfl ?_
  rintro _ T5 _ X5 ⟨rfl, N5q, hs5⟩
  have N5 := Fr.app N3 N5q
  have f6 : Exa Z T3.heap a1 "java/lang/String" := E_a1.keep Kq3
  have f7 : Fld Z T3.heap a1 "java/lang/String" "coder" "B" u1 := F_coder_a1.keep Kq3 nin0
  obtain ⟨T8, h8, X8, e8, W8, st8⟩ := putFN X5 hx hZ hown (wd_28 hw) Via.refl hs5 f7 f6 (Or.inr ⟨(wd_24 hw), rfl, hnm⟩) (wd_8 hw) (ty := .byte) (v' := (.int 1)) (by decide) rfl (fits_nar_byte (1 : Int32)) (g := (mkF m 48 #[.val (.ref a1), .val (.ref ca), .val (.int 0), .val (.int 2), .val .null, .val (.ref vb_3)] [(.int 1), (.ref a1)])) rfl rfl (hb hby d4_48)
  refine own_go st8 ?_
  have O9 := O4.wr W8 g_a1
  have N8 := Fr.snoc X8 N5 g_a1
  have K8 := K3.wr W8 (Or.inl (List.mem_of_getElem? (i := 0) rfl))
  have Zp8 : n0 ≤ h8.size := Nat.le_trans Zp3 (Keep.of_wr W8).1
  have f8w := f7.same W8
  show own_G p e below Φ T8 (mkF m 51 #[.val (.ref a1), .val (.ref ca), .val (.int 0), .val (.int 2), .val .null, .val (.ref vb_3)] [])
  refine o_aloadN X8 B d4_51 rfl rfl ?_
  refine o_aload X8 B d4_52 rfl rfl ?_
  have f10 : Exa Z h8 a1 "java/lang/String" := f6.wr W8
  have f11 : Fld Z T3.heap a1 "java/lang/String" "value" "[B" .null := F_value_a1.keep Kq3 nin0
  have f12 : Fld Z h8 a1 "java/lang/String" "value" "[B" .null := f11.other W8 (Or.inr (sl_0 hw))
  obtain ⟨T13, h13, X13, e13, W13, st13⟩ := putF X8 hx hZ hown (host := "") (Or.inl (wd_27 hw)) Via.refl e8 f12 f10 (Or.inr ⟨(wd_23 hw), rfl, hnm⟩) (wd_8 hw) (ty := (.array .byte)) (by decide) rfl rfl (g := (mkF m 54 #[.val (.ref a1), .val (.ref ca), .val (.int 0), .val (.int 2), .val .null, .val (.ref vb_3)] [(.ref vb_3), (.ref a1)])) rfl rfl (hb hby d4_54)
  refine own_go st13 ?_
  have O14 := O9.wr W13 g_a1
  have N13 := Fr.snoc X13 N8 g_a1
  have K13 := K8.wr W13 (Or.inl (List.mem_of_getElem? (i := 0) rfl))
  have Zp13 : n0 ≤ h13.size := Nat.le_trans Zp8 (Keep.of_wr W13).1
  have f13w := f12.same W13
  have f15 : Exa Z h13 a1 "java/lang/String" := f10.wr W13
  have f16 : Fld Z h13 a1 "java/lang/String" "coder" "B" (.int 1) := f8w.other W13 (Or.inr (sl_1 hw))
  have f17 : Arv Z h8 vb_3 kb_3 .byte (4 : Int32) [(.int (own_h0 c0)), (.int (own_h8 c0)), (.int (own_h0 c1)), (.int (own_h8 c1))] (.int 0) := p3_0.other W8 (Ne.symm ne_a1_vb_3)
  have f18 : Arv Z h13 vb_3 kb_3 .byte (4 : Int32) [(.int (own_h0 c0)), (.int (own_h8 c0)), (.int (own_h0 c1)), (.int (own_h8 c1))] (.int 0) := f17.other W13 (Ne.symm ne_a1_vb_3)
  rw [hΦ]
  refine own_ret X13 (v := none) (fun _ => rfl) hlk (fun fs hr => X13.returnOut hx hret (hb hby d4_57) hr) ?_ (by decide) (by decide)
  rw [e13]
  exact ⟨vb_3, sz_vb_3, kb_3, rfl, N13, K13, f15, f13w, f16, f18⟩
theorem ef_rmIn2_30 (m : MethodId) (a1 : Addr) (ca : Addr) : entryFrame m #[(.ref a1), (.ref ca), (.int 0), (.int 3), .null] 6 = mkF m 0 #[.val (.ref a1), .val (.ref ca), .val (.int 0), .val (.int 3), .val .null, .unset] [] := by first | (simp [entryFrame, mkF, argsToLocals, Value.category]; done) | rfl
def Q_rmIn2_30 (Z : State) (a1 : Addr) (gz : Int32) (ca : Addr) (kc : ClassId) (c0 : Int32) (c1 : Int32) (c2 : Int32) (u1 : Value) (h0 : Heap) (n0 : Nat) (v : Option Value) (h : Heap) (L : List Loc) : Prop := ∃ vb : Addr, h0.size ≤ vb ∧ ∃ kb : ClassId, v = none ∧ Fr n0 L ∧ Keep h0 h [a1] ∧ Exa Z h a1 "java/lang/String" ∧ Fld Z h a1 "java/lang/String" "value" "[B" (.ref vb) ∧ Fld Z h a1 "java/lang/String" "coder" "B" (.int 0) ∧ Arv Z h vb kb .byte (3 : Int32) [(.int (own_lo c0)), (.int (own_lo c1)), (.int (own_lo c2))] (.int 0)
set_option maxRecDepth 65536 in
set_option maxHeartbeats 40000000 in
theorem rmIn2_30 (l : Launch) (Z : State) (a0 : Array Value) (hw : own_H Z a0) (ws : List Jvm.Cond) (a1 : Addr) (gz : Int32) (ca : Addr) (kc : ClassId) (c0 : Int32) (c1 : Int32) (c2 : Int32) (u1 : Value) (h0 : Heap) (n0 : Nat) (Z0 : n0 ≤ h0.size) (O0 : Old Z n0 h0) (S_COMPACT_STRINGS : Sta Z Z.heap "java/lang/String" "COMPACT_STRINGS" "Z" (.int gz)) (hgz : ¬ gz = (0 : Int32)) (E_a1 : Exa Z h0 a1 "java/lang/String") (F_value_a1 : Fld Z h0 a1 "java/lang/String" "value" "[B" .null) (F_coder_a1 : Fld Z h0 a1 "java/lang/String" "coder" "B" u1) (g_a1 : n0 ≤ a1) (V_ca : Arv Z h0 ca kc .char (3 : Int32) [(.int c0), (.int c1), (.int c2)] (.int 0)) (ne_a1_ca : a1 ≠ ca) (hl0 : ¬ (255 : Int32) < c0) (hl1 : ¬ (255 : Int32) < c1) (hl2 : ¬ (255 : Int32) < c2) :
    own_Met l (⟨"java/lang/String", "<init>", "([CIILjava/lang/Void;)V"⟩ : MethodName) jdk_42_method_149_code 6 none ws (own_rm 2 1 3 35) Z h0 #[(.ref a1), (.ref ca), (.int 0), (.int 3), .null] (Q_rmIn2_30 Z a1 gz ca kc c0 c1 c2 u1 h0 n0) := by
  refine own_met (plainFor_of_name pn_3) (fun m => ef_rmIn2_30 m a1 ca) ?_
  intro p e s m below meth c s₁ Φ hΦ X0 hx hby hml hown hnm hret hlk hZ e0
  have N0 := Fr.nil n0
  have B : own_B p c _ _ := ⟨hx, hby, hml⟩
  have K0 : Keep h0 h0 [a1] := Keep.refl _ _
  show own_G p e below Φ s₁ (mkF m 0 #[.val (.ref a1), .val (.ref ca), .val (.int 0), .val (.int 3), .val .null, .unset] [])
  refine o_aloadN X0 B d4_0 rfl rfl ?_
  obtain ⟨T1, X1, e1, st1⟩ := initO X0 hx hZ hown (wd_18 hw) (wd_19 hw) (wd_20 hw) e0 (g := (mkF m 1 #[.val (.ref a1), .val (.ref ca), .val (.int 0), .val (.int 3), .val .null, .unset] [(.ref a1)])) rfl (by rw [hml]; rfl) rfl (hb hby d4_1) (by decide) (W := 0) (by show 2 * 0 + _ ≤ _; exact Nat.le_of_eq rfl) (by decide)
  refine own_go st1 ?_
  refine o_iloadN X1 B d4_4 rfl ?_
  refine o_ifY X1 B 27 d4_5 (XT.i0_ne_t (by decide : ¬ ((3 : Int32) = (0 : Int32)))) rfl ?_
  obtain ⟨T2, X2, e2, st2⟩ := getS2 X1 hx hZ hown (host := "") (Or.inl (wd_47 hw)) Via.refl e1 (S_COMPACT_STRINGS.ext O0.2) (g := (mkF m 27 #[.val (.ref a1), .val (.ref ca), .val (.int 0), .val (.int 3), .val .null, .unset] [])) rfl (hb hby d4_27)
  refine own_go st2 ?_
  refine o_ifN X2 B d4_30 (XT.i0_eq_f hgz) ?_
  refine o_aloadN X2 B d4_33 rfl rfl ?_
  refine o_iloadN X2 B d4_34 rfl ?_
  show own_G p e below Φ T2 (mkF m 35 #[.val (.ref a1), .val (.ref ca), .val (.int 0), .val (.int 3), .val .null, .unset] [(.int 0), (.ref ca)])
  refine o_iloadN X2 B d4_35 rfl ?_
  refine o_cS (argsL := [(.ref ca), (.int 0), (.int 3)]) (rest := []) X2 B hZ hown (wd_48 hw) (wd_49 hw) (wd_51 hw) (wd_50 hw) (by decide) 0 (rmCmp3_0 l Z a0 hw [] ca kc c0 c1 c2 h0 n0 Z0 V_ca hl0 hl1 hl2) (by decide) (by decide) (lenOf pd_11 rfl) rfl rfl rfl d4_36 e2 (by decide) (by decide) rfl ?_
  rintro _ T3 _ X3 ⟨vb_3, ns_vb_3, kb_3, rfl, N3q, Kq3, p3_0⟩
  have N3 := Fr.app N0 N3q
  have ne_a1_vb_3 : a1 ≠ vb_3 := Nat.ne_of_lt (Nat.lt_of_lt_of_le E_a1.lt ns_vb_3)
  have ne_ca_vb_3 : ca ≠ vb_3 := Nat.ne_of_lt (Nat.lt_of_lt_of_le V_ca.lt ns_vb_3)
  have sz_vb_3 : h0.size ≤ vb_3 := Nat.le_trans K0.1 ns_vb_3
  have K3 := K0.trans Kq3 all0
  have g_vb_3 : n0 ≤ vb_3 := Nat.le_trans Z0 ns_vb_3
  have Zp3 : n0 ≤ T3.heap.size := Nat.le_trans Z0 Kq3.1
  have O4 := O0.keep Kq3 all0
  refine o_astore (L' := #[.val (.ref a1), .val (.ref ca), .val (.int 0), .val (.int 3), .val .null, .val (.ref vb_3)]) X3 B d4_39 rfl rfl ?_
  refine o_aloadN X3 B d4_41 rfl rfl ?_
  refine o_aload X3 B d4_42 rfl rfl ?_
  refine o_iloadN X3 B d4_44 rfl ?_
  refine o_cS (argsL := [(.ref vb_3), (.int 3)]) (rest := [(.ref a1)]) X3 B hZ hown (wd_55 hw) (wd_56 hw) (wd_57 hw) (wd_50 hw) (by decide) 1 (rmCfl3_3 l Z a0 hw [] vb_3 kb_3 ([(own_lo c0), (own_lo c1), (own_lo c2)]) T3.heap n0 Zp3 p3_0) (by decide) (by decide) (lenOf pd_12 rfl) rfl rfl rfl d4_45 rfl (by decide) (by decide) rfl ?_
  rintro _ T5 _ X5 ⟨rfl, N5q, hs5⟩
  have N5 := Fr.app N3 N5q
  have f6 : Exa Z T3.heap a1 "java/lang/String" := E_a1.keep Kq3
  have f7 : Fld Z T3.heap a1 "java/lang/String" "coder" "B" u1 := F_coder_a1.keep Kq3 nin0
  obtain ⟨T8, h8, X8, e8, W8, st8⟩ := putFN X5 hx hZ hown (wd_28 hw) Via.refl hs5 f7 f6 (Or.inr ⟨(wd_24 hw), rfl, hnm⟩) (wd_8 hw) (ty := .byte) (v' := (.int 0)) (by decide) rfl (fits_nar_byte (0 : Int32)) (g := (mkF m 48 #[.val (.ref a1), .val (.ref ca), .val (.int 0), .val (.int 3), .val .null, .val (.ref vb_3)] [(.int 0), (.ref a1)])) rfl rfl (hb hby d4_48)
  refine own_go st8 ?_
  have O9 := O4.wr W8 g_a1
  have N8 := Fr.snoc X8 N5 g_a1
  have K8 := K3.wr W8 (Or.inl (List.mem_of_getElem? (i := 0) rfl))
  have Zp8 : n0 ≤ h8.size := Nat.le_trans Zp3 (Keep.of_wr W8).1
  have f8w := f7.same W8
  show own_G p e below Φ T8 (mkF m 51 #[.val (.ref a1), .val (.ref ca), .val (.int 0), .val (.int 3), .val .null, .val (.ref vb_3)] [])
  refine o_aloadN X8 B d4_51 rfl rfl ?_
  refine o_aload X8 B d4_52 rfl rfl ?_
  have f10 : Exa Z h8 a1 "java/lang/String" := f6.wr W8
  have f11 : Fld Z T3.heap a1 "java/lang/String" "value" "[B" .null := F_value_a1.keep Kq3 nin0
  have f12 : Fld Z h8 a1 "java/lang/String" "value" "[B" .null := f11.other W8 (Or.inr (sl_0 hw))
  obtain ⟨T13, h13, X13, e13, W13, st13⟩ := putF X8 hx hZ hown (host := "") (Or.inl (wd_27 hw)) Via.refl e8 f12 f10 (Or.inr ⟨(wd_23 hw), rfl, hnm⟩) (wd_8 hw) (ty := (.array .byte)) (by decide) rfl rfl (g := (mkF m 54 #[.val (.ref a1), .val (.ref ca), .val (.int 0), .val (.int 3), .val .null, .val (.ref vb_3)] [(.ref vb_3), (.ref a1)])) rfl rfl (hb hby d4_54)
  refine own_go st13 ?_
  have O14 := O9.wr W13 g_a1
  have N13 := Fr.snoc X13 N8 g_a1
  have K13 := K8.wr W13 (Or.inl (List.mem_of_getElem? (i := 0) rfl))
  have Zp13 : n0 ≤ h13.size := Nat.le_trans Zp8 (Keep.of_wr W13).1
  have f13w := f12.same W13
  have f15 : Exa Z h13 a1 "java/lang/String" := f10.wr W13
  have f16 : Fld Z h13 a1 "java/lang/String" "coder" "B" (.int 0) := f8w.other W13 (Or.inr (sl_1 hw))
  have f17 : Arv Z h8 vb_3 kb_3 .byte (3 : Int32) [(.int (own_lo c0)), (.int (own_lo c1)), (.int (own_lo c2))] (.int 0) := p3_0.other W8 (Ne.symm ne_a1_vb_3)
  have f18 : Arv Z h13 vb_3 kb_3 .byte (3 : Int32) [(.int (own_lo c0)), (.int (own_lo c1)), (.int (own_lo c2))] (.int 0) := f17.other W13 (Ne.symm ne_a1_vb_3)
  rw [hΦ]
  refine own_ret X13 (v := none) (fun _ => rfl) hlk (fun fs hr => X13.returnOut hx hret (hb hby d4_57) hr) ?_ (by decide) (by decide)
  rw [e13]
  exact ⟨vb_3, sz_vb_3, kb_3, rfl, N13, K13, f15, f13w, f16, f18⟩
theorem ef_rmIn2_31 (m : MethodId) (a1 : Addr) (ca : Addr) : entryFrame m #[(.ref a1), (.ref ca), (.int 0), (.int 3), .null] 6 = mkF m 0 #[.val (.ref a1), .val (.ref ca), .val (.int 0), .val (.int 3), .val .null, .unset] [] := by first | (simp [entryFrame, mkF, argsToLocals, Value.category]; done) | rfl
def Q_rmIn2_31 (Z : State) (a1 : Addr) (gz : Int32) (ca : Addr) (kc : ClassId) (c0 : Int32) (c1 : Int32) (c2 : Int32) (u1 : Value) (h0 : Heap) (n0 : Nat) (v : Option Value) (h : Heap) (L : List Loc) : Prop := ∃ vb : Addr, h0.size ≤ vb ∧ ∃ kb : ClassId, v = none ∧ Fr n0 L ∧ Keep h0 h [a1] ∧ Exa Z h a1 "java/lang/String" ∧ Fld Z h a1 "java/lang/String" "value" "[B" (.ref vb) ∧ Fld Z h a1 "java/lang/String" "coder" "B" (.int 1) ∧ Arv Z h vb kb .byte (6 : Int32) [(.int (own_h0 c0)), (.int (own_h8 c0)), (.int (own_h0 c1)), (.int (own_h8 c1)), (.int (own_h0 c2)), (.int (own_h8 c2))] (.int 0)
set_option maxRecDepth 65536 in
set_option maxHeartbeats 40000000 in
theorem rmIn2_31 (l : Launch) (Z : State) (a0 : Array Value) (hw : own_H Z a0) (ws : List Jvm.Cond) (a1 : Addr) (gz : Int32) (ca : Addr) (kc : ClassId) (c0 : Int32) (c1 : Int32) (c2 : Int32) (u1 : Value) (h0 : Heap) (n0 : Nat) (Z0 : n0 ≤ h0.size) (O0 : Old Z n0 h0) (S_COMPACT_STRINGS : Sta Z Z.heap "java/lang/String" "COMPACT_STRINGS" "Z" (.int gz)) (hgz : ¬ gz = (0 : Int32)) (S__assertionsDisabled : Sta Z Z.heap "java/lang/StringUTF16" "$assertionsDisabled" "Z" (.int 1)) (S_HI_BYTE_SHIFT : Sta Z Z.heap "java/lang/StringUTF16" "HI_BYTE_SHIFT" "I" (.int 0)) (S_LO_BYTE_SHIFT : Sta Z Z.heap "java/lang/StringUTF16" "LO_BYTE_SHIFT" "I" (.int 8)) (E_a1 : Exa Z h0 a1 "java/lang/String") (F_value_a1 : Fld Z h0 a1 "java/lang/String" "value" "[B" .null) (F_coder_a1 : Fld Z h0 a1 "java/lang/String" "coder" "B" u1) (g_a1 : n0 ≤ a1) (V_ca : Arv Z h0 ca kc .char (3 : Int32) [(.int c0), (.int c1), (.int c2)] (.int 0)) (ne_a1_ca : a1 ≠ ca) (hr0 : ¬ c0 < 0 ∧ ¬ (65535 : Int32) < c0) (hr1 : ¬ c1 < 0 ∧ ¬ (65535 : Int32) < c1) (hr2 : ¬ c2 < 0 ∧ ¬ (65535 : Int32) < c2) (hex : (255 : Int32) < c0 ∨ (255 : Int32) < c1 ∨ (255 : Int32) < c2) :
    own_Met l (⟨"java/lang/String", "<init>", "([CIILjava/lang/Void;)V"⟩ : MethodName) jdk_42_method_149_code 6 none ws (own_rm 4 2 9 57) Z h0 #[(.ref a1), (.ref ca), (.int 0), (.int 3), .null] (Q_rmIn2_31 Z a1 gz ca kc c0 c1 c2 u1 h0 n0) := by
  refine own_met (plainFor_of_name pn_3) (fun m => ef_rmIn2_31 m a1 ca) ?_
  intro p e s m below meth c s₁ Φ hΦ X0 hx hby hml hown hnm hret hlk hZ e0
  have N0 := Fr.nil n0
  have B : own_B p c _ _ := ⟨hx, hby, hml⟩
  have K0 : Keep h0 h0 [a1] := Keep.refl _ _
  show own_G p e below Φ s₁ (mkF m 0 #[.val (.ref a1), .val (.ref ca), .val (.int 0), .val (.int 3), .val .null, .unset] [])
  refine o_aloadN X0 B d4_0 rfl rfl ?_
  obtain ⟨T1, X1, e1, st1⟩ := initO X0 hx hZ hown (wd_18 hw) (wd_19 hw) (wd_20 hw) e0 (g := (mkF m 1 #[.val (.ref a1), .val (.ref ca), .val (.int 0), .val (.int 3), .val .null, .unset] [(.ref a1)])) rfl (by rw [hml]; rfl) rfl (hb hby d4_1) (by decide) (W := 0) (by show 2 * 0 + _ ≤ _; exact Nat.le_of_eq rfl) (by decide)
  refine own_go st1 ?_
  refine o_iloadN X1 B d4_4 rfl ?_
  refine o_ifY X1 B 27 d4_5 (XT.i0_ne_t (by decide : ¬ ((3 : Int32) = (0 : Int32)))) rfl ?_
  obtain ⟨T2, X2, e2, st2⟩ := getS2 X1 hx hZ hown (host := "") (Or.inl (wd_47 hw)) Via.refl e1 (S_COMPACT_STRINGS.ext O0.2) (g := (mkF m 27 #[.val (.ref a1), .val (.ref ca), .val (.int 0), .val (.int 3), .val .null, .unset] [])) rfl (hb hby d4_27)
  refine own_go st2 ?_
  refine o_ifN X2 B d4_30 (XT.i0_eq_f hgz) ?_
  refine o_aloadN X2 B d4_33 rfl rfl ?_
  refine o_iloadN X2 B d4_34 rfl ?_
  show own_G p e below Φ T2 (mkF m 35 #[.val (.ref a1), .val (.ref ca), .val (.int 0), .val (.int 3), .val .null, .unset] [(.int 0), (.ref ca)])
  refine o_iloadN X2 B d4_35 rfl ?_
  refine o_cS (argsL := [(.ref ca), (.int 0), (.int 3)]) (rest := []) X2 B hZ hown (wd_48 hw) (wd_49 hw) (wd_51 hw) (wd_50 hw) (by decide) 0 (rmCmp3_1 l Z a0 hw [] ca kc c0 c1 c2 h0 n0 Z0 O0 S__assertionsDisabled S_HI_BYTE_SHIFT S_LO_BYTE_SHIFT V_ca hr0 hr1 hr2 hex) (by decide) (by decide) (lenOf pd_11 rfl) rfl rfl rfl d4_36 e2 (by decide) (by decide) rfl ?_
  rintro _ T3 _ X3 ⟨vb_3, ns_vb_3, kb_3, rfl, N3q, Kq3, p3_0⟩
  have N3 := Fr.app N0 N3q
  have ne_a1_vb_3 : a1 ≠ vb_3 := Nat.ne_of_lt (Nat.lt_of_lt_of_le E_a1.lt ns_vb_3)
  have ne_ca_vb_3 : ca ≠ vb_3 := Nat.ne_of_lt (Nat.lt_of_lt_of_le V_ca.lt ns_vb_3)
  have sz_vb_3 : h0.size ≤ vb_3 := Nat.le_trans K0.1 ns_vb_3
  have K3 := K0.trans Kq3 all0
  have g_vb_3 : n0 ≤ vb_3 := Nat.le_trans Z0 ns_vb_3
  have Zp3 : n0 ≤ T3.heap.size := Nat.le_trans Z0 Kq3.1
  have O4 := O0.keep Kq3 all0
  refine o_astore (L' := #[.val (.ref a1), .val (.ref ca), .val (.int 0), .val (.int 3), .val .null, .val (.ref vb_3)]) X3 B d4_39 rfl rfl ?_
  refine o_aloadN X3 B d4_41 rfl rfl ?_
  refine o_aload X3 B d4_42 rfl rfl ?_
  refine o_iloadN X3 B d4_44 rfl ?_
  refine o_cS (argsL := [(.ref vb_3), (.int 3)]) (rest := [(.ref a1)]) X3 B hZ hown (wd_55 hw) (wd_56 hw) (wd_57 hw) (wd_50 hw) (by decide) 1 (rmCfl3_6 l Z a0 hw [] vb_3 kb_3 ([(own_h0 c0), (own_h8 c0), (own_h0 c1), (own_h8 c1), (own_h0 c2), (own_h8 c2)]) T3.heap n0 Zp3 p3_0) (by decide) (by decide) (lenOf pd_12 rfl) rfl rfl rfl d4_45 rfl (by decide) (by decide) rfl ?_
  rintro _ T5 _ X5 ⟨rfl, N5q, hs5⟩
  have N5 := Fr.app N3 N5q
  have f6 : Exa Z T3.heap a1 "java/lang/String" := E_a1.keep Kq3
  have f7 : Fld Z T3.heap a1 "java/lang/String" "coder" "B" u1 := F_coder_a1.keep Kq3 nin0
  obtain ⟨T8, h8, X8, e8, W8, st8⟩ := putFN X5 hx hZ hown (wd_28 hw) Via.refl hs5 f7 f6 (Or.inr ⟨(wd_24 hw), rfl, hnm⟩) (wd_8 hw) (ty := .byte) (v' := (.int 1)) (by decide) rfl (fits_nar_byte (1 : Int32)) (g := (mkF m 48 #[.val (.ref a1), .val (.ref ca), .val (.int 0), .val (.int 3), .val .null, .val (.ref vb_3)] [(.int 1), (.ref a1)])) rfl rfl (hb hby d4_48)
  refine own_go st8 ?_
  have O9 := O4.wr W8 g_a1
  have N8 := Fr.snoc X8 N5 g_a1
  have K8 := K3.wr W8 (Or.inl (List.mem_of_getElem? (i := 0) rfl))
  have Zp8 : n0 ≤ h8.size := Nat.le_trans Zp3 (Keep.of_wr W8).1
  have f8w := f7.same W8
  show own_G p e below Φ T8 (mkF m 51 #[.val (.ref a1), .val (.ref ca), .val (.int 0), .val (.int 3), .val .null, .val (.ref vb_3)] [])
  refine o_aloadN X8 B d4_51 rfl rfl ?_
  refine o_aload X8 B d4_52 rfl rfl ?_
  have f10 : Exa Z h8 a1 "java/lang/String" := f6.wr W8
  have f11 : Fld Z T3.heap a1 "java/lang/String" "value" "[B" .null := F_value_a1.keep Kq3 nin0
  have f12 : Fld Z h8 a1 "java/lang/String" "value" "[B" .null := f11.other W8 (Or.inr (sl_0 hw))
  obtain ⟨T13, h13, X13, e13, W13, st13⟩ := putF X8 hx hZ hown (host := "") (Or.inl (wd_27 hw)) Via.refl e8 f12 f10 (Or.inr ⟨(wd_23 hw), rfl, hnm⟩) (wd_8 hw) (ty := (.array .byte)) (by decide) rfl rfl (g := (mkF m 54 #[.val (.ref a1), .val (.ref ca), .val (.int 0), .val (.int 3), .val .null, .val (.ref vb_3)] [(.ref vb_3), (.ref a1)])) rfl rfl (hb hby d4_54)
  refine own_go st13 ?_
  have O14 := O9.wr W13 g_a1
  have N13 := Fr.snoc X13 N8 g_a1
  have K13 := K8.wr W13 (Or.inl (List.mem_of_getElem? (i := 0) rfl))
  have Zp13 : n0 ≤ h13.size := Nat.le_trans Zp8 (Keep.of_wr W13).1
  have f13w := f12.same W13
  have f15 : Exa Z h13 a1 "java/lang/String" := f10.wr W13
  have f16 : Fld Z h13 a1 "java/lang/String" "coder" "B" (.int 1) := f8w.other W13 (Or.inr (sl_1 hw))
  have f17 : Arv Z h8 vb_3 kb_3 .byte (6 : Int32) [(.int (own_h0 c0)), (.int (own_h8 c0)), (.int (own_h0 c1)), (.int (own_h8 c1)), (.int (own_h0 c2)), (.int (own_h8 c2))] (.int 0) := p3_0.other W8 (Ne.symm ne_a1_vb_3)
  have f18 : Arv Z h13 vb_3 kb_3 .byte (6 : Int32) [(.int (own_h0 c0)), (.int (own_h8 c0)), (.int (own_h0 c1)), (.int (own_h8 c1)), (.int (own_h0 c2)), (.int (own_h8 c2))] (.int 0) := f17.other W13 (Ne.symm ne_a1_vb_3)
  rw [hΦ]
  refine own_ret X13 (v := none) (fun _ => rfl) hlk (fun fs hr => X13.returnOut hx hret (hb hby d4_57) hr) ?_ (by decide) (by decide)
  rw [e13]
  exact ⟨vb_3, sz_vb_3, kb_3, rfl, N13, K13, f15, f13w, f16, f18⟩
theorem ef_rmIn2_40 (m : MethodId) (a1 : Addr) (ca : Addr) : entryFrame m #[(.ref a1), (.ref ca), (.int 0), (.int 4), .null] 6 = mkF m 0 #[.val (.ref a1), .val (.ref ca), .val (.int 0), .val (.int 4), .val .null, .unset] [] := by first | (simp [entryFrame, mkF, argsToLocals, Value.category]; done) | rfl
def Q_rmIn2_40 (Z : State) (a1 : Addr) (gz : Int32) (ca : Addr) (kc : ClassId) (c0 : Int32) (c1 : Int32) (c2 : Int32) (c3 : Int32) (u1 : Value) (h0 : Heap) (n0 : Nat) (v : Option Value) (h : Heap) (L : List Loc) : Prop := ∃ vb : Addr, h0.size ≤ vb ∧ ∃ kb : ClassId, v = none ∧ Fr n0 L ∧ Keep h0 h [a1] ∧ Exa Z h a1 "java/lang/String" ∧ Fld Z h a1 "java/lang/String" "value" "[B" (.ref vb) ∧ Fld Z h a1 "java/lang/String" "coder" "B" (.int 0) ∧ Arv Z h vb kb .byte (4 : Int32) [(.int (own_lo c0)), (.int (own_lo c1)), (.int (own_lo c2)), (.int (own_lo c3))] (.int 0)
set_option maxRecDepth 65536 in
set_option maxHeartbeats 40000000 in
theorem rmIn2_40 (l : Launch) (Z : State) (a0 : Array Value) (hw : own_H Z a0) (ws : List Jvm.Cond) (a1 : Addr) (gz : Int32) (ca : Addr) (kc : ClassId) (c0 : Int32) (c1 : Int32) (c2 : Int32) (c3 : Int32) (u1 : Value) (h0 : Heap) (n0 : Nat) (Z0 : n0 ≤ h0.size) (O0 : Old Z n0 h0) (S_COMPACT_STRINGS : Sta Z Z.heap "java/lang/String" "COMPACT_STRINGS" "Z" (.int gz)) (hgz : ¬ gz = (0 : Int32)) (E_a1 : Exa Z h0 a1 "java/lang/String") (F_value_a1 : Fld Z h0 a1 "java/lang/String" "value" "[B" .null) (F_coder_a1 : Fld Z h0 a1 "java/lang/String" "coder" "B" u1) (g_a1 : n0 ≤ a1) (V_ca : Arv Z h0 ca kc .char (4 : Int32) [(.int c0), (.int c1), (.int c2), (.int c3)] (.int 0)) (ne_a1_ca : a1 ≠ ca) (hl0 : ¬ (255 : Int32) < c0) (hl1 : ¬ (255 : Int32) < c1) (hl2 : ¬ (255 : Int32) < c2) (hl3 : ¬ (255 : Int32) < c3) :
    own_Met l (⟨"java/lang/String", "<init>", "([CIILjava/lang/Void;)V"⟩ : MethodName) jdk_42_method_149_code 6 none ws (own_rm 2 1 4 35) Z h0 #[(.ref a1), (.ref ca), (.int 0), (.int 4), .null] (Q_rmIn2_40 Z a1 gz ca kc c0 c1 c2 c3 u1 h0 n0) := by
  refine own_met (plainFor_of_name pn_3) (fun m => ef_rmIn2_40 m a1 ca) ?_
  intro p e s m below meth c s₁ Φ hΦ X0 hx hby hml hown hnm hret hlk hZ e0
  have N0 := Fr.nil n0
  have B : own_B p c _ _ := ⟨hx, hby, hml⟩
  have K0 : Keep h0 h0 [a1] := Keep.refl _ _
  show own_G p e below Φ s₁ (mkF m 0 #[.val (.ref a1), .val (.ref ca), .val (.int 0), .val (.int 4), .val .null, .unset] [])
  refine o_aloadN X0 B d4_0 rfl rfl ?_
  obtain ⟨T1, X1, e1, st1⟩ := initO X0 hx hZ hown (wd_18 hw) (wd_19 hw) (wd_20 hw) e0 (g := (mkF m 1 #[.val (.ref a1), .val (.ref ca), .val (.int 0), .val (.int 4), .val .null, .unset] [(.ref a1)])) rfl (by rw [hml]; rfl) rfl (hb hby d4_1) (by decide) (W := 0) (by show 2 * 0 + _ ≤ _; exact Nat.le_of_eq rfl) (by decide)
  refine own_go st1 ?_
  refine o_iloadN X1 B d4_4 rfl ?_
  refine o_ifY X1 B 27 d4_5 (XT.i0_ne_t (by decide : ¬ ((4 : Int32) = (0 : Int32)))) rfl ?_
  obtain ⟨T2, X2, e2, st2⟩ := getS2 X1 hx hZ hown (host := "") (Or.inl (wd_47 hw)) Via.refl e1 (S_COMPACT_STRINGS.ext O0.2) (g := (mkF m 27 #[.val (.ref a1), .val (.ref ca), .val (.int 0), .val (.int 4), .val .null, .unset] [])) rfl (hb hby d4_27)
  refine own_go st2 ?_
  refine o_ifN X2 B d4_30 (XT.i0_eq_f hgz) ?_
  refine o_aloadN X2 B d4_33 rfl rfl ?_
  refine o_iloadN X2 B d4_34 rfl ?_
  show own_G p e below Φ T2 (mkF m 35 #[.val (.ref a1), .val (.ref ca), .val (.int 0), .val (.int 4), .val .null, .unset] [(.int 0), (.ref ca)])
  refine o_iloadN X2 B d4_35 rfl ?_
  refine o_cS (argsL := [(.ref ca), (.int 0), (.int 4)]) (rest := []) X2 B hZ hown (wd_48 hw) (wd_49 hw) (wd_51 hw) (wd_50 hw) (by decide) 0 (rmCmp4_0 l Z a0 hw [] ca kc c0 c1 c2 c3 h0 n0 Z0 V_ca hl0 hl1 hl2 hl3) (by decide) (by decide) (lenOf pd_11 rfl) rfl rfl rfl d4_36 e2 (by decide) (by decide) rfl ?_
  rintro _ T3 _ X3 ⟨vb_3, ns_vb_3, kb_3, rfl, N3q, Kq3, p3_0⟩
  have N3 := Fr.app N0 N3q
  have ne_a1_vb_3 : a1 ≠ vb_3 := Nat.ne_of_lt (Nat.lt_of_lt_of_le E_a1.lt ns_vb_3)
  have ne_ca_vb_3 : ca ≠ vb_3 := Nat.ne_of_lt (Nat.lt_of_lt_of_le V_ca.lt ns_vb_3)
  have sz_vb_3 : h0.size ≤ vb_3 := Nat.le_trans K0.1 ns_vb_3
  have K3 := K0.trans Kq3 all0
  have g_vb_3 : n0 ≤ vb_3 := Nat.le_trans Z0 ns_vb_3
  have Zp3 : n0 ≤ T3.heap.size := Nat.le_trans Z0 Kq3.1
  have O4 := O0.keep Kq3 all0
  refine o_astore (L' := #[.val (.ref a1), .val (.ref ca), .val (.int 0), .val (.int 4), .val .null, .val (.ref vb_3)]) X3 B d4_39 rfl rfl ?_
  refine o_aloadN X3 B d4_41 rfl rfl ?_
  refine o_aload X3 B d4_42 rfl rfl ?_
  refine o_iloadN X3 B d4_44 rfl ?_
  refine o_cS (argsL := [(.ref vb_3), (.int 4)]) (rest := [(.ref a1)]) X3 B hZ hown (wd_55 hw) (wd_56 hw) (wd_57 hw) (wd_50 hw) (by decide) 1 (rmCfl4_4 l Z a0 hw [] vb_3 kb_3 ([(own_lo c0), (own_lo c1), (own_lo c2), (own_lo c3)]) T3.heap n0 Zp3 p3_0) (by decide) (by decide) (lenOf pd_12 rfl) rfl rfl rfl d4_45 rfl (by decide) (by decide) rfl ?_
  rintro _ T5 _ X5 ⟨rfl, N5q, hs5⟩
  have N5 := Fr.app N3 N5q
  have f6 : Exa Z T3.heap a1 "java/lang/String" := E_a1.keep Kq3
  have f7 : Fld Z T3.heap a1 "java/lang/String" "coder" "B" u1 := F_coder_a1.keep Kq3 nin0
  obtain ⟨T8, h8, X8, e8, W8, st8⟩ := putFN X5 hx hZ hown (wd_28 hw) Via.refl hs5 f7 f6 (Or.inr ⟨(wd_24 hw), rfl, hnm⟩) (wd_8 hw) (ty := .byte) (v' := (.int 0)) (by decide) rfl (fits_nar_byte (0 : Int32)) (g := (mkF m 48 #[.val (.ref a1), .val (.ref ca), .val (.int 0), .val (.int 4), .val .null, .val (.ref vb_3)] [(.int 0), (.ref a1)])) rfl rfl (hb hby d4_48)
  refine own_go st8 ?_
  have O9 := O4.wr W8 g_a1
  have N8 := Fr.snoc X8 N5 g_a1
  have K8 := K3.wr W8 (Or.inl (List.mem_of_getElem? (i := 0) rfl))
  have Zp8 : n0 ≤ h8.size := Nat.le_trans Zp3 (Keep.of_wr W8).1
  have f8w := f7.same W8
  show own_G p e below Φ T8 (mkF m 51 #[.val (.ref a1), .val (.ref ca), .val (.int 0), .val (.int 4), .val .null, .val (.ref vb_3)] [])
  refine o_aloadN X8 B d4_51 rfl rfl ?_
  refine o_aload X8 B d4_52 rfl rfl ?_
  have f10 : Exa Z h8 a1 "java/lang/String" := f6.wr W8
  have f11 : Fld Z T3.heap a1 "java/lang/String" "value" "[B" .null := F_value_a1.keep Kq3 nin0
  have f12 : Fld Z h8 a1 "java/lang/String" "value" "[B" .null := f11.other W8 (Or.inr (sl_0 hw))
  obtain ⟨T13, h13, X13, e13, W13, st13⟩ := putF X8 hx hZ hown (host := "") (Or.inl (wd_27 hw)) Via.refl e8 f12 f10 (Or.inr ⟨(wd_23 hw), rfl, hnm⟩) (wd_8 hw) (ty := (.array .byte)) (by decide) rfl rfl (g := (mkF m 54 #[.val (.ref a1), .val (.ref ca), .val (.int 0), .val (.int 4), .val .null, .val (.ref vb_3)] [(.ref vb_3), (.ref a1)])) rfl rfl (hb hby d4_54)
  refine own_go st13 ?_
  have O14 := O9.wr W13 g_a1
  have N13 := Fr.snoc X13 N8 g_a1
  have K13 := K8.wr W13 (Or.inl (List.mem_of_getElem? (i := 0) rfl))
  have Zp13 : n0 ≤ h13.size := Nat.le_trans Zp8 (Keep.of_wr W13).1
  have f13w := f12.same W13
  have f15 : Exa Z h13 a1 "java/lang/String" := f10.wr W13
  have f16 : Fld Z h13 a1 "java/lang/String" "coder" "B" (.int 0) := f8w.other W13 (Or.inr (sl_1 hw))
  have f17 : Arv Z h8 vb_3 kb_3 .byte (4 : Int32) [(.int (own_lo c0)), (.int (own_lo c1)), (.int (own_lo c2)), (.int (own_lo c3))] (.int 0) := p3_0.other W8 (Ne.symm ne_a1_vb_3)
  have f18 : Arv Z h13 vb_3 kb_3 .byte (4 : Int32) [(.int (own_lo c0)), (.int (own_lo c1)), (.int (own_lo c2)), (.int (own_lo c3))] (.int 0) := f17.other W13 (Ne.symm ne_a1_vb_3)
  rw [hΦ]
  refine own_ret X13 (v := none) (fun _ => rfl) hlk (fun fs hr => X13.returnOut hx hret (hb hby d4_57) hr) ?_ (by decide) (by decide)
  rw [e13]
  exact ⟨vb_3, sz_vb_3, kb_3, rfl, N13, K13, f15, f13w, f16, f18⟩
theorem ef_rmIn2_41 (m : MethodId) (a1 : Addr) (ca : Addr) : entryFrame m #[(.ref a1), (.ref ca), (.int 0), (.int 4), .null] 6 = mkF m 0 #[.val (.ref a1), .val (.ref ca), .val (.int 0), .val (.int 4), .val .null, .unset] [] := by first | (simp [entryFrame, mkF, argsToLocals, Value.category]; done) | rfl
def Q_rmIn2_41 (Z : State) (a1 : Addr) (gz : Int32) (ca : Addr) (kc : ClassId) (c0 : Int32) (c1 : Int32) (c2 : Int32) (c3 : Int32) (u1 : Value) (h0 : Heap) (n0 : Nat) (v : Option Value) (h : Heap) (L : List Loc) : Prop := ∃ vb : Addr, h0.size ≤ vb ∧ ∃ kb : ClassId, v = none ∧ Fr n0 L ∧ Keep h0 h [a1] ∧ Exa Z h a1 "java/lang/String" ∧ Fld Z h a1 "java/lang/String" "value" "[B" (.ref vb) ∧ Fld Z h a1 "java/lang/String" "coder" "B" (.int 1) ∧ Arv Z h vb kb .byte (8 : Int32) [(.int (own_h0 c0)), (.int (own_h8 c0)), (.int (own_h0 c1)), (.int (own_h8 c1)), (.int (own_h0 c2)), (.int (own_h8 c2)), (.int (own_h0 c3)), (.int (own_h8 c3))] (.int 0)
set_option maxRecDepth 65536 in
set_option maxHeartbeats 40000000 in
theorem rmIn2_41 (l : Launch) (Z : State) (a0 : Array Value) (hw : own_H Z a0) (ws : List Jvm.Cond) (a1 : Addr) (gz : Int32) (ca : Addr) (kc : ClassId) (c0 : Int32) (c1 : Int32) (c2 : Int32) (c3 : Int32) (u1 : Value) (h0 : Heap) (n0 : Nat) (Z0 : n0 ≤ h0.size) (O0 : Old Z n0 h0) (S_COMPACT_STRINGS : Sta Z Z.heap "java/lang/String" "COMPACT_STRINGS" "Z" (.int gz)) (hgz : ¬ gz = (0 : Int32)) (S__assertionsDisabled : Sta Z Z.heap "java/lang/StringUTF16" "$assertionsDisabled" "Z" (.int 1)) (S_HI_BYTE_SHIFT : Sta Z Z.heap "java/lang/StringUTF16" "HI_BYTE_SHIFT" "I" (.int 0)) (S_LO_BYTE_SHIFT : Sta Z Z.heap "java/lang/StringUTF16" "LO_BYTE_SHIFT" "I" (.int 8)) (E_a1 : Exa Z h0 a1 "java/lang/String") (F_value_a1 : Fld Z h0 a1 "java/lang/String" "value" "[B" .null) (F_coder_a1 : Fld Z h0 a1 "java/lang/String" "coder" "B" u1) (g_a1 : n0 ≤ a1) (V_ca : Arv Z h0 ca kc .char (4 : Int32) [(.int c0), (.int c1), (.int c2), (.int c3)] (.int 0)) (ne_a1_ca : a1 ≠ ca) (hr0 : ¬ c0 < 0 ∧ ¬ (65535 : Int32) < c0) (hr1 : ¬ c1 < 0 ∧ ¬ (65535 : Int32) < c1) (hr2 : ¬ c2 < 0 ∧ ¬ (65535 : Int32) < c2) (hr3 : ¬ c3 < 0 ∧ ¬ (65535 : Int32) < c3) (hex : (255 : Int32) < c0 ∨ (255 : Int32) < c1 ∨ (255 : Int32) < c2 ∨ (255 : Int32) < c3) :
    own_Met l (⟨"java/lang/String", "<init>", "([CIILjava/lang/Void;)V"⟩ : MethodName) jdk_42_method_149_code 6 none ws (own_rm 4 2 12 57) Z h0 #[(.ref a1), (.ref ca), (.int 0), (.int 4), .null] (Q_rmIn2_41 Z a1 gz ca kc c0 c1 c2 c3 u1 h0 n0) := by
  refine own_met (plainFor_of_name pn_3) (fun m => ef_rmIn2_41 m a1 ca) ?_
  intro p e s m below meth c s₁ Φ hΦ X0 hx hby hml hown hnm hret hlk hZ e0
  have N0 := Fr.nil n0
  have B : own_B p c _ _ := ⟨hx, hby, hml⟩
  have K0 : Keep h0 h0 [a1] := Keep.refl _ _
  show own_G p e below Φ s₁ (mkF m 0 #[.val (.ref a1), .val (.ref ca), .val (.int 0), .val (.int 4), .val .null, .unset] [])
  refine o_aloadN X0 B d4_0 rfl rfl ?_
  obtain ⟨T1, X1, e1, st1⟩ := initO X0 hx hZ hown (wd_18 hw) (wd_19 hw) (wd_20 hw) e0 (g := (mkF m 1 #[.val (.ref a1), .val (.ref ca), .val (.int 0), .val (.int 4), .val .null, .unset] [(.ref a1)])) rfl (by rw [hml]; rfl) rfl (hb hby d4_1) (by decide) (W := 0) (by show 2 * 0 + _ ≤ _; exact Nat.le_of_eq rfl) (by decide)
  refine own_go st1 ?_
  refine o_iloadN X1 B d4_4 rfl ?_
  refine o_ifY X1 B 27 d4_5 (XT.i0_ne_t (by decide : ¬ ((4 : Int32) = (0 : Int32)))) rfl ?_
  obtain ⟨T2, X2, e2, st2⟩ := getS2 X1 hx hZ hown (host := "") (Or.inl (wd_47 hw)) Via.refl e1 (S_COMPACT_STRINGS.ext O0.2) (g := (mkF m 27 #[.val (.ref a1), .val (.ref ca), .val (.int 0), .val (.int 4), .val .null, .unset] [])) rfl (hb hby d4_27)
  refine own_go st2 ?_
  refine o_ifN X2 B d4_30 (XT.i0_eq_f hgz) ?_
  refine o_aloadN X2 B d4_33 rfl rfl ?_
  refine o_iloadN X2 B d4_34 rfl ?_
  show own_G p e below Φ T2 (mkF m 35 #[.val (.ref a1), .val (.ref ca), .val (.int 0), .val (.int 4), .val .null, .unset] [(.int 0), (.ref ca)])
  refine o_iloadN X2 B d4_35 rfl ?_
  refine o_cS (argsL := [(.ref ca), (.int 0), (.int 4)]) (rest := []) X2 B hZ hown (wd_48 hw) (wd_49 hw) (wd_51 hw) (wd_50 hw) (by decide) 0 (rmCmp4_1 l Z a0 hw [] ca kc c0 c1 c2 c3 h0 n0 Z0 O0 S__assertionsDisabled S_HI_BYTE_SHIFT S_LO_BYTE_SHIFT V_ca hr0 hr1 hr2 hr3 hex) (by decide) (by decide) (lenOf pd_11 rfl) rfl rfl rfl d4_36 e2 (by decide) (by decide) rfl ?_
  rintro _ T3 _ X3 ⟨vb_3, ns_vb_3, kb_3, rfl, N3q, Kq3, p3_0⟩
  have N3 := Fr.app N0 N3q
  have ne_a1_vb_3 : a1 ≠ vb_3 := Nat.ne_of_lt (Nat.lt_of_lt_of_le E_a1.lt ns_vb_3)
  have ne_ca_vb_3 : ca ≠ vb_3 := Nat.ne_of_lt (Nat.lt_of_lt_of_le V_ca.lt ns_vb_3)
  have sz_vb_3 : h0.size ≤ vb_3 := Nat.le_trans K0.1 ns_vb_3
  have K3 := K0.trans Kq3 all0
  have g_vb_3 : n0 ≤ vb_3 := Nat.le_trans Z0 ns_vb_3
  have Zp3 : n0 ≤ T3.heap.size := Nat.le_trans Z0 Kq3.1
  have O4 := O0.keep Kq3 all0
  refine o_astore (L' := #[.val (.ref a1), .val (.ref ca), .val (.int 0), .val (.int 4), .val .null, .val (.ref vb_3)]) X3 B d4_39 rfl rfl ?_
  refine o_aloadN X3 B d4_41 rfl rfl ?_
  refine o_aload X3 B d4_42 rfl rfl ?_
  refine o_iloadN X3 B d4_44 rfl ?_
  refine o_cS (argsL := [(.ref vb_3), (.int 4)]) (rest := [(.ref a1)]) X3 B hZ hown (wd_55 hw) (wd_56 hw) (wd_57 hw) (wd_50 hw) (by decide) 1 (rmCfl4_8 l Z a0 hw [] vb_3 kb_3 ([(own_h0 c0), (own_h8 c0), (own_h0 c1), (own_h8 c1), (own_h0 c2), (own_h8 c2), (own_h0 c3), (own_h8 c3)]) T3.heap n0 Zp3 p3_0) (by decide) (by decide) (lenOf pd_12 rfl) rfl rfl rfl d4_45 rfl (by decide) (by decide) rfl ?_
  rintro _ T5 _ X5 ⟨rfl, N5q, hs5⟩
  have N5 := Fr.app N3 N5q
  have f6 : Exa Z T3.heap a1 "java/lang/String" := E_a1.keep Kq3
  have f7 : Fld Z T3.heap a1 "java/lang/String" "coder" "B" u1 := F_coder_a1.keep Kq3 nin0
  obtain ⟨T8, h8, X8, e8, W8, st8⟩ := putFN X5 hx hZ hown (wd_28 hw) Via.refl hs5 f7 f6 (Or.inr ⟨(wd_24 hw), rfl, hnm⟩) (wd_8 hw) (ty := .byte) (v' := (.int 1)) (by decide) rfl (fits_nar_byte (1 : Int32)) (g := (mkF m 48 #[.val (.ref a1), .val (.ref ca), .val (.int 0), .val (.int 4), .val .null, .val (.ref vb_3)] [(.int 1), (.ref a1)])) rfl rfl (hb hby d4_48)
  refine own_go st8 ?_
  have O9 := O4.wr W8 g_a1
  have N8 := Fr.snoc X8 N5 g_a1
  have K8 := K3.wr W8 (Or.inl (List.mem_of_getElem? (i := 0) rfl))
  have Zp8 : n0 ≤ h8.size := Nat.le_trans Zp3 (Keep.of_wr W8).1
  have f8w := f7.same W8
  show own_G p e below Φ T8 (mkF m 51 #[.val (.ref a1), .val (.ref ca), .val (.int 0), .val (.int 4), .val .null, .val (.ref vb_3)] [])
  refine o_aloadN X8 B d4_51 rfl rfl ?_
  refine o_aload X8 B d4_52 rfl rfl ?_
  have f10 : Exa Z h8 a1 "java/lang/String" := f6.wr W8
  have f11 : Fld Z T3.heap a1 "java/lang/String" "value" "[B" .null := F_value_a1.keep Kq3 nin0
  have f12 : Fld Z h8 a1 "java/lang/String" "value" "[B" .null := f11.other W8 (Or.inr (sl_0 hw))
  obtain ⟨T13, h13, X13, e13, W13, st13⟩ := putF X8 hx hZ hown (host := "") (Or.inl (wd_27 hw)) Via.refl e8 f12 f10 (Or.inr ⟨(wd_23 hw), rfl, hnm⟩) (wd_8 hw) (ty := (.array .byte)) (by decide) rfl rfl (g := (mkF m 54 #[.val (.ref a1), .val (.ref ca), .val (.int 0), .val (.int 4), .val .null, .val (.ref vb_3)] [(.ref vb_3), (.ref a1)])) rfl rfl (hb hby d4_54)
  refine own_go st13 ?_
  have O14 := O9.wr W13 g_a1
  have N13 := Fr.snoc X13 N8 g_a1
  have K13 := K8.wr W13 (Or.inl (List.mem_of_getElem? (i := 0) rfl))
  have Zp13 : n0 ≤ h13.size := Nat.le_trans Zp8 (Keep.of_wr W13).1
  have f13w := f12.same W13
  have f15 : Exa Z h13 a1 "java/lang/String" := f10.wr W13
  have f16 : Fld Z h13 a1 "java/lang/String" "coder" "B" (.int 1) := f8w.other W13 (Or.inr (sl_1 hw))
  have f17 : Arv Z h8 vb_3 kb_3 .byte (8 : Int32) [(.int (own_h0 c0)), (.int (own_h8 c0)), (.int (own_h0 c1)), (.int (own_h8 c1)), (.int (own_h0 c2)), (.int (own_h8 c2)), (.int (own_h0 c3)), (.int (own_h8 c3))] (.int 0) := p3_0.other W8 (Ne.symm ne_a1_vb_3)
  have f18 : Arv Z h13 vb_3 kb_3 .byte (8 : Int32) [(.int (own_h0 c0)), (.int (own_h8 c0)), (.int (own_h0 c1)), (.int (own_h8 c1)), (.int (own_h0 c2)), (.int (own_h8 c2)), (.int (own_h0 c3)), (.int (own_h8 c3))] (.int 0) := f17.other W13 (Ne.symm ne_a1_vb_3)
  rw [hΦ]
  refine own_ret X13 (v := none) (fun _ => rfl) hlk (fun fs hr => X13.returnOut hx hret (hb hby d4_57) hr) ?_ (by decide) (by decide)
  rw [e13]
  exact ⟨vb_3, sz_vb_3, kb_3, rfl, N13, K13, f15, f13w, f16, f18⟩
theorem d3_0 : decode jdk_42_method_3_code 0 = .ok (.aload_n 0, 1) := by decide +kernel
theorem d3_1 : decode jdk_42_method_3_code 1 = .ok (.aload_n 1, 1) := by decide +kernel
theorem d3_2 : decode jdk_42_method_3_code 2 = .ok (.iconst 0, 1) := by decide +kernel
theorem d3_3 : decode jdk_42_method_3_code 3 = .ok (.aload_n 1, 1) := by decide +kernel
theorem d3_4 : decode jdk_42_method_3_code 4 = .ok (.arraylength, 1) := by decide +kernel
theorem d3_5 : decode jdk_42_method_3_code 5 = .ok (.aconst_null, 1) := by decide +kernel
theorem d3_6 : decode jdk_42_method_3_code 6 = .ok (.invokespecial 27, 3) := by decide +kernel
theorem wd_14 {Z : State} {a0 : Array Value} (hw : own_H Z a0) : ((Jvm.Cond.methodLink "java/lang/String" (27 : Nat) ({ cls := "java/lang/String", name := "<init>", desc := "([CIILjava/lang/Void;)V" } : Jvm.MethodName)) : Jvm.Cond).before a0 Z = true := hw _ (List.mem_of_getElem? (i := 14) rfl)
theorem wd_17 {Z : State} {a0 : Array Value} (hw : own_H Z a0) : ((Jvm.Cond.code ({ cls := "java/lang/String", name := "<init>", desc := "([CIILjava/lang/Void;)V" } : Jvm.MethodName) jdk_42_method_149_code (6 : Nat) (Option.none : Option Jvm.ClassFile.FieldType)) : Jvm.Cond).before a0 Z = true := hw _ (List.mem_of_getElem? (i := 17) rfl)
theorem pd_13 : parseMethodDescriptor "([CIILjava/lang/Void;)V" = some ⟨[(.array .char), .int, .int, (.object "java/lang/Void")], none⟩ := by decide +kernel
theorem wd_15 {Z : State} {a0 : Array Value} (hw : own_H Z a0) : ((Jvm.Cond.instanceMethod ({ cls := "java/lang/String", name := "<init>", desc := "([CIILjava/lang/Void;)V" } : Jvm.MethodName)) : Jvm.Cond).before a0 Z = true := hw _ (List.mem_of_getElem? (i := 15) rfl)
theorem d3_9 : decode jdk_42_method_3_code 9 = .ok (.return_, 1) := by decide +kernel
theorem ef_rmIn1_10 (m : MethodId) (a1 : Addr) (ca : Addr) : entryFrame m #[(.ref a1), (.ref ca)] 2 = mkF m 0 #[.val (.ref a1), .val (.ref ca)] [] := by first | (simp [entryFrame, mkF, argsToLocals, Value.category]; done) | rfl
def Q_rmIn1_10 (Z : State) (a1 : Addr) (gz : Int32) (ca : Addr) (kc : ClassId) (c0 : Int32) (u1 : Value) (h0 : Heap) (n0 : Nat) (v : Option Value) (h : Heap) (L : List Loc) : Prop := ∃ vb : Addr, h0.size ≤ vb ∧ ∃ kb : ClassId, v = none ∧ Fr n0 L ∧ Keep h0 h [a1] ∧ Exa Z h a1 "java/lang/String" ∧ Fld Z h a1 "java/lang/String" "value" "[B" (.ref vb) ∧ Fld Z h a1 "java/lang/String" "coder" "B" (.int 0) ∧ Arv Z h vb kb .byte (1 : Int32) [(.int (own_lo c0))] (.int 0)
set_option maxRecDepth 65536 in
set_option maxHeartbeats 40000000 in
theorem rmIn1_10 (l : Launch) (Z : State) (a0 : Array Value) (hw : own_H Z a0) (ws : List Jvm.Cond) (a1 : Addr) (gz : Int32) (ca : Addr) (kc : ClassId) (c0 : Int32) (u1 : Value) (h0 : Heap) (n0 : Nat) (Z0 : n0 ≤ h0.size) (O0 : Old Z n0 h0) (S_COMPACT_STRINGS : Sta Z Z.heap "java/lang/String" "COMPACT_STRINGS" "Z" (.int gz)) (hgz : ¬ gz = (0 : Int32)) (E_a1 : Exa Z h0 a1 "java/lang/String") (F_value_a1 : Fld Z h0 a1 "java/lang/String" "value" "[B" .null) (F_coder_a1 : Fld Z h0 a1 "java/lang/String" "coder" "B" u1) (g_a1 : n0 ≤ a1) (V_ca : Arv Z h0 ca kc .char (1 : Int32) [(.int c0)] (.int 0)) (ne_a1_ca : a1 ≠ ca) (hl0 : ¬ (255 : Int32) < c0) :
    own_Met l (⟨"java/lang/String", "<init>", "([C)V"⟩ : MethodName) jdk_42_method_3_code 2 none ws (own_rm 3 1 1 52) Z h0 #[(.ref a1), (.ref ca)] (Q_rmIn1_10 Z a1 gz ca kc c0 u1 h0 n0) := by
  refine own_met (plainFor_of_name pn_3) (fun m => ef_rmIn1_10 m a1 ca) ?_
  intro p e s m below meth c s₁ Φ hΦ X0 hx hby hml hown hnm hret hlk hZ e0
  have N0 := Fr.nil n0
  have B : own_B p c _ _ := ⟨hx, hby, hml⟩
  have K0 : Keep h0 h0 [a1] := Keep.refl _ _
  show own_G p e below Φ s₁ (mkF m 0 #[.val (.ref a1), .val (.ref ca)] [])
  refine o_aloadN X0 B d3_0 rfl rfl ?_
  refine o_aloadN X0 B d3_1 rfl rfl ?_
  refine o_iconst X0 B d3_2 ?_
  refine o_aloadN X0 B d3_3 rfl rfl ?_
  obtain ⟨cl1, Ar1, zq1, S1, M1, H1, G1⟩ := id V_ca
  refine own_go (fun _ => X0.arraylength hx (by rw [e0]; exact Ar1.1) (State.isArrayOf_alike hZ.alike Ar1.2.1) (g := (mkF m 4 #[.val (.ref a1), .val (.ref ca)] [(.ref ca), (.int 0), (.ref ca), (.ref a1)])) rfl rfl (hb hby d3_4) _) ?_
  rw [len_of S1 M1]
  show own_G p e below Φ s₁ (mkF m 5 #[.val (.ref a1), .val (.ref ca)] [(.int 1), (.int 0), (.ref ca), (.ref a1)])
  refine o_anull X0 B d3_5 ?_
  refine o_cI (argsL := [(.ref ca), (.int 0), (.int 1), .null]) (rest := []) X0 B hZ hown rfl (wd_14 hw) (wd_15 hw) (wd_17 hw) (wd_9 hw) (by decide) rfl 0 (rmIn2_10 l Z a0 hw [] a1 gz ca kc c0 u1 h0 n0 Z0 O0 S_COMPACT_STRINGS hgz E_a1 F_value_a1 F_coder_a1 g_a1 V_ca ne_a1_ca hl0) (by decide) (by decide) (lenOf pd_13 rfl) rfl rfl rfl d3_6 e0 (by decide) (by decide) rfl ?_
  rintro _ T2 _ X2 ⟨vb_2, ns_vb_2, kb_2, rfl, N2q, Kq2, p2_0, p2_1, p2_2, p2_3⟩
  have N2 := Fr.app N0 N2q
  have ne_a1_vb_2 : a1 ≠ vb_2 := Nat.ne_of_lt (Nat.lt_of_lt_of_le E_a1.lt ns_vb_2)
  have ne_ca_vb_2 : ca ≠ vb_2 := Nat.ne_of_lt (Nat.lt_of_lt_of_le V_ca.lt ns_vb_2)
  have sz_vb_2 : h0.size ≤ vb_2 := Nat.le_trans K0.1 ns_vb_2
  have K2 := K0.trans Kq2 (allS (Or.inl (List.mem_of_getElem? (i := 0) rfl)) all0)
  have g_vb_2 : n0 ≤ vb_2 := Nat.le_trans Z0 ns_vb_2
  have Zp2 : n0 ≤ T2.heap.size := Nat.le_trans Z0 Kq2.1
  have O3 := O0.keep Kq2 (allS g_a1 all0)
  rw [hΦ]
  refine own_ret X2 (v := none) (fun _ => rfl) hlk (fun fs hr => X2.returnOut hx hret (hb hby d3_9) hr) ?_ (by decide) (by decide)
  exact ⟨vb_2, sz_vb_2, kb_2, rfl, N2, K2, p2_0, p2_1, p2_2, p2_3⟩
theorem ef_rmIn1_11 (m : MethodId) (a1 : Addr) (ca : Addr) : entryFrame m #[(.ref a1), (.ref ca)] 2 = mkF m 0 #[.val (.ref a1), .val (.ref ca)] [] := by first | (simp [entryFrame, mkF, argsToLocals, Value.category]; done) | rfl
def Q_rmIn1_11 (Z : State) (a1 : Addr) (gz : Int32) (ca : Addr) (kc : ClassId) (c0 : Int32) (u1 : Value) (h0 : Heap) (n0 : Nat) (v : Option Value) (h : Heap) (L : List Loc) : Prop := ∃ vb : Addr, h0.size ≤ vb ∧ ∃ kb : ClassId, v = none ∧ Fr n0 L ∧ Keep h0 h [a1] ∧ Exa Z h a1 "java/lang/String" ∧ Fld Z h a1 "java/lang/String" "value" "[B" (.ref vb) ∧ Fld Z h a1 "java/lang/String" "coder" "B" (.int 1) ∧ Arv Z h vb kb .byte (2 : Int32) [(.int (own_h0 c0)), (.int (own_h8 c0))] (.int 0)
set_option maxRecDepth 65536 in
set_option maxHeartbeats 40000000 in
theorem rmIn1_11 (l : Launch) (Z : State) (a0 : Array Value) (hw : own_H Z a0) (ws : List Jvm.Cond) (a1 : Addr) (gz : Int32) (ca : Addr) (kc : ClassId) (c0 : Int32) (u1 : Value) (h0 : Heap) (n0 : Nat) (Z0 : n0 ≤ h0.size) (O0 : Old Z n0 h0) (S_COMPACT_STRINGS : Sta Z Z.heap "java/lang/String" "COMPACT_STRINGS" "Z" (.int gz)) (hgz : ¬ gz = (0 : Int32)) (S__assertionsDisabled : Sta Z Z.heap "java/lang/StringUTF16" "$assertionsDisabled" "Z" (.int 1)) (S_HI_BYTE_SHIFT : Sta Z Z.heap "java/lang/StringUTF16" "HI_BYTE_SHIFT" "I" (.int 0)) (S_LO_BYTE_SHIFT : Sta Z Z.heap "java/lang/StringUTF16" "LO_BYTE_SHIFT" "I" (.int 8)) (E_a1 : Exa Z h0 a1 "java/lang/String") (F_value_a1 : Fld Z h0 a1 "java/lang/String" "value" "[B" .null) (F_coder_a1 : Fld Z h0 a1 "java/lang/String" "coder" "B" u1) (g_a1 : n0 ≤ a1) (V_ca : Arv Z h0 ca kc .char (1 : Int32) [(.int c0)] (.int 0)) (ne_a1_ca : a1 ≠ ca) (hr0 : ¬ c0 < 0 ∧ ¬ (65535 : Int32) < c0) (hex : (255 : Int32) < c0) :
    own_Met l (⟨"java/lang/String", "<init>", "([C)V"⟩ : MethodName) jdk_42_method_3_code 2 none ws (own_rm 5 2 3 74) Z h0 #[(.ref a1), (.ref ca)] (Q_rmIn1_11 Z a1 gz ca kc c0 u1 h0 n0) := by
  refine own_met (plainFor_of_name pn_3) (fun m => ef_rmIn1_11 m a1 ca) ?_
  intro p e s m below meth c s₁ Φ hΦ X0 hx hby hml hown hnm hret hlk hZ e0
  have N0 := Fr.nil n0
  have B : own_B p c _ _ := ⟨hx, hby, hml⟩
  have K0 : Keep h0 h0 [a1] := Keep.refl _ _
  show own_G p e below Φ s₁ (mkF m 0 #[.val (.ref a1), .val (.ref ca)] [])
  refine o_aloadN X0 B d3_0 rfl rfl ?_
  refine o_aloadN X0 B d3_1 rfl rfl ?_
  refine o_iconst X0 B d3_2 ?_
  refine o_aloadN X0 B d3_3 rfl rfl ?_
  obtain ⟨cl1, Ar1, zq1, S1, M1, H1, G1⟩ := id V_ca
  refine own_go (fun _ => X0.arraylength hx (by rw [e0]; exact Ar1.1) (State.isArrayOf_alike hZ.alike Ar1.2.1) (g := (mkF m 4 #[.val (.ref a1), .val (.ref ca)] [(.ref ca), (.int 0), (.ref ca), (.ref a1)])) rfl rfl (hb hby d3_4) _) ?_
  rw [len_of S1 M1]
  show own_G p e below Φ s₁ (mkF m 5 #[.val (.ref a1), .val (.ref ca)] [(.int 1), (.int 0), (.ref ca), (.ref a1)])
  refine o_anull X0 B d3_5 ?_
  refine o_cI (argsL := [(.ref ca), (.int 0), (.int 1), .null]) (rest := []) X0 B hZ hown rfl (wd_14 hw) (wd_15 hw) (wd_17 hw) (wd_9 hw) (by decide) rfl 0 (rmIn2_11 l Z a0 hw [] a1 gz ca kc c0 u1 h0 n0 Z0 O0 S_COMPACT_STRINGS hgz S__assertionsDisabled S_HI_BYTE_SHIFT S_LO_BYTE_SHIFT E_a1 F_value_a1 F_coder_a1 g_a1 V_ca ne_a1_ca hr0 hex) (by decide) (by decide) (lenOf pd_13 rfl) rfl rfl rfl d3_6 e0 (by decide) (by decide) rfl ?_
  rintro _ T2 _ X2 ⟨vb_2, ns_vb_2, kb_2, rfl, N2q, Kq2, p2_0, p2_1, p2_2, p2_3⟩
  have N2 := Fr.app N0 N2q
  have ne_a1_vb_2 : a1 ≠ vb_2 := Nat.ne_of_lt (Nat.lt_of_lt_of_le E_a1.lt ns_vb_2)
  have ne_ca_vb_2 : ca ≠ vb_2 := Nat.ne_of_lt (Nat.lt_of_lt_of_le V_ca.lt ns_vb_2)
  have sz_vb_2 : h0.size ≤ vb_2 := Nat.le_trans K0.1 ns_vb_2
  have K2 := K0.trans Kq2 (allS (Or.inl (List.mem_of_getElem? (i := 0) rfl)) all0)
  have g_vb_2 : n0 ≤ vb_2 := Nat.le_trans Z0 ns_vb_2
  have Zp2 : n0 ≤ T2.heap.size := Nat.le_trans Z0 Kq2.1
  have O3 := O0.keep Kq2 (allS g_a1 all0)
  rw [hΦ]
  refine own_ret X2 (v := none) (fun _ => rfl) hlk (fun fs hr => X2.returnOut hx hret (hb hby d3_9) hr) ?_ (by decide) (by decide)
  exact ⟨vb_2, sz_vb_2, kb_2, rfl, N2, K2, p2_0, p2_1, p2_2, p2_3⟩
theorem ef_rmIn1_20 (m : MethodId) (a1 : Addr) (ca : Addr) : entryFrame m #[(.ref a1), (.ref ca)] 2 = mkF m 0 #[.val (.ref a1), .val (.ref ca)] [] := by first | (simp [entryFrame, mkF, argsToLocals, Value.category]; done) | rfl
def Q_rmIn1_20 (Z : State) (a1 : Addr) (gz : Int32) (ca : Addr) (kc : ClassId) (c0 : Int32) (c1 : Int32) (u1 : Value) (h0 : Heap) (n0 : Nat) (v : Option Value) (h : Heap) (L : List Loc) : Prop := ∃ vb : Addr, h0.size ≤ vb ∧ ∃ kb : ClassId, v = none ∧ Fr n0 L ∧ Keep h0 h [a1] ∧ Exa Z h a1 "java/lang/String" ∧ Fld Z h a1 "java/lang/String" "value" "[B" (.ref vb) ∧ Fld Z h a1 "java/lang/String" "coder" "B" (.int 0) ∧ Arv Z h vb kb .byte (2 : Int32) [(.int (own_lo c0)), (.int (own_lo c1))] (.int 0)
set_option maxRecDepth 65536 in
set_option maxHeartbeats 40000000 in
theorem rmIn1_20 (l : Launch) (Z : State) (a0 : Array Value) (hw : own_H Z a0) (ws : List Jvm.Cond) (a1 : Addr) (gz : Int32) (ca : Addr) (kc : ClassId) (c0 : Int32) (c1 : Int32) (u1 : Value) (h0 : Heap) (n0 : Nat) (Z0 : n0 ≤ h0.size) (O0 : Old Z n0 h0) (S_COMPACT_STRINGS : Sta Z Z.heap "java/lang/String" "COMPACT_STRINGS" "Z" (.int gz)) (hgz : ¬ gz = (0 : Int32)) (E_a1 : Exa Z h0 a1 "java/lang/String") (F_value_a1 : Fld Z h0 a1 "java/lang/String" "value" "[B" .null) (F_coder_a1 : Fld Z h0 a1 "java/lang/String" "coder" "B" u1) (g_a1 : n0 ≤ a1) (V_ca : Arv Z h0 ca kc .char (2 : Int32) [(.int c0), (.int c1)] (.int 0)) (ne_a1_ca : a1 ≠ ca) (hl0 : ¬ (255 : Int32) < c0) (hl1 : ¬ (255 : Int32) < c1) :
    own_Met l (⟨"java/lang/String", "<init>", "([C)V"⟩ : MethodName) jdk_42_method_3_code 2 none ws (own_rm 3 1 2 52) Z h0 #[(.ref a1), (.ref ca)] (Q_rmIn1_20 Z a1 gz ca kc c0 c1 u1 h0 n0) := by
  refine own_met (plainFor_of_name pn_3) (fun m => ef_rmIn1_20 m a1 ca) ?_
  intro p e s m below meth c s₁ Φ hΦ X0 hx hby hml hown hnm hret hlk hZ e0
  have N0 := Fr.nil n0
  have B : own_B p c _ _ := ⟨hx, hby, hml⟩
  have K0 : Keep h0 h0 [a1] := Keep.refl _ _
  show own_G p e below Φ s₁ (mkF m 0 #[.val (.ref a1), .val (.ref ca)] [])
  refine o_aloadN X0 B d3_0 rfl rfl ?_
  refine o_aloadN X0 B d3_1 rfl rfl ?_
  refine o_iconst X0 B d3_2 ?_
  refine o_aloadN X0 B d3_3 rfl rfl ?_
  obtain ⟨cl1, Ar1, zq1, S1, M1, H1, G1⟩ := id V_ca
  refine own_go (fun _ => X0.arraylength hx (by rw [e0]; exact Ar1.1) (State.isArrayOf_alike hZ.alike Ar1.2.1) (g := (mkF m 4 #[.val (.ref a1), .val (.ref ca)] [(.ref ca), (.int 0), (.ref ca), (.ref a1)])) rfl rfl (hb hby d3_4) _) ?_
  rw [len_of S1 M1]
  show own_G p e below Φ s₁ (mkF m 5 #[.val (.ref a1), .val (.ref ca)] [(.int 2), (.int 0), (.ref ca), (.ref a1)])
  refine o_anull X0 B d3_5 ?_
  refine o_cI (argsL := [(.ref ca), (.int 0), (.int 2), .null]) (rest := []) X0 B hZ hown rfl (wd_14 hw) (wd_15 hw) (wd_17 hw) (wd_9 hw) (by decide) rfl 0 (rmIn2_20 l Z a0 hw [] a1 gz ca kc c0 c1 u1 h0 n0 Z0 O0 S_COMPACT_STRINGS hgz E_a1 F_value_a1 F_coder_a1 g_a1 V_ca ne_a1_ca hl0 hl1) (by decide) (by decide) (lenOf pd_13 rfl) rfl rfl rfl d3_6 e0 (by decide) (by decide) rfl ?_
  rintro _ T2 _ X2 ⟨vb_2, ns_vb_2, kb_2, rfl, N2q, Kq2, p2_0, p2_1, p2_2, p2_3⟩
  have N2 := Fr.app N0 N2q
  have ne_a1_vb_2 : a1 ≠ vb_2 := Nat.ne_of_lt (Nat.lt_of_lt_of_le E_a1.lt ns_vb_2)
  have ne_ca_vb_2 : ca ≠ vb_2 := Nat.ne_of_lt (Nat.lt_of_lt_of_le V_ca.lt ns_vb_2)
  have sz_vb_2 : h0.size ≤ vb_2 := Nat.le_trans K0.1 ns_vb_2
  have K2 := K0.trans Kq2 (allS (Or.inl (List.mem_of_getElem? (i := 0) rfl)) all0)
  have g_vb_2 : n0 ≤ vb_2 := Nat.le_trans Z0 ns_vb_2
  have Zp2 : n0 ≤ T2.heap.size := Nat.le_trans Z0 Kq2.1
  have O3 := O0.keep Kq2 (allS g_a1 all0)
  rw [hΦ]
  refine own_ret X2 (v := none) (fun _ => rfl) hlk (fun fs hr => X2.returnOut hx hret (hb hby d3_9) hr) ?_ (by decide) (by decide)
  exact ⟨vb_2, sz_vb_2, kb_2, rfl, N2, K2, p2_0, p2_1, p2_2, p2_3⟩
theorem ef_rmIn1_21 (m : MethodId) (a1 : Addr) (ca : Addr) : entryFrame m #[(.ref a1), (.ref ca)] 2 = mkF m 0 #[.val (.ref a1), .val (.ref ca)] [] := by first | (simp [entryFrame, mkF, argsToLocals, Value.category]; done) | rfl
def Q_rmIn1_21 (Z : State) (a1 : Addr) (gz : Int32) (ca : Addr) (kc : ClassId) (c0 : Int32) (c1 : Int32) (u1 : Value) (h0 : Heap) (n0 : Nat) (v : Option Value) (h : Heap) (L : List Loc) : Prop := ∃ vb : Addr, h0.size ≤ vb ∧ ∃ kb : ClassId, v = none ∧ Fr n0 L ∧ Keep h0 h [a1] ∧ Exa Z h a1 "java/lang/String" ∧ Fld Z h a1 "java/lang/String" "value" "[B" (.ref vb) ∧ Fld Z h a1 "java/lang/String" "coder" "B" (.int 1) ∧ Arv Z h vb kb .byte (4 : Int32) [(.int (own_h0 c0)), (.int (own_h8 c0)), (.int (own_h0 c1)), (.int (own_h8 c1))] (.int 0)
set_option maxRecDepth 65536 in
set_option maxHeartbeats 40000000 in
theorem rmIn1_21 (l : Launch) (Z : State) (a0 : Array Value) (hw : own_H Z a0) (ws : List Jvm.Cond) (a1 : Addr) (gz : Int32) (ca : Addr) (kc : ClassId) (c0 : Int32) (c1 : Int32) (u1 : Value) (h0 : Heap) (n0 : Nat) (Z0 : n0 ≤ h0.size) (O0 : Old Z n0 h0) (S_COMPACT_STRINGS : Sta Z Z.heap "java/lang/String" "COMPACT_STRINGS" "Z" (.int gz)) (hgz : ¬ gz = (0 : Int32)) (S__assertionsDisabled : Sta Z Z.heap "java/lang/StringUTF16" "$assertionsDisabled" "Z" (.int 1)) (S_HI_BYTE_SHIFT : Sta Z Z.heap "java/lang/StringUTF16" "HI_BYTE_SHIFT" "I" (.int 0)) (S_LO_BYTE_SHIFT : Sta Z Z.heap "java/lang/StringUTF16" "LO_BYTE_SHIFT" "I" (.int 8)) (E_a1 : Exa Z h0 a1 "java/lang/String") (F_value_a1 : Fld Z h0 a1 "java/lang/String" "value" "[B" .null) (F_coder_a1 : Fld Z h0 a1 "java/lang/String" "coder" "B" u1) (g_a1 : n0 ≤ a1) (V_ca : Arv Z h0 ca kc .char (2 : Int32) [(.int c0), (.int c1)] (.int 0)) (ne_a1_ca : a1 ≠ ca) (hr0 : ¬ c0 < 0 ∧ ¬ (65535 : Int32) < c0) (hr1 : ¬ c1 < 0 ∧ ¬ (65535 : Int32) < c1) (hex : (255 : Int32) < c0 ∨ (255 : Int32) < c1) :
    own_Met l (⟨"java/lang/String", "<init>", "([C)V"⟩ : MethodName) jdk_42_method_3_code 2 none ws (own_rm 5 2 6 74) Z h0 #[(.ref a1), (.ref ca)] (Q_rmIn1_21 Z a1 gz ca kc c0 c1 u1 h0 n0) := by
  refine own_met (plainFor_of_name pn_3) (fun m => ef_rmIn1_21 m a1 ca) ?_
  intro p e s m below meth c s₁ Φ hΦ X0 hx hby hml hown hnm hret hlk hZ e0
  have N0 := Fr.nil n0
  have B : own_B p c _ _ := ⟨hx, hby, hml⟩
  have K0 : Keep h0 h0 [a1] := Keep.refl _ _
  show own_G p e below Φ s₁ (mkF m 0 #[.val (.ref a1), .val (.ref ca)] [])
  refine o_aloadN X0 B d3_0 rfl rfl ?_
  refine o_aloadN X0 B d3_1 rfl rfl ?_
  refine o_iconst X0 B d3_2 ?_
  refine o_aloadN X0 B d3_3 rfl rfl ?_
  obtain ⟨cl1, Ar1, zq1, S1, M1, H1, G1⟩ := id V_ca
  refine own_go (fun _ => X0.arraylength hx (by rw [e0]; exact Ar1.1) (State.isArrayOf_alike hZ.alike Ar1.2.1) (g := (mkF m 4 #[.val (.ref a1), .val (.ref ca)] [(.ref ca), (.int 0), (.ref ca), (.ref a1)])) rfl rfl (hb hby d3_4) _) ?_
  rw [len_of S1 M1]
  show own_G p e below Φ s₁ (mkF m 5 #[.val (.ref a1), .val (.ref ca)] [(.int 2), (.int 0), (.ref ca), (.ref a1)])
  refine o_anull X0 B d3_5 ?_
  refine o_cI (argsL := [(.ref ca), (.int 0), (.int 2), .null]) (rest := []) X0 B hZ hown rfl (wd_14 hw) (wd_15 hw) (wd_17 hw) (wd_9 hw) (by decide) rfl 0 (rmIn2_21 l Z a0 hw [] a1 gz ca kc c0 c1 u1 h0 n0 Z0 O0 S_COMPACT_STRINGS hgz S__assertionsDisabled S_HI_BYTE_SHIFT S_LO_BYTE_SHIFT E_a1 F_value_a1 F_coder_a1 g_a1 V_ca ne_a1_ca hr0 hr1 hex) (by decide) (by decide) (lenOf pd_13 rfl) rfl rfl rfl d3_6 e0 (by decide) (by decide) rfl ?_
  rintro _ T2 _ X2 ⟨vb_2, ns_vb_2, kb_2, rfl, N2q, Kq2, p2_0, p2_1, p2_2, p2_3⟩
  have N2 := Fr.app N0 N2q
  have ne_a1_vb_2 : a1 ≠ vb_2 := Nat.ne_of_lt (Nat.lt_of_lt_of_le E_a1.lt ns_vb_2)
  have ne_ca_vb_2 : ca ≠ vb_2 := Nat.ne_of_lt (Nat.lt_of_lt_of_le V_ca.lt ns_vb_2)
  have sz_vb_2 : h0.size ≤ vb_2 := Nat.le_trans K0.1 ns_vb_2
  have K2 := K0.trans Kq2 (allS (Or.inl (List.mem_of_getElem? (i := 0) rfl)) all0)
  have g_vb_2 : n0 ≤ vb_2 := Nat.le_trans Z0 ns_vb_2
  have Zp2 : n0 ≤ T2.heap.size := Nat.le_trans Z0 Kq2.1
  have O3 := O0.keep Kq2 (allS g_a1 all0)
  rw [hΦ]
  refine own_ret X2 (v := none) (fun _ => rfl) hlk (fun fs hr => X2.returnOut hx hret (hb hby d3_9) hr) ?_ (by decide) (by decide)
  exact ⟨vb_2, sz_vb_2, kb_2, rfl, N2, K2, p2_0, p2_1, p2_2, p2_3⟩
theorem ef_rmIn1_30 (m : MethodId) (a1 : Addr) (ca : Addr) : entryFrame m #[(.ref a1), (.ref ca)] 2 = mkF m 0 #[.val (.ref a1), .val (.ref ca)] [] := by first | (simp [entryFrame, mkF, argsToLocals, Value.category]; done) | rfl
def Q_rmIn1_30 (Z : State) (a1 : Addr) (gz : Int32) (ca : Addr) (kc : ClassId) (c0 : Int32) (c1 : Int32) (c2 : Int32) (u1 : Value) (h0 : Heap) (n0 : Nat) (v : Option Value) (h : Heap) (L : List Loc) : Prop := ∃ vb : Addr, h0.size ≤ vb ∧ ∃ kb : ClassId, v = none ∧ Fr n0 L ∧ Keep h0 h [a1] ∧ Exa Z h a1 "java/lang/String" ∧ Fld Z h a1 "java/lang/String" "value" "[B" (.ref vb) ∧ Fld Z h a1 "java/lang/String" "coder" "B" (.int 0) ∧ Arv Z h vb kb .byte (3 : Int32) [(.int (own_lo c0)), (.int (own_lo c1)), (.int (own_lo c2))] (.int 0)
set_option maxRecDepth 65536 in
set_option maxHeartbeats 40000000 in
theorem rmIn1_30 (l : Launch) (Z : State) (a0 : Array Value) (hw : own_H Z a0) (ws : List Jvm.Cond) (a1 : Addr) (gz : Int32) (ca : Addr) (kc : ClassId) (c0 : Int32) (c1 : Int32) (c2 : Int32) (u1 : Value) (h0 : Heap) (n0 : Nat) (Z0 : n0 ≤ h0.size) (O0 : Old Z n0 h0) (S_COMPACT_STRINGS : Sta Z Z.heap "java/lang/String" "COMPACT_STRINGS" "Z" (.int gz)) (hgz : ¬ gz = (0 : Int32)) (E_a1 : Exa Z h0 a1 "java/lang/String") (F_value_a1 : Fld Z h0 a1 "java/lang/String" "value" "[B" .null) (F_coder_a1 : Fld Z h0 a1 "java/lang/String" "coder" "B" u1) (g_a1 : n0 ≤ a1) (V_ca : Arv Z h0 ca kc .char (3 : Int32) [(.int c0), (.int c1), (.int c2)] (.int 0)) (ne_a1_ca : a1 ≠ ca) (hl0 : ¬ (255 : Int32) < c0) (hl1 : ¬ (255 : Int32) < c1) (hl2 : ¬ (255 : Int32) < c2) :
    own_Met l (⟨"java/lang/String", "<init>", "([C)V"⟩ : MethodName) jdk_42_method_3_code 2 none ws (own_rm 3 1 3 52) Z h0 #[(.ref a1), (.ref ca)] (Q_rmIn1_30 Z a1 gz ca kc c0 c1 c2 u1 h0 n0) := by
  refine own_met (plainFor_of_name pn_3) (fun m => ef_rmIn1_30 m a1 ca) ?_
  intro p e s m below meth c s₁ Φ hΦ X0 hx hby hml hown hnm hret hlk hZ e0
  have N0 := Fr.nil n0
  have B : own_B p c _ _ := ⟨hx, hby, hml⟩
  have K0 : Keep h0 h0 [a1] := Keep.refl _ _
  show own_G p e below Φ s₁ (mkF m 0 #[.val (.ref a1), .val (.ref ca)] [])
  refine o_aloadN X0 B d3_0 rfl rfl ?_
  refine o_aloadN X0 B d3_1 rfl rfl ?_
  refine o_iconst X0 B d3_2 ?_
  refine o_aloadN X0 B d3_3 rfl rfl ?_
  obtain ⟨cl1, Ar1, zq1, S1, M1, H1, G1⟩ := id V_ca
  refine own_go (fun _ => X0.arraylength hx (by rw [e0]; exact Ar1.1) (State.isArrayOf_alike hZ.alike Ar1.2.1) (g := (mkF m 4 #[.val (.ref a1), .val (.ref ca)] [(.ref ca), (.int 0), (.ref ca), (.ref a1)])) rfl rfl (hb hby d3_4) _) ?_
  rw [len_of S1 M1]
  show own_G p e below Φ s₁ (mkF m 5 #[.val (.ref a1), .val (.ref ca)] [(.int 3), (.int 0), (.ref ca), (.ref a1)])
  refine o_anull X0 B d3_5 ?_
  refine o_cI (argsL := [(.ref ca), (.int 0), (.int 3), .null]) (rest := []) X0 B hZ hown rfl (wd_14 hw) (wd_15 hw) (wd_17 hw) (wd_9 hw) (by decide) rfl 0 (rmIn2_30 l Z a0 hw [] a1 gz ca kc c0 c1 c2 u1 h0 n0 Z0 O0 S_COMPACT_STRINGS hgz E_a1 F_value_a1 F_coder_a1 g_a1 V_ca ne_a1_ca hl0 hl1 hl2) (by decide) (by decide) (lenOf pd_13 rfl) rfl rfl rfl d3_6 e0 (by decide) (by decide) rfl ?_
  rintro _ T2 _ X2 ⟨vb_2, ns_vb_2, kb_2, rfl, N2q, Kq2, p2_0, p2_1, p2_2, p2_3⟩
  have N2 := Fr.app N0 N2q
  have ne_a1_vb_2 : a1 ≠ vb_2 := Nat.ne_of_lt (Nat.lt_of_lt_of_le E_a1.lt ns_vb_2)
  have ne_ca_vb_2 : ca ≠ vb_2 := Nat.ne_of_lt (Nat.lt_of_lt_of_le V_ca.lt ns_vb_2)
  have sz_vb_2 : h0.size ≤ vb_2 := Nat.le_trans K0.1 ns_vb_2
  have K2 := K0.trans Kq2 (allS (Or.inl (List.mem_of_getElem? (i := 0) rfl)) all0)
  have g_vb_2 : n0 ≤ vb_2 := Nat.le_trans Z0 ns_vb_2
  have Zp2 : n0 ≤ T2.heap.size := Nat.le_trans Z0 Kq2.1
  have O3 := O0.keep Kq2 (allS g_a1 all0)
  rw [hΦ]
  refine own_ret X2 (v := none) (fun _ => rfl) hlk (fun fs hr => X2.returnOut hx hret (hb hby d3_9) hr) ?_ (by decide) (by decide)
  exact ⟨vb_2, sz_vb_2, kb_2, rfl, N2, K2, p2_0, p2_1, p2_2, p2_3⟩
theorem ef_rmIn1_31 (m : MethodId) (a1 : Addr) (ca : Addr) : entryFrame m #[(.ref a1), (.ref ca)] 2 = mkF m 0 #[.val (.ref a1), .val (.ref ca)] [] := by first | (simp [entryFrame, mkF, argsToLocals, Value.category]; done) | rfl
def Q_rmIn1_31 (Z : State) (a1 : Addr) (gz : Int32) (ca : Addr) (kc : ClassId) (c0 : Int32) (c1 : Int32) (c2 : Int32) (u1 : Value) (h0 : Heap) (n0 : Nat) (v : Option Value) (h : Heap) (L : List Loc) : Prop := ∃ vb : Addr, h0.size ≤ vb ∧ ∃ kb : ClassId, v = none ∧ Fr n0 L ∧ Keep h0 h [a1] ∧ Exa Z h a1 "java/lang/String" ∧ Fld Z h a1 "java/lang/String" "value" "[B" (.ref vb) ∧ Fld Z h a1 "java/lang/String" "coder" "B" (.int 1) ∧ Arv Z h vb kb .byte (6 : Int32) [(.int (own_h0 c0)), (.int (own_h8 c0)), (.int (own_h0 c1)), (.int (own_h8 c1)), (.int (own_h0 c2)), (.int (own_h8 c2))] (.int 0)
set_option maxRecDepth 65536 in
set_option maxHeartbeats 40000000 in
theorem rmIn1_31 (l : Launch) (Z : State) (a0 : Array Value) (hw : own_H Z a0) (ws : List Jvm.Cond) (a1 : Addr) (gz : Int32) (ca : Addr) (kc : ClassId) (c0 : Int32) (c1 : Int32) (c2 : Int32) (u1 : Value) (h0 : Heap) (n0 : Nat) (Z0 : n0 ≤ h0.size) (O0 : Old Z n0 h0) (S_COMPACT_STRINGS : Sta Z Z.heap "java/lang/String" "COMPACT_STRINGS" "Z" (.int gz)) (hgz : ¬ gz = (0 : Int32)) (S__assertionsDisabled : Sta Z Z.heap "java/lang/StringUTF16" "$assertionsDisabled" "Z" (.int 1)) (S_HI_BYTE_SHIFT : Sta Z Z.heap "java/lang/StringUTF16" "HI_BYTE_SHIFT" "I" (.int 0)) (S_LO_BYTE_SHIFT : Sta Z Z.heap "java/lang/StringUTF16" "LO_BYTE_SHIFT" "I" (.int 8)) (E_a1 : Exa Z h0 a1 "java/lang/String") (F_value_a1 : Fld Z h0 a1 "java/lang/String" "value" "[B" .null) (F_coder_a1 : Fld Z h0 a1 "java/lang/String" "coder" "B" u1) (g_a1 : n0 ≤ a1) (V_ca : Arv Z h0 ca kc .char (3 : Int32) [(.int c0), (.int c1), (.int c2)] (.int 0)) (ne_a1_ca : a1 ≠ ca) (hr0 : ¬ c0 < 0 ∧ ¬ (65535 : Int32) < c0) (hr1 : ¬ c1 < 0 ∧ ¬ (65535 : Int32) < c1) (hr2 : ¬ c2 < 0 ∧ ¬ (65535 : Int32) < c2) (hex : (255 : Int32) < c0 ∨ (255 : Int32) < c1 ∨ (255 : Int32) < c2) :
    own_Met l (⟨"java/lang/String", "<init>", "([C)V"⟩ : MethodName) jdk_42_method_3_code 2 none ws (own_rm 5 2 9 74) Z h0 #[(.ref a1), (.ref ca)] (Q_rmIn1_31 Z a1 gz ca kc c0 c1 c2 u1 h0 n0) := by
  refine own_met (plainFor_of_name pn_3) (fun m => ef_rmIn1_31 m a1 ca) ?_
  intro p e s m below meth c s₁ Φ hΦ X0 hx hby hml hown hnm hret hlk hZ e0
  have N0 := Fr.nil n0
  have B : own_B p c _ _ := ⟨hx, hby, hml⟩
  have K0 : Keep h0 h0 [a1] := Keep.refl _ _
  show own_G p e below Φ s₁ (mkF m 0 #[.val (.ref a1), .val (.ref ca)] [])
  refine o_aloadN X0 B d3_0 rfl rfl ?_
  refine o_aloadN X0 B d3_1 rfl rfl ?_
  refine o_iconst X0 B d3_2 ?_
  refine o_aloadN X0 B d3_3 rfl rfl ?_
  obtain ⟨cl1, Ar1, zq1, S1, M1, H1, G1⟩ := id V_ca
  refine own_go (fun _ => X0.arraylength hx (by rw [e0]; exact Ar1.1) (State.isArrayOf_alike hZ.alike Ar1.2.1) (g := (mkF m 4 #[.val (.ref a1), .val (.ref ca)] [(.ref ca), (.int 0), (.ref ca), (.ref a1)])) rfl rfl (hb hby d3_4) _) ?_
  rw [len_of S1 M1]
  show own_G p e below Φ s₁ (mkF m 5 #[.val (.ref a1), .val (.ref ca)] [(.int 3), (.int 0), (.ref ca), (.ref a1)])
  refine o_anull X0 B d3_5 ?_
  refine o_cI (argsL := [(.ref ca), (.int 0), (.int 3), .null]) (rest := []) X0 B hZ hown rfl (wd_14 hw) (wd_15 hw) (wd_17 hw) (wd_9 hw) (by decide) rfl 0 (rmIn2_31 l Z a0 hw [] a1 gz ca kc c0 c1 c2 u1 h0 n0 Z0 O0 S_COMPACT_STRINGS hgz S__assertionsDisabled S_HI_BYTE_SHIFT S_LO_BYTE_SHIFT E_a1 F_value_a1 F_coder_a1 g_a1 V_ca ne_a1_ca hr0 hr1 hr2 hex) (by decide) (by decide) (lenOf pd_13 rfl) rfl rfl rfl d3_6 e0 (by decide) (by decide) rfl ?_
  rintro _ T2 _ X2 ⟨vb_2, ns_vb_2, kb_2, rfl, N2q, Kq2, p2_0, p2_1, p2_2, p2_3⟩
  have N2 := Fr.app N0 N2q
  have ne_a1_vb_2 : a1 ≠ vb_2 := Nat.ne_of_lt (Nat.lt_of_lt_of_le E_a1.lt ns_vb_2)
  have ne_ca_vb_2 : ca ≠ vb_2 := Nat.ne_of_lt (Nat.lt_of_lt_of_le V_ca.lt ns_vb_2)
  have sz_vb_2 : h0.size ≤ vb_2 := Nat.le_trans K0.1 ns_vb_2
  have K2 := K0.trans Kq2 (allS (Or.inl (List.mem_of_getElem? (i := 0) rfl)) all0)
  have g_vb_2 : n0 ≤ vb_2 := Nat.le_trans Z0 ns_vb_2
  have Zp2 : n0 ≤ T2.heap.size := Nat.le_trans Z0 Kq2.1
  have O3 := O0.keep Kq2 (allS g_a1 all0)
  rw [hΦ]
  refine own_ret X2 (v := none) (fun _ => rfl) hlk (fun fs hr => X2.returnOut hx hret (hb hby d3_9) hr) ?_ (by decide) (by decide)
  exact ⟨vb_2, sz_vb_2, kb_2, rfl, N2, K2, p2_0, p2_1, p2_2, p2_3⟩
theorem ef_rmIn1_40 (m : MethodId) (a1 : Addr) (ca : Addr) : entryFrame m #[(.ref a1), (.ref ca)] 2 = mkF m 0 #[.val (.ref a1), .val (.ref ca)] [] := by first | (simp [entryFrame, mkF, argsToLocals, Value.category]; done) | rfl
def Q_rmIn1_40 (Z : State) (a1 : Addr) (gz : Int32) (ca : Addr) (kc : ClassId) (c0 : Int32) (c1 : Int32) (c2 : Int32) (c3 : Int32) (u1 : Value) (h0 : Heap) (n0 : Nat) (v : Option Value) (h : Heap) (L : List Loc) : Prop := ∃ vb : Addr, h0.size ≤ vb ∧ ∃ kb : ClassId, v = none ∧ Fr n0 L ∧ Keep h0 h [a1] ∧ Exa Z h a1 "java/lang/String" ∧ Fld Z h a1 "java/lang/String" "value" "[B" (.ref vb) ∧ Fld Z h a1 "java/lang/String" "coder" "B" (.int 0) ∧ Arv Z h vb kb .byte (4 : Int32) [(.int (own_lo c0)), (.int (own_lo c1)), (.int (own_lo c2)), (.int (own_lo c3))] (.int 0)
set_option maxRecDepth 65536 in
set_option maxHeartbeats 40000000 in
theorem rmIn1_40 (l : Launch) (Z : State) (a0 : Array Value) (hw : own_H Z a0) (ws : List Jvm.Cond) (a1 : Addr) (gz : Int32) (ca : Addr) (kc : ClassId) (c0 : Int32) (c1 : Int32) (c2 : Int32) (c3 : Int32) (u1 : Value) (h0 : Heap) (n0 : Nat) (Z0 : n0 ≤ h0.size) (O0 : Old Z n0 h0) (S_COMPACT_STRINGS : Sta Z Z.heap "java/lang/String" "COMPACT_STRINGS" "Z" (.int gz)) (hgz : ¬ gz = (0 : Int32)) (E_a1 : Exa Z h0 a1 "java/lang/String") (F_value_a1 : Fld Z h0 a1 "java/lang/String" "value" "[B" .null) (F_coder_a1 : Fld Z h0 a1 "java/lang/String" "coder" "B" u1) (g_a1 : n0 ≤ a1) (V_ca : Arv Z h0 ca kc .char (4 : Int32) [(.int c0), (.int c1), (.int c2), (.int c3)] (.int 0)) (ne_a1_ca : a1 ≠ ca) (hl0 : ¬ (255 : Int32) < c0) (hl1 : ¬ (255 : Int32) < c1) (hl2 : ¬ (255 : Int32) < c2) (hl3 : ¬ (255 : Int32) < c3) :
    own_Met l (⟨"java/lang/String", "<init>", "([C)V"⟩ : MethodName) jdk_42_method_3_code 2 none ws (own_rm 3 1 4 52) Z h0 #[(.ref a1), (.ref ca)] (Q_rmIn1_40 Z a1 gz ca kc c0 c1 c2 c3 u1 h0 n0) := by
  refine own_met (plainFor_of_name pn_3) (fun m => ef_rmIn1_40 m a1 ca) ?_
  intro p e s m below meth c s₁ Φ hΦ X0 hx hby hml hown hnm hret hlk hZ e0
  have N0 := Fr.nil n0
  have B : own_B p c _ _ := ⟨hx, hby, hml⟩
  have K0 : Keep h0 h0 [a1] := Keep.refl _ _
  show own_G p e below Φ s₁ (mkF m 0 #[.val (.ref a1), .val (.ref ca)] [])
  refine o_aloadN X0 B d3_0 rfl rfl ?_
  refine o_aloadN X0 B d3_1 rfl rfl ?_
  refine o_iconst X0 B d3_2 ?_
  refine o_aloadN X0 B d3_3 rfl rfl ?_
  obtain ⟨cl1, Ar1, zq1, S1, M1, H1, G1⟩ := id V_ca
  refine own_go (fun _ => X0.arraylength hx (by rw [e0]; exact Ar1.1) (State.isArrayOf_alike hZ.alike Ar1.2.1) (g := (mkF m 4 #[.val (.ref a1), .val (.ref ca)] [(.ref ca), (.int 0), (.ref ca), (.ref a1)])) rfl rfl (hb hby d3_4) _) ?_
  rw [len_of S1 M1]
  show own_G p e below Φ s₁ (mkF m 5 #[.val (.ref a1), .val (.ref ca)] [(.int 4), (.int 0), (.ref ca), (.ref a1)])
  refine o_anull X0 B d3_5 ?_
  refine o_cI (argsL := [(.ref ca), (.int 0), (.int 4), .null]) (rest := []) X0 B hZ hown rfl (wd_14 hw) (wd_15 hw) (wd_17 hw) (wd_9 hw) (by decide) rfl 0 (rmIn2_40 l Z a0 hw [] a1 gz ca kc c0 c1 c2 c3 u1 h0 n0 Z0 O0 S_COMPACT_STRINGS hgz E_a1 F_value_a1 F_coder_a1 g_a1 V_ca ne_a1_ca hl0 hl1 hl2 hl3) (by decide) (by decide) (lenOf pd_13 rfl) rfl rfl rfl d3_6 e0 (by decide) (by decide) rfl ?_
  rintro _ T2 _ X2 ⟨vb_2, ns_vb_2, kb_2, rfl, N2q, Kq2, p2_0, p2_1, p2_2, p2_3⟩
  have N2 := Fr.app N0 N2q
  have ne_a1_vb_2 : a1 ≠ vb_2 := Nat.ne_of_lt (Nat.lt_of_lt_of_le E_a1.lt ns_vb_2)
  have ne_ca_vb_2 : ca ≠ vb_2 := Nat.ne_of_lt (Nat.lt_of_lt_of_le V_ca.lt ns_vb_2)
  have sz_vb_2 : h0.size ≤ vb_2 := Nat.le_trans K0.1 ns_vb_2
  have K2 := K0.trans Kq2 (allS (Or.inl (List.mem_of_getElem? (i := 0) rfl)) all0)
  have g_vb_2 : n0 ≤ vb_2 := Nat.le_trans Z0 ns_vb_2
  have Zp2 : n0 ≤ T2.heap.size := Nat.le_trans Z0 Kq2.1
  have O3 := O0.keep Kq2 (allS g_a1 all0)
  rw [hΦ]
  refine own_ret X2 (v := none) (fun _ => rfl) hlk (fun fs hr => X2.returnOut hx hret (hb hby d3_9) hr) ?_ (by decide) (by decide)
  exact ⟨vb_2, sz_vb_2, kb_2, rfl, N2, K2, p2_0, p2_1, p2_2, p2_3⟩
theorem ef_rmIn1_41 (m : MethodId) (a1 : Addr) (ca : Addr) : entryFrame m #[(.ref a1), (.ref ca)] 2 = mkF m 0 #[.val (.ref a1), .val (.ref ca)] [] := by first | (simp [entryFrame, mkF, argsToLocals, Value.category]; done) | rfl
def Q_rmIn1_41 (Z : State) (a1 : Addr) (gz : Int32) (ca : Addr) (kc : ClassId) (c0 : Int32) (c1 : Int32) (c2 : Int32) (c3 : Int32) (u1 : Value) (h0 : Heap) (n0 : Nat) (v : Option Value) (h : Heap) (L : List Loc) : Prop := ∃ vb : Addr, h0.size ≤ vb ∧ ∃ kb : ClassId, v = none ∧ Fr n0 L ∧ Keep h0 h [a1] ∧ Exa Z h a1 "java/lang/String" ∧ Fld Z h a1 "java/lang/String" "value" "[B" (.ref vb) ∧ Fld Z h a1 "java/lang/String" "coder" "B" (.int 1) ∧ Arv Z h vb kb .byte (8 : Int32) [(.int (own_h0 c0)), (.int (own_h8 c0)), (.int (own_h0 c1)), (.int (own_h8 c1)), (.int (own_h0 c2)), (.int (own_h8 c2)), (.int (own_h0 c3)), (.int (own_h8 c3))] (.int 0)
set_option maxRecDepth 65536 in
set_option maxHeartbeats 40000000 in
theorem rmIn1_41 (l : Launch) (Z : State) (a0 : Array Value) (hw : own_H Z a0) (ws : List Jvm.Cond) (a1 : Addr) (gz : Int32) (ca : Addr) (kc : ClassId) (c0 : Int32) (c1 : Int32) (c2 : Int32) (c3 : Int32) (u1 : Value) (h0 : Heap) (n0 : Nat) (Z0 : n0 ≤ h0.size) (O0 : Old Z n0 h0) (S_COMPACT_STRINGS : Sta Z Z.heap "java/lang/String" "COMPACT_STRINGS" "Z" (.int gz)) (hgz : ¬ gz = (0 : Int32)) (S__assertionsDisabled : Sta Z Z.heap "java/lang/StringUTF16" "$assertionsDisabled" "Z" (.int 1)) (S_HI_BYTE_SHIFT : Sta Z Z.heap "java/lang/StringUTF16" "HI_BYTE_SHIFT" "I" (.int 0)) (S_LO_BYTE_SHIFT : Sta Z Z.heap "java/lang/StringUTF16" "LO_BYTE_SHIFT" "I" (.int 8)) (E_a1 : Exa Z h0 a1 "java/lang/String") (F_value_a1 : Fld Z h0 a1 "java/lang/String" "value" "[B" .null) (F_coder_a1 : Fld Z h0 a1 "java/lang/String" "coder" "B" u1) (g_a1 : n0 ≤ a1) (V_ca : Arv Z h0 ca kc .char (4 : Int32) [(.int c0), (.int c1), (.int c2), (.int c3)] (.int 0)) (ne_a1_ca : a1 ≠ ca) (hr0 : ¬ c0 < 0 ∧ ¬ (65535 : Int32) < c0) (hr1 : ¬ c1 < 0 ∧ ¬ (65535 : Int32) < c1) (hr2 : ¬ c2 < 0 ∧ ¬ (65535 : Int32) < c2) (hr3 : ¬ c3 < 0 ∧ ¬ (65535 : Int32) < c3) (hex : (255 : Int32) < c0 ∨ (255 : Int32) < c1 ∨ (255 : Int32) < c2 ∨ (255 : Int32) < c3) :
    own_Met l (⟨"java/lang/String", "<init>", "([C)V"⟩ : MethodName) jdk_42_method_3_code 2 none ws (own_rm 5 2 12 74) Z h0 #[(.ref a1), (.ref ca)] (Q_rmIn1_41 Z a1 gz ca kc c0 c1 c2 c3 u1 h0 n0) := by
  refine own_met (plainFor_of_name pn_3) (fun m => ef_rmIn1_41 m a1 ca) ?_
  intro p e s m below meth c s₁ Φ hΦ X0 hx hby hml hown hnm hret hlk hZ e0
  have N0 := Fr.nil n0
  have B : own_B p c _ _ := ⟨hx, hby, hml⟩
  have K0 : Keep h0 h0 [a1] := Keep.refl _ _
  show own_G p e below Φ s₁ (mkF m 0 #[.val (.ref a1), .val (.ref ca)] [])
  refine o_aloadN X0 B d3_0 rfl rfl ?_
  refine o_aloadN X0 B d3_1 rfl rfl ?_
  refine o_iconst X0 B d3_2 ?_
  refine o_aloadN X0 B d3_3 rfl rfl ?_
  obtain ⟨cl1, Ar1, zq1, S1, M1, H1, G1⟩ := id V_ca
  refine own_go (fun _ => X0.arraylength hx (by rw [e0]; exact Ar1.1) (State.isArrayOf_alike hZ.alike Ar1.2.1) (g := (mkF m 4 #[.val (.ref a1), .val (.ref ca)] [(.ref ca), (.int 0), (.ref ca), (.ref a1)])) rfl rfl (hb hby d3_4) _) ?_
  rw [len_of S1 M1]
  show own_G p e below Φ s₁ (mkF m 5 #[.val (.ref a1), .val (.ref ca)] [(.int 4), (.int 0), (.ref ca), (.ref a1)])
  refine o_anull X0 B d3_5 ?_
  refine o_cI (argsL := [(.ref ca), (.int 0), (.int 4), .null]) (rest := []) X0 B hZ hown rfl (wd_14 hw) (wd_15 hw) (wd_17 hw) (wd_9 hw) (by decide) rfl 0 (rmIn2_41 l Z a0 hw [] a1 gz ca kc c0 c1 c2 c3 u1 h0 n0 Z0 O0 S_COMPACT_STRINGS hgz S__assertionsDisabled S_HI_BYTE_SHIFT S_LO_BYTE_SHIFT E_a1 F_value_a1 F_coder_a1 g_a1 V_ca ne_a1_ca hr0 hr1 hr2 hr3 hex) (by decide) (by decide) (lenOf pd_13 rfl) rfl rfl rfl d3_6 e0 (by decide) (by decide) rfl ?_
  rintro _ T2 _ X2 ⟨vb_2, ns_vb_2, kb_2, rfl, N2q, Kq2, p2_0, p2_1, p2_2, p2_3⟩
  have N2 := Fr.app N0 N2q
  have ne_a1_vb_2 : a1 ≠ vb_2 := Nat.ne_of_lt (Nat.lt_of_lt_of_le E_a1.lt ns_vb_2)
  have ne_ca_vb_2 : ca ≠ vb_2 := Nat.ne_of_lt (Nat.lt_of_lt_of_le V_ca.lt ns_vb_2)
  have sz_vb_2 : h0.size ≤ vb_2 := Nat.le_trans K0.1 ns_vb_2
  have K2 := K0.trans Kq2 (allS (Or.inl (List.mem_of_getElem? (i := 0) rfl)) all0)
  have g_vb_2 : n0 ≤ vb_2 := Nat.le_trans Z0 ns_vb_2
  have Zp2 : n0 ≤ T2.heap.size := Nat.le_trans Z0 Kq2.1
  have O3 := O0.keep Kq2 (allS g_a1 all0)
  rw [hΦ]
  refine own_ret X2 (v := none) (fun _ => rfl) hlk (fun fs hr => X2.returnOut hx hret (hb hby d3_9) hr) ?_ (by decide) (by decide)
  exact ⟨vb_2, sz_vb_2, kb_2, rfl, N2, K2, p2_0, p2_1, p2_2, p2_3⟩
theorem d4_8 : decode jdk_42_method_149_code 8 = .ok (.aload_n 0, 1) := by decide +kernel
theorem d4_9 : decode jdk_42_method_149_code 9 = .ok (.ldc 7, 2) := by decide +kernel
theorem wd_21 {Z : State} {a0 : Array Value} (hw : own_H Z a0) : ((Jvm.Cond.stringLink "java/lang/String" (7 : Nat) "") : Jvm.Cond).before a0 Z = true := hw _ (List.mem_of_getElem? (i := 21) rfl)
theorem d4_11 : decode jdk_42_method_149_code 11 = .ok (.getfield 9, 3) := by decide +kernel
theorem d4_14 : decode jdk_42_method_149_code 14 = .ok (.putfield 9, 3) := by decide +kernel
theorem d4_17 : decode jdk_42_method_149_code 17 = .ok (.aload_n 0, 1) := by decide +kernel
theorem d4_18 : decode jdk_42_method_149_code 18 = .ok (.ldc 7, 2) := by decide +kernel
theorem d4_20 : decode jdk_42_method_149_code 20 = .ok (.getfield 15, 3) := by decide +kernel
theorem d4_23 : decode jdk_42_method_149_code 23 = .ok (.putfield 15, 3) := by decide +kernel
theorem d4_26 : decode jdk_42_method_149_code 26 = .ok (.return_, 1) := by decide +kernel
theorem ef_rmIn2_z (m : MethodId) (a1 : Addr) (ca : Addr) : entryFrame m #[(.ref a1), (.ref ca), (.int 0), (.int 0), .null] 6 = mkF m 0 #[.val (.ref a1), .val (.ref ca), .val (.int 0), .val (.int 0), .val .null, .unset] [] := by first | (simp [entryFrame, mkF, argsToLocals, Value.category]; done) | rfl
def Q_rmIn2_z (Z : State) (a1 : Addr) (ca : Addr) (u1 : Value) (h0 : Heap) (n0 : Nat) (v : Option Value) (h : Heap) (L : List Loc) : Prop := ∃ vb : Addr, ∃ kb : ClassId, v = none ∧ Fr n0 L ∧ Keep h0 h [a1] ∧ Exa Z h a1 "java/lang/String" ∧ Fld Z h a1 "java/lang/String" "value" "[B" (.ref vb) ∧ Fld Z h a1 "java/lang/String" "coder" "B" (.int 0) ∧ Arv Z h vb kb .byte (0 : Int32) [] (.int 0)
set_option maxRecDepth 65536 in
set_option maxHeartbeats 40000000 in
theorem rmIn2_z (l : Launch) (Z : State) (a0 : Array Value) (hw : own_H Z a0) (ws : List Jvm.Cond) (a1 : Addr) (ca : Addr) (u1 : Value) (h0 : Heap) (n0 : Nat) (Z0 : n0 ≤ h0.size) (O0 : Old Z n0 h0) (E_a1 : Exa Z h0 a1 "java/lang/String") (F_value_a1 : Fld Z h0 a1 "java/lang/String" "value" "[B" .null) (F_coder_a1 : Fld Z h0 a1 "java/lang/String" "coder" "B" u1) (g_a1 : n0 ≤ a1) (hch : Jvm.Lit.constHeld Z "java/lang/String" 7) (hcw : Jvm.Lit.compactW.before a0 Z = true) :
    MetFree l (⟨"java/lang/String", "<init>", "([CIILjava/lang/Void;)V"⟩ : MethodName) (head1 (Jvm.Cond.code (⟨"java/lang/String", "<init>", "([CIILjava/lang/Void;)V"⟩ : MethodName) jdk_42_method_149_code 6 none :: ws) (own_rm 1 2 4 12)) (fun a U => a = #[(.ref a1), (.ref ca), (.int 0), (.int 0), .null] ∧ Z.Warmed39 U.vm ∧ U.heap = h0 ∧ IB Z U.vm []) (fun _ _ _ _ _ => True) (fun _ U o U' => ∃ v L, o = .returned v ∧ Q_rmIn2_z Z a1 ca u1 h0 n0 v U'.heap L ∧ ReturnedEndW U o U' L (own_rm 1 2 4 12).cells (own_rm 1 2 4 12).slots) := by
  refine MetFree.of_bodySF (plainFor_of_name pn_3) hisR ?_
  intro p e s m args below meth c s₁ Bd hml0 hP hK
  obtain ⟨rfl, hZ, hh, hI⟩ := hP
  have hx := Bd.exec
  have hby := Bd.bytes
  have hml : c.maxLocals = 6 := hml0
  have B : own_B p c _ _ := ⟨hx, hby, hml⟩
  have hown : s.vm.findClass "java/lang/String" = some m.cls := findClass_of_methodNamed Bd.named
  have hnm := (name_of_methodNamed Bd.named Bd.method).1
  have X0 : Stand p l e (own_rm 1 2 4 12) (s.setVm s.vm) m #[(.ref a1), (.ref ca), (.int 0), (.int 0), .null] below meth c s₁ [] 0 0 := Stand.of_body Bd
  have e0 : s₁.heap = h0 := by rw [← hh, Bd.state]; rfl
  have N0 := Fr.nil n0
  have K0 : Keep h0 h0 [a1] := Keep.refl _ _
  have hS0 : s.Since s.vm 0 := (State.WarmedH.refl s).since 0
  have hk0 : 0 ≤ h0.size := Nat.zero_le _
  replace hZ : Z.Warmed39 (s.setVm s.vm).vm := hZ
  replace hown : (s.setVm s.vm).vm.findClass "java/lang/String" = some m.cls := hown
  suffices G0 : own_G p e below (own_EW s below (Q_rmIn2_z Z a1 ca u1 h0 n0) (own_rm 1 2 4 12).cells (own_rm 1 2 4 12).slots) s₁ (mkF m 0 #[.val (.ref a1), .val (.ref ca), .val (.int 0), .val (.int 0), .val .null, .unset] []) by
    obtain ⟨zt, zst, zo, zq1, zq2, zq3⟩ := G0
    exact ⟨zt, zo, castTop (ef_rmIn2_z m a1 ca) zst, zq1, zq2, zq3⟩
  obtain ⟨Φ, hΦ⟩ : ∃ Φ, Φ = own_EW s below (Q_rmIn2_z Z a1 ca u1 h0 n0) (own_rm 1 2 4 12).cells (own_rm 1 2 4 12).slots := ⟨_, rfl⟩
  rw [← hΦ]
  show own_G p e below Φ s₁ (mkF m 0 #[.val (.ref a1), .val (.ref ca), .val (.int 0), .val (.int 0), .val .null, .unset] [])
  refine o_aloadN X0 B d4_0 rfl rfl ?_
  obtain ⟨T1, X1, e1, st1⟩ := initO X0 hx hZ hown (wd_18 hw) (wd_19 hw) (wd_20 hw) e0 (g := (mkF m 1 #[.val (.ref a1), .val (.ref ca), .val (.int 0), .val (.int 0), .val .null, .unset] [(.ref a1)])) rfl (by rw [hml]; rfl) rfl (hb hby d4_1) (by decide) (W := 0) (by show 2 * 0 + _ ≤ _; exact Nat.le_of_eq rfl) (by decide)
  refine own_go st1 ?_
  refine o_iloadN X1 B d4_4 rfl ?_
  refine o_ifN X1 B d4_5 (XT.i0_ne_f (by decide : ((0 : Int32) = (0 : Int32)))) ?_
  refine o_aloadN X1 B d4_8 rfl rfl ?_
  obtain ⟨os, T2, h2, zk2, lb, kl, X2, e2, E2, hS2, hk2, hZ, hown, Ex2, Fc2, Fv2, Va2, -, -, Ib2, Lt, st2⟩ := ldcSVL X1 hx hZ hown (wd_21 hw) (fun d hd => hw d (own_sub d hd)) e1 hS0 hk0 (Fr.nil _) (fun b cl q => by rw [hh]; exact O0.2.2 b cl q) hI (List.not_mem_nil) hch hcw (vs := []) (z := 0) ⟨by simp, rfl⟩ (by decide) rfl (g := (mkF m 9 #[.val (.ref a1), .val (.ref ca), .val (.int 0), .val (.int 0), .val .null, .unset] [(.ref a1)])) rfl (hb hby d4_9) (n := 0) (by decide +kernel) (by decide) (by decide) (by decide)
  have K2 := K0.ext E2
  have Zp2 : n0 ≤ h2.size := Nat.le_trans Z0 E2.1
  refine own_go st2 ?_
  have O3 := O0.ext E2
  have f4 : Fld Z h2 a1 "java/lang/String" "value" "[B" .null := F_value_a1.ext E2
  have ne_a1_os : a1 ≠ os := Fld.ne f4 Fv2 nofun
  have f5 : Exa Z h2 a1 "java/lang/String" := E_a1.ext E2
  have ne_a1_lb : a1 ≠ lb := Exa.neArv f5 Va2 (wd_8 hw)
  obtain ⟨T6, X6, e6, st6⟩ := getF X2 hx hZ hown (host := "") (Or.inl (wd_27 hw)) Via.refl e2 Fv2 (g := (mkF m 11 #[.val (.ref a1), .val (.ref ca), .val (.int 0), .val (.int 0), .val .null, .unset] [(.ref os), (.ref a1)])) rfl rfl (hb hby d4_11)
  refine own_go st6 ?_
  obtain ⟨T7, h7, X7, e7, W7, st7⟩ := putF X6 hx hZ hown (host := "") (Or.inl (wd_27 hw)) Via.refl e6 f4 f5 (Or.inr ⟨(wd_23 hw), rfl, hnm⟩) (wd_8 hw) (ty := (.array .byte)) (by decide) rfl rfl (g := (mkF m 14 #[.val (.ref a1), .val (.ref ca), .val (.int 0), .val (.int 0), .val .null, .unset] [(.ref lb), (.ref a1)])) rfl rfl (hb hby d4_14)
  refine own_go st7 ?_
  have O8 := O3.wr W7 g_a1
  have N7 := Fr.snoc X7 N0 g_a1
  have K7 := K2.wr W7 (Or.inl (List.mem_of_getElem? (i := 0) rfl))
  have Zp7 : n0 ≤ h7.size := Nat.le_trans Zp2 (Keep.of_wr W7).1
  have hk7 := Nat.le_trans hk2 (Keep.of_wr W7).1
  have f7w := f4.same W7
  show own_G p e below Φ T7 (mkF m 17 #[.val (.ref a1), .val (.ref ca), .val (.int 0), .val (.int 0), .val .null, .unset] [])
  refine o_aloadN X7 B d4_17 rfl rfl ?_
  refine own_go (ldcAgain X7 hx hZ hown (wd_21 hw) Lt (g := (mkF m 18 #[.val (.ref a1), .val (.ref ca), .val (.int 0), .val (.int 0), .val .null, .unset] [(.ref a1)])) rfl (hb hby d4_18)) ?_
  have f9 : Fld Z h7 os "java/lang/String" "coder" "B" (.int 0) := Fc2.other W7 (Or.inl (Ne.symm ne_a1_os))
  obtain ⟨T10, X10, e10, st10⟩ := getF X7 hx hZ hown (host := "") (Or.inl (wd_28 hw)) Via.refl e7 f9 (g := (mkF m 20 #[.val (.ref a1), .val (.ref ca), .val (.int 0), .val (.int 0), .val .null, .unset] [(.ref os), (.ref a1)])) rfl rfl (hb hby d4_20)
  refine own_go st10 ?_
  have f11 : Exa Z h7 a1 "java/lang/String" := f5.wr W7
  have f12 : Fld Z h2 a1 "java/lang/String" "coder" "B" u1 := F_coder_a1.ext E2
  have f13 : Fld Z h7 a1 "java/lang/String" "coder" "B" u1 := f12.other W7 (Or.inr (sl_1 hw))
  obtain ⟨T14, h14, X14, e14, W14, st14⟩ := putFN X10 hx hZ hown (wd_28 hw) Via.refl e10 f13 f11 (Or.inr ⟨(wd_24 hw), rfl, hnm⟩) (wd_8 hw) (ty := .byte) (v' := (.int 0)) (by decide) rfl (fits_nar_byte (0 : Int32)) (g := (mkF m 23 #[.val (.ref a1), .val (.ref ca), .val (.int 0), .val (.int 0), .val .null, .unset] [(.int 0), (.ref a1)])) rfl rfl (hb hby d4_23)
  refine own_go st14 ?_
  have O15 := O8.wr W14 g_a1
  have N14 := Fr.snoc X14 N7 g_a1
  have K14 := K7.wr W14 (Or.inl (List.mem_of_getElem? (i := 0) rfl))
  have Zp14 : n0 ≤ h14.size := Nat.le_trans Zp7 (Keep.of_wr W14).1
  have hk14 := Nat.le_trans hk7 (Keep.of_wr W14).1
  have f14w := f13.same W14
  have f16 : Exa Z h14 a1 "java/lang/String" := f11.wr W14
  have f17 : Fld Z h14 a1 "java/lang/String" "value" "[B" (.ref lb) := f7w.other W14 (Or.inr (sl_0 hw))
  have f18 : Arv Z h7 lb kl .byte (0 : Int32) [] (.int 0) := Va2.other W7 (Ne.symm ne_a1_lb)
  have f19 : Arv Z h14 lb kl .byte (0 : Int32) [] (.int 0) := f18.other W14 (Ne.symm ne_a1_lb)
  rw [hΦ]
  refine own_retW X14 hS2 (by rw [e14]; exact hk14) (v := none) (fun _ => rfl) (BodyLoose.notSynchronized Bd) (fun fs hr => X14.returnOut hx Bd.returns (hb hby d4_26) hr) ?_ (by decide) (by decide)
  rw [e14]
  exact ⟨lb, kl, rfl, N14, K14, f16, f17, f14w, f19⟩
theorem ef_rmIn1_z (m : MethodId) (a1 : Addr) (ca : Addr) : entryFrame m #[(.ref a1), (.ref ca)] 2 = mkF m 0 #[.val (.ref a1), .val (.ref ca)] [] := by first | (simp [entryFrame, mkF, argsToLocals, Value.category]; done) | rfl
def Q_rmIn1_z (Z : State) (a1 : Addr) (ca : Addr) (kc : ClassId) (u1 : Value) (h0 : Heap) (n0 : Nat) (v : Option Value) (h : Heap) (L : List Loc) : Prop := ∃ vb : Addr, ∃ kb : ClassId, v = none ∧ Fr n0 L ∧ Keep h0 h [a1] ∧ Exa Z h a1 "java/lang/String" ∧ Fld Z h a1 "java/lang/String" "value" "[B" (.ref vb) ∧ Fld Z h a1 "java/lang/String" "coder" "B" (.int 0) ∧ Arv Z h vb kb .byte (0 : Int32) [] (.int 0)
set_option maxRecDepth 65536 in
set_option maxHeartbeats 40000000 in
theorem rmIn1_z (l : Launch) (Z : State) (a0 : Array Value) (hw : own_H Z a0) (ws : List Jvm.Cond) (a1 : Addr) (ca : Addr) (kc : ClassId) (u1 : Value) (h0 : Heap) (n0 : Nat) (Z0 : n0 ≤ h0.size) (O0 : Old Z n0 h0) (E_a1 : Exa Z h0 a1 "java/lang/String") (F_value_a1 : Fld Z h0 a1 "java/lang/String" "value" "[B" .null) (F_coder_a1 : Fld Z h0 a1 "java/lang/String" "coder" "B" u1) (g_a1 : n0 ≤ a1) (V_ca : Arv Z h0 ca kc .char (0 : Int32) [] (.int 0)) (hch : Jvm.Lit.constHeld Z "java/lang/String" 7) (hcw : Jvm.Lit.compactW.before a0 Z = true) :
    MetFree l (⟨"java/lang/String", "<init>", "([C)V"⟩ : MethodName) (head1 (Jvm.Cond.code (⟨"java/lang/String", "<init>", "([C)V"⟩ : MethodName) jdk_42_method_3_code 2 none :: ws) (own_rm 2 2 4 29)) (fun a U => a = #[(.ref a1), (.ref ca)] ∧ Z.Warmed39 U.vm ∧ U.heap = h0 ∧ IB Z U.vm []) (fun _ _ _ _ _ => True) (fun _ U o U' => ∃ v L, o = .returned v ∧ Q_rmIn1_z Z a1 ca kc u1 h0 n0 v U'.heap L ∧ ReturnedEndW U o U' L (own_rm 2 2 4 29).cells (own_rm 2 2 4 29).slots) := by
  refine MetFree.of_bodySF (plainFor_of_name pn_3) hisR ?_
  intro p e s m args below meth c s₁ Bd hml0 hP hK
  obtain ⟨rfl, hZ, hh, hI⟩ := hP
  have hx := Bd.exec
  have hby := Bd.bytes
  have hml : c.maxLocals = 2 := hml0
  have B : own_B p c _ _ := ⟨hx, hby, hml⟩
  have hown : s.vm.findClass "java/lang/String" = some m.cls := findClass_of_methodNamed Bd.named
  have hnm := (name_of_methodNamed Bd.named Bd.method).1
  have X0 : Stand p l e (own_rm 2 2 4 29) (s.setVm s.vm) m #[(.ref a1), (.ref ca)] below meth c s₁ [] 0 0 := Stand.of_body Bd
  have e0 : s₁.heap = h0 := by rw [← hh, Bd.state]; rfl
  have N0 := Fr.nil n0
  have K0 : Keep h0 h0 [a1] := Keep.refl _ _
  have hS0 : s.Since s.vm 0 := (State.WarmedH.refl s).since 0
  have hk0 : 0 ≤ h0.size := Nat.zero_le _
  replace hZ : Z.Warmed39 (s.setVm s.vm).vm := hZ
  replace hown : (s.setVm s.vm).vm.findClass "java/lang/String" = some m.cls := hown
  suffices G0 : own_G p e below (own_EW s below (Q_rmIn1_z Z a1 ca kc u1 h0 n0) (own_rm 2 2 4 29).cells (own_rm 2 2 4 29).slots) s₁ (mkF m 0 #[.val (.ref a1), .val (.ref ca)] []) by
    obtain ⟨zt, zst, zo, zq1, zq2, zq3⟩ := G0
    exact ⟨zt, zo, castTop (ef_rmIn1_z m a1 ca) zst, zq1, zq2, zq3⟩
  obtain ⟨Φ, hΦ⟩ : ∃ Φ, Φ = own_EW s below (Q_rmIn1_z Z a1 ca kc u1 h0 n0) (own_rm 2 2 4 29).cells (own_rm 2 2 4 29).slots := ⟨_, rfl⟩
  rw [← hΦ]
  show own_G p e below Φ s₁ (mkF m 0 #[.val (.ref a1), .val (.ref ca)] [])
  refine o_aloadN X0 B d3_0 rfl rfl ?_
  refine o_aloadN X0 B d3_1 rfl rfl ?_
  refine o_iconst X0 B d3_2 ?_
  refine o_aloadN X0 B d3_3 rfl rfl ?_
  obtain ⟨cl1, Ar1, zq1, S1, M1, H1, G1⟩ := id V_ca
  refine own_go (fun _ => X0.arraylength hx (by rw [e0]; exact Ar1.1) (State.isArrayOf_alike hZ.alike Ar1.2.1) (g := (mkF m 4 #[.val (.ref a1), .val (.ref ca)] [(.ref ca), (.int 0), (.ref ca), (.ref a1)])) rfl rfl (hb hby d3_4) _) ?_
  rw [len_of S1 M1]
  show own_G p e below Φ s₁ (mkF m 5 #[.val (.ref a1), .val (.ref ca)] [(.int 0), (.int 0), (.ref ca), (.ref a1)])
  refine o_anull X0 B d3_5 ?_
  obtain ⟨_, _, ⟨T2, zL2, zk2, zn2⟩, -, X2, hS2q, hg2, ⟨Lc2, hQ2, zl2, zy2, zz2⟩, st2⟩ := X0.specialBackS hx (y := (⟨"java/lang/String", "<init>", "([CIILjava/lang/Void;)V"⟩ : MethodName)) rfl hown (mvT hZ (wd_14 hw)) (mvT hZ (wd_15 hw)) (mvT hZ (wd_17 hw)) (by decide) (own_backI (W := 0) (rmIn2_z l Z a0 hw [] a1 ca u1 h0 n0 Z0 O0 E_a1 F_value_a1 F_coder_a1 g_a1 hch hcw) hZ hI (wd_17 hw) (wd_9 hw) (by decide) (by decide)) (g := (mkF m 6 #[.val (.ref a1), .val (.ref ca)] [.null, (.int 0), (.int 0), (.ref ca), (.ref a1)])) rfl (by rw [hml]; rfl) (Steps.refl _) (a := a1) (argsL := [(.ref ca), (.int 0), (.int 0), .null]) (rest := []) (lenOf pd_13 rfl) rfl (by show 2 * 0 + _ ≤ _; exact Nat.le_of_eq rfl) (hb hby d3_6) (fun _ _ => ⟨rfl, e0, (by decide : 0 + 2 ≤ _), (by decide : 0 + 4 ≤ _)⟩)
  dsimp only [Pt.U, Pt.locs, Pt.cells, Pt.slots] at X2 zl2 zy2 zz2 st2 hQ2 hS2q hg2
  obtain ⟨X2, hS2, hZ, hown⟩ := rebS hS0 (by rw [e0]; exact hk0 : _ ≤ s₁.heap.size) X2 hS2q hg2 hZ hown
  subst zl2 zy2 zz2
  obtain ⟨vb_2, kb_2, rfl, N2q, Kq2, p2_0, p2_1, p2_2, p2_3⟩ := hQ2
  have N2 := Fr.app N0 N2q
  refine own_on st2 ?_
  have K2 := K0.trans Kq2 (allS (Or.inl (List.mem_of_getElem? (i := 0) rfl)) all0)
  have Zp2 : n0 ≤ T2.heap.size := Nat.le_trans Z0 Kq2.1
  have O3 := O0.keep Kq2 (allS g_a1 all0)
  rw [hΦ]
  refine own_retW X2 hS2 (Nat.le_refl _) (v := none) (fun _ => rfl) (BodyLoose.notSynchronized Bd) (fun fs hr => X2.returnOut hx Bd.returns (hb hby d3_9) hr) ?_ (by decide) (by decide)
  exact ⟨vb_2, kb_2, rfl, N2, K2, p2_0, p2_1, p2_2, p2_3⟩
theorem d2_0 : decode method_4_code 0 = .ok (.iload_n 0, 1) := by decide +kernel
theorem d2_1 : decode method_4_code 1 = .ok (.ifCond .ne 14, 3) := by decide +kernel
theorem d2_4 : decode method_4_code 4 = .ok (.new 8, 3) := by decide +kernel
theorem wd_7 {Z : State} {a0 : Array Value} (hw : own_H Z a0) : ((Jvm.Cond.classLink "com/example/edgewarden/edgewarden/xacml/XacmlSyntaxIsWhiteSpacePinLaw" (8 : Nat) "java/lang/String") : Jvm.Cond).before a0 Z = true := hw _ (List.mem_of_getElem? (i := 7) rfl)
theorem d2_7 : decode method_4_code 7 = .ok (.dup, 1) := by decide +kernel
theorem d2_8 : decode method_4_code 8 = .ok (.iconst 0, 1) := by decide +kernel
theorem d2_9 : decode method_4_code 9 = .ok (.newarray .char, 2) := by decide +kernel
theorem wd_10 {Z : State} {a0 : Array Value} (hw : own_H Z a0) : ((Jvm.Cond.arrayClass Jvm.ClassFile.FieldType.char) : Jvm.Cond).before a0 Z = true := hw _ (List.mem_of_getElem? (i := 10) rfl)
theorem d2_11 : decode method_4_code 11 = .ok (.invokespecial 10, 3) := by decide +kernel
theorem wd_11 {Z : State} {a0 : Array Value} (hw : own_H Z a0) : ((Jvm.Cond.methodLink "com/example/edgewarden/edgewarden/xacml/XacmlSyntaxIsWhiteSpacePinLaw" (10 : Nat) ({ cls := "java/lang/String", name := "<init>", desc := "([C)V" } : Jvm.MethodName)) : Jvm.Cond).before a0 Z = true := hw _ (List.mem_of_getElem? (i := 11) rfl)
theorem wd_13 {Z : State} {a0 : Array Value} (hw : own_H Z a0) : ((Jvm.Cond.code ({ cls := "java/lang/String", name := "<init>", desc := "([C)V" } : Jvm.MethodName) jdk_42_method_3_code (2 : Nat) (Option.none : Option Jvm.ClassFile.FieldType)) : Jvm.Cond).before a0 Z = true := hw _ (List.mem_of_getElem? (i := 13) rfl)
theorem pd_14 : parseMethodDescriptor "([C)V" = some ⟨[(.array .char)], none⟩ := by decide +kernel
theorem wd_12 {Z : State} {a0 : Array Value} (hw : own_H Z a0) : ((Jvm.Cond.instanceMethod ({ cls := "java/lang/String", name := "<init>", desc := "([C)V" } : Jvm.MethodName)) : Jvm.Cond).before a0 Z = true := hw _ (List.mem_of_getElem? (i := 12) rfl)
theorem d2_14 : decode method_4_code 14 = .ok (.areturn, 1) := by decide +kernel
theorem ef_rmTx_z (m : MethodId) (c0 : Int32) (c1 : Int32) (c2 : Int32) (c3 : Int32) : entryFrame m #[(.int 0), (.int c0), (.int c1), (.int c2), (.int c3)] 5 = mkF m 0 #[.val (.int 0), .val (.int c0), .val (.int c1), .val (.int c2), .val (.int c3)] [] := by first | (simp [entryFrame, mkF, argsToLocals, Value.category]; done) | rfl
def Q_rmTx_z (Z : State) (c0 : Int32) (c1 : Int32) (c2 : Int32) (c3 : Int32) (h0 : Heap) (n0 : Nat) (v : Option Value) (h : Heap) (L : List Loc) : Prop := ∃ so : Addr, h0.size ≤ so ∧ ∃ vb : Addr, ∃ kb : ClassId, v = some (.ref so) ∧ Fr n0 L ∧ Keep h0 h [] ∧ Exa Z h so "java/lang/String" ∧ Fld Z h so "java/lang/String" "value" "[B" (.ref vb) ∧ Fld Z h so "java/lang/String" "coder" "B" (.int 0) ∧ Arv Z h vb kb .byte (0 : Int32) [] (.int 0)
set_option maxRecDepth 65536 in
set_option maxHeartbeats 40000000 in
theorem rmTx_z (l : Launch) (Z : State) (a0 : Array Value) (hw : own_H Z a0) (ws : List Jvm.Cond) (c0 : Int32) (c1 : Int32) (c2 : Int32) (c3 : Int32) (h0 : Heap) (n0 : Nat) (Z0 : n0 ≤ h0.size) (O0 : Old Z n0 h0) (hch : Jvm.Lit.constHeld Z "java/lang/String" 7) (hcw : Jvm.Lit.compactW.before a0 Z = true) :
    MetFree l (⟨"com/example/edgewarden/edgewarden/xacml/XacmlSyntaxIsWhiteSpacePinLaw", "text", "(ICCCC)Ljava/lang/String;"⟩ : MethodName) (head1 (Jvm.Cond.code (⟨"com/example/edgewarden/edgewarden/xacml/XacmlSyntaxIsWhiteSpacePinLaw", "text", "(ICCCC)Ljava/lang/String;"⟩ : MethodName) method_4_code 5 (some (.object "java/lang/String")) :: ws) (own_rm 3 4 8 43)) (fun a U => a = #[(.int 0), (.int c0), (.int c1), (.int c2), (.int c3)] ∧ Z.Warmed39 U.vm ∧ U.heap = h0 ∧ IB Z U.vm []) (fun _ _ _ _ _ => True) (fun _ U o U' => ∃ v L, o = .returned v ∧ Q_rmTx_z Z c0 c1 c2 c3 h0 n0 v U'.heap L ∧ ReturnedEndW U o U' L (own_rm 3 4 8 43).cells (own_rm 3 4 8 43).slots) := by
  refine MetFree.of_bodySF (plainFor_of_name pn_0) hisR ?_
  intro p e s m args below meth c s₁ Bd hml0 hP hK
  obtain ⟨rfl, hZ, hh, hI⟩ := hP
  have hx := Bd.exec
  have hby := Bd.bytes
  have hml : c.maxLocals = 5 := hml0
  have B : own_B p c _ _ := ⟨hx, hby, hml⟩
  have hown : s.vm.findClass "com/example/edgewarden/edgewarden/xacml/XacmlSyntaxIsWhiteSpacePinLaw" = some m.cls := findClass_of_methodNamed Bd.named
  have hnm := (name_of_methodNamed Bd.named Bd.method).1
  have X0 : Stand p l e (own_rm 3 4 8 43) (s.setVm s.vm) m #[(.int 0), (.int c0), (.int c1), (.int c2), (.int c3)] below meth c s₁ [] 0 0 := Stand.of_body Bd
  have e0 : s₁.heap = h0 := by rw [← hh, Bd.state]; rfl
  have N0 := Fr.nil n0
  have K0 : Keep h0 h0 [] := Keep.refl _ _
  have hS0 : s.Since s.vm 0 := (State.WarmedH.refl s).since 0
  have hk0 : 0 ≤ h0.size := Nat.zero_le _
  replace hZ : Z.Warmed39 (s.setVm s.vm).vm := hZ
  replace hown : (s.setVm s.vm).vm.findClass "com/example/edgewarden/edgewarden/xacml/XacmlSyntaxIsWhiteSpacePinLaw" = some m.cls := hown
  suffices G0 : own_G p e below (own_EW s below (Q_rmTx_z Z c0 c1 c2 c3 h0 n0) (own_rm 3 4 8 43).cells (own_rm 3 4 8 43).slots) s₁ (mkF m 0 #[.val (.int 0), .val (.int c0), .val (.int c1), .val (.int c2), .val (.int c3)] []) by
    obtain ⟨zt, zst, zo, zq1, zq2, zq3⟩ := G0
    exact ⟨zt, zo, castTop (ef_rmTx_z m c0 c1 c2 c3) zst, zq1, zq2, zq3⟩
  obtain ⟨Φ, hΦ⟩ : ∃ Φ, Φ = own_EW s below (Q_rmTx_z Z c0 c1 c2 c3 h0 n0) (own_rm 3 4 8 43).cells (own_rm 3 4 8 43).slots := ⟨_, rfl⟩
  rw [← hΦ]
  show own_G p e below Φ s₁ (mkF m 0 #[.val (.int 0), .val (.int c0), .val (.int c1), .val (.int c2), .val (.int c3)] [])
  refine o_iloadN X0 B d2_0 rfl ?_
  refine o_ifN X0 B d2_1 (XT.i0_ne_f (by decide : ((0 : Int32) = (0 : Int32)))) ?_
  obtain ⟨T1, h1, X1, e1, E1, A1, D1, -, st1⟩ := newO X0 hx hZ hown (wd_7 hw) (wd_8 hw) (wd_9 hw) e0 (g := (mkF m 4 #[.val (.int 0), .val (.int c0), .val (.int c1), .val (.int c2), .val (.int c3)] [])) rfl (hb hby d2_4) (by decide) (by decide)
  obtain ⟨ob1, g1⟩ : ∃ z, z = h0.size := ⟨_, rfl⟩
  rw [← g1] at A1 D1 st1
  have g_ob1 : n0 ≤ ob1 := Nat.le_trans Z0 (Nat.le_of_eq g1.symm)
  have sz_ob1 : h0.size ≤ ob1 := Nat.le_trans K0.1 (Nat.le_of_eq g1.symm)
  have K1 := K0.ext E1
  have Zp1 : n0 ≤ h1.size := Nat.le_trans Z0 E1.1
  have hk1 := Nat.le_trans hk0 E1.1
  refine own_go st1 ?_
  have O2 := O0.ext E1
  have F_value_ob1 : Fld Z h1 ob1 "java/lang/String" "value" "[B" .null := D1 (Or.inr (wd_23 hw)) (ty := (.array .byte)) (by decide)
  have F_coder_ob1 : Fld Z h1 ob1 "java/lang/String" "coder" "B" (.int 0) := D1 (Or.inr (wd_24 hw)) (ty := .byte) (by decide)
  refine o_dup X1 B d2_7 rfl ?_
  refine o_iconst X1 B d2_8 ?_
  obtain ⟨T3, h3, ka3, X3, e3, E3, A3, st3⟩ := newP (aty := .char) X1 hx hZ (wd_10 hw) e1 (g := (mkF m 9 #[.val (.int 0), .val (.int c0), .val (.int c1), .val (.int c2), .val (.int c3)] [(.int 0), (.ref ob1), (.ref ob1)])) rfl (hb hby d2_9) rfl (by decide) (cap := 0) (by decide) (by decide) (by decide) (by decide)
  obtain ⟨ob3, g3⟩ : ∃ z, z = h1.size := ⟨_, rfl⟩
  rw [← g3] at A3 st3
  have ne_ob1_ob3 : ob1 ≠ ob3 := Nat.ne_of_lt (Nat.lt_of_lt_of_le A1.lt (Nat.le_of_eq g3.symm))
  have V3 : Arv Z h3 ob3 ka3 .char (0 : Int32) [] (.int 0) := (Arv.new A3 (by decide)).pad (pad_rep [] (.int 0) 0)
  have g_ob3 : n0 ≤ ob3 := Nat.le_trans Zp1 (Nat.le_of_eq g3.symm)
  have sz_ob3 : h0.size ≤ ob3 := Nat.le_trans K1.1 (Nat.le_of_eq g3.symm)
  have K3 := K1.ext E3
  have Zp3 : n0 ≤ h3.size := Nat.le_trans Zp1 E3.1
  have hk3 := Nat.le_trans hk1 E3.1
  refine own_go st3 ?_
  have O4 := O2.ext E3
  have f5 : Exa Z h3 ob1 "java/lang/String" := A1.ext E3
  have f6 : Fld Z h3 ob1 "java/lang/String" "value" "[B" .null := F_value_ob1.ext E3
  have f7 : Fld Z h3 ob1 "java/lang/String" "coder" "B" (.int 0) := F_coder_ob1.ext E3
  obtain ⟨_, _, ⟨T8, zL8, zk8, zn8⟩, -, X8, hS8q, hg8, ⟨Lc8, hQ8, zl8, zy8, zz8⟩, st8⟩ := X3.specialBackS hx (y := (⟨"java/lang/String", "<init>", "([C)V"⟩ : MethodName)) rfl hown (mvT hZ (wd_11 hw)) (mvT hZ (wd_12 hw)) (mvT hZ (wd_13 hw)) (by decide) (own_backI (W := 1) (rmIn1_z l Z a0 hw [] ob1 ob3 ka3 (.int 0) h3 n0 Zp3 O4 f5 f6 f7 g_ob1 V3 hch hcw) hZ hI (wd_13 hw) (wd_9 hw) (by decide) (by decide)) (g := (mkF m 11 #[.val (.int 0), .val (.int c0), .val (.int c1), .val (.int c2), .val (.int c3)] [(.ref ob3), (.ref ob1), (.ref ob1)])) rfl (by rw [hml]; rfl) (Steps.refl _) (a := ob1) (argsL := [(.ref ob3)]) (rest := [(.ref ob1)]) (lenOf pd_14 rfl) rfl (by show 2 * 0 + _ ≤ _; exact Nat.le_of_eq rfl) (hb hby d2_11) (fun _ _ => ⟨rfl, e3, (by decide : 2 + 2 ≤ _), (by decide : 4 + 4 ≤ _)⟩)
  dsimp only [Pt.U, Pt.locs, Pt.cells, Pt.slots] at X8 zl8 zy8 zz8 st8 hQ8 hS8q hg8
  obtain ⟨X8, hS8, hZ, hown⟩ := rebS hS0 (by rw [e3]; exact hk3 : _ ≤ T3.heap.size) X8 hS8q hg8 hZ hown
  subst zl8 zy8 zz8
  obtain ⟨vb_8, kb_8, rfl, N8q, Kq8, p8_0, p8_1, p8_2, p8_3⟩ := hQ8
  have N8 := Fr.app N0 N8q
  refine own_on st8 ?_
  have K8 := K3.trans Kq8 (allS (Or.inr sz_ob1) all0)
  have Zp8 : n0 ≤ T8.heap.size := Nat.le_trans Zp3 Kq8.1
  have O9 := O4.keep Kq8 (allS g_ob1 all0)
  rw [hΦ]
  refine own_retW X8 hS8 (Nat.le_refl _) (v := some (.ref ob1)) (fun h => by rw [Bd.returns] at h; cases h) (BodyLoose.notSynchronized Bd) (fun fs hr => retOut X8 hx Bd.returns rfl (Or.inr (Or.inr (Or.inr (Or.inr ⟨rfl, rfl, rfl⟩)))) (hb hby d2_14) hr) ?_ (by decide) (by decide)
  exact ⟨ob1, sz_ob1, vb_8, kb_8, rfl, N8, K8, p8_0, p8_1, p8_2, p8_3⟩
theorem d2_15 : decode method_4_code 15 = .ok (.iload_n 0, 1) := by decide +kernel
theorem d2_16 : decode method_4_code 16 = .ok (.iconst 1, 1) := by decide +kernel
theorem d2_17 : decode method_4_code 17 = .ok (.if_icmp .ne 18, 3) := by decide +kernel
theorem d2_20 : decode method_4_code 20 = .ok (.new 8, 3) := by decide +kernel
theorem d2_23 : decode method_4_code 23 = .ok (.dup, 1) := by decide +kernel
theorem d2_24 : decode method_4_code 24 = .ok (.iconst 1, 1) := by decide +kernel
theorem d2_25 : decode method_4_code 25 = .ok (.newarray .char, 2) := by decide +kernel
theorem d2_27 : decode method_4_code 27 = .ok (.dup, 1) := by decide +kernel
theorem d2_28 : decode method_4_code 28 = .ok (.iconst 0, 1) := by decide +kernel
theorem d2_29 : decode method_4_code 29 = .ok (.iload_n 1, 1) := by decide +kernel
theorem d2_30 : decode method_4_code 30 = .ok (.castore, 1) := by decide +kernel
theorem d2_31 : decode method_4_code 31 = .ok (.invokespecial 10, 3) := by decide +kernel
theorem d2_34 : decode method_4_code 34 = .ok (.areturn, 1) := by decide +kernel
theorem ef_rmTx_10 (m : MethodId) (c0 : Int32) (c1 : Int32) (c2 : Int32) (c3 : Int32) : entryFrame m #[(.int 1), (.int c0), (.int c1), (.int c2), (.int c3)] 5 = mkF m 0 #[.val (.int 1), .val (.int c0), .val (.int c1), .val (.int c2), .val (.int c3)] [] := by first | (simp [entryFrame, mkF, argsToLocals, Value.category]; done) | rfl
def Q_rmTx_10 (Z : State) (c0 : Int32) (c1 : Int32) (c2 : Int32) (c3 : Int32) (gz : Int32) (h0 : Heap) (n0 : Nat) (v : Option Value) (h : Heap) (L : List Loc) : Prop := ∃ so : Addr, h0.size ≤ so ∧ ∃ vb : Addr, h0.size ≤ vb ∧ ∃ kb : ClassId, v = some (.ref so) ∧ Fr n0 L ∧ Keep h0 h [] ∧ Exa Z h so "java/lang/String" ∧ Fld Z h so "java/lang/String" "value" "[B" (.ref vb) ∧ Fld Z h so "java/lang/String" "coder" "B" (.int 0) ∧ Arv Z h vb kb .byte (1 : Int32) [(.int (own_lo c0))] (.int 0)
set_option maxRecDepth 65536 in
set_option maxHeartbeats 40000000 in
theorem rmTx_10 (l : Launch) (Z : State) (a0 : Array Value) (hw : own_H Z a0) (ws : List Jvm.Cond) (c0 : Int32) (c1 : Int32) (c2 : Int32) (c3 : Int32) (gz : Int32) (h0 : Heap) (n0 : Nat) (Z0 : n0 ≤ h0.size) (O0 : Old Z n0 h0) (S_COMPACT_STRINGS : Sta Z Z.heap "java/lang/String" "COMPACT_STRINGS" "Z" (.int gz)) (hgz : ¬ gz = (0 : Int32)) (hr0 : ¬ c0 < 0 ∧ ¬ (65535 : Int32) < c0) (hl0 : ¬ (255 : Int32) < c0) :
    own_Met l (⟨"com/example/edgewarden/edgewarden/xacml/XacmlSyntaxIsWhiteSpacePinLaw", "text", "(ICCCC)Ljava/lang/String;"⟩ : MethodName) method_4_code 5 (some (.object "java/lang/String")) ws (own_rm 4 3 6 66) Z h0 #[(.int 1), (.int c0), (.int c1), (.int c2), (.int c3)] (Q_rmTx_10 Z c0 c1 c2 c3 gz h0 n0) := by
  refine own_met (plainFor_of_name pn_0) (fun m => ef_rmTx_10 m c0 c1 c2 c3) ?_
  intro p e s m below meth c s₁ Φ hΦ X0 hx hby hml hown hnm hret hlk hZ e0
  have N0 := Fr.nil n0
  have B : own_B p c _ _ := ⟨hx, hby, hml⟩
  have K0 : Keep h0 h0 [] := Keep.refl _ _
  show own_G p e below Φ s₁ (mkF m 0 #[.val (.int 1), .val (.int c0), .val (.int c1), .val (.int c2), .val (.int c3)] [])
  refine o_iloadN X0 B d2_0 rfl ?_
  refine o_ifY X0 B 15 d2_1 (XT.i0_ne_t (by decide : ¬ ((1 : Int32) = (0 : Int32)))) rfl ?_
  refine o_iloadN X0 B d2_15 rfl ?_
  refine o_iconst X0 B d2_16 ?_
  refine o_icN X0 B d2_17 (XT.ii_ne_f (by decide : ((1 : Int32) = (1 : Int32)))) ?_
  obtain ⟨T1, h1, X1, e1, E1, A1, D1, -, st1⟩ := newO X0 hx hZ hown (wd_7 hw) (wd_8 hw) (wd_9 hw) e0 (g := (mkF m 20 #[.val (.int 1), .val (.int c0), .val (.int c1), .val (.int c2), .val (.int c3)] [])) rfl (hb hby d2_20) (by decide) (by decide)
  obtain ⟨ob1, g1⟩ : ∃ z, z = h0.size := ⟨_, rfl⟩
  rw [← g1] at A1 D1 st1
  have g_ob1 : n0 ≤ ob1 := Nat.le_trans Z0 (Nat.le_of_eq g1.symm)
  have sz_ob1 : h0.size ≤ ob1 := Nat.le_trans K0.1 (Nat.le_of_eq g1.symm)
  have K1 := K0.ext E1
  have Zp1 : n0 ≤ h1.size := Nat.le_trans Z0 E1.1
  refine own_go st1 ?_
  have O2 := O0.ext E1
  have F_value_ob1 : Fld Z h1 ob1 "java/lang/String" "value" "[B" .null := D1 (Or.inr (wd_23 hw)) (ty := (.array .byte)) (by decide)
  have F_coder_ob1 : Fld Z h1 ob1 "java/lang/String" "coder" "B" (.int 0) := D1 (Or.inr (wd_24 hw)) (ty := .byte) (by decide)
  refine o_dup X1 B d2_23 rfl ?_
  refine o_iconst X1 B d2_24 ?_
  show own_G p e below Φ T1 (mkF m 25 #[.val (.int 1), .val (.int c0), .val (.int c1), .val (.int c2), .val (.int c3)] [(.int 1), (.ref ob1), (.ref ob1)])
  obtain ⟨T3, h3, ka3, X3, e3, E3, A3, st3⟩ := newP (aty := .char) X1 hx hZ (wd_10 hw) e1 (g := (mkF m 25 #[.val (.int 1), .val (.int c0), .val (.int c1), .val (.int c2), .val (.int c3)] [(.int 1), (.ref ob1), (.ref ob1)])) rfl (hb hby d2_25) rfl (by decide) (cap := 1) (by decide) (by decide) (by decide) (by decide)
  obtain ⟨ob3, g3⟩ : ∃ z, z = h1.size := ⟨_, rfl⟩
  rw [← g3] at A3 st3
  have ne_ob1_ob3 : ob1 ≠ ob3 := Nat.ne_of_lt (Nat.lt_of_lt_of_le A1.lt (Nat.le_of_eq g3.symm))
  have V3 : Arv Z h3 ob3 ka3 .char (1 : Int32) [(.int 0)] (.int 0) := (Arv.new A3 (by decide)).pad (pad_rep [] (.int 0) 1)
  have g_ob3 : n0 ≤ ob3 := Nat.le_trans Zp1 (Nat.le_of_eq g3.symm)
  have sz_ob3 : h0.size ≤ ob3 := Nat.le_trans K1.1 (Nat.le_of_eq g3.symm)
  have K3 := K1.ext E3
  have Zp3 : n0 ≤ h3.size := Nat.le_trans Zp1 E3.1
  refine own_go st3 ?_
  have O4 := O2.ext E3
  refine o_dup X3 B d2_27 rfl ?_
  refine o_iconst X3 B d2_28 ?_
  refine o_iloadN X3 B d2_29 rfl ?_
  obtain ⟨cl5, Ar5, zq5, S5, M5, H5, G5⟩ := id V3
  have hin5 : ¬ ((0 : Int32) < 0 ∨ cl5.slots.size ≤ ((0 : Int32)).toNatClampNeg) := inb_of S5 ⟨by decide, by decide⟩
  obtain ⟨T5, h5, X5, e5, W5, st5⟩ := stC X3 hx hZ e3 Ar5 (j := (0 : Int32)) hin5 (g := (mkF m 30 #[.val (.int 1), .val (.int c0), .val (.int c1), .val (.int c2), .val (.int c3)] [(.int c0), (.int 0), (.ref ob3), (.ref ob3), (.ref ob1), (.ref ob1)])) rfl rfl (hb hby d2_30)
  refine own_go st5 ?_
  have V5 : Arv Z h5 ob3 ka3 .char (1 : Int32) [(.int (nar .char c0))] (.int 0) := Arv.set Ar5 zq5 S5 M5 H5 G5 (fits_nar_char c0) W5 0 rfl (Nat.le_of_ble_eq_true rfl)
  have V5f : Arv Z h5 ob3 ka3 .char (1 : Int32) [(.int c0)] (.int 0) := by have q := V5; rw [own_narc hr0] at q; exact q
  have O6 := O4.wr W5 g_ob3
  have N5 := Fr.snoc X5 N0 g_ob3
  have K5 := K3.wr W5 (Or.inr sz_ob3)
  have Zp5 : n0 ≤ h5.size := Nat.le_trans Zp3 (Keep.of_wr W5).1
  have f7 : Exa Z h3 ob1 "java/lang/String" := A1.ext E3
  have f8 : Exa Z h5 ob1 "java/lang/String" := f7.wr W5
  have f9 : Fld Z h3 ob1 "java/lang/String" "value" "[B" .null := F_value_ob1.ext E3
  have f10 : Fld Z h5 ob1 "java/lang/String" "value" "[B" .null := f9.other W5 (Or.inl ne_ob1_ob3)
  have f11 : Fld Z h3 ob1 "java/lang/String" "coder" "B" (.int 0) := F_coder_ob1.ext E3
  have f12 : Fld Z h5 ob1 "java/lang/String" "coder" "B" (.int 0) := f11.other W5 (Or.inl ne_ob1_ob3)
  refine o_cI (argsL := [(.ref ob3)]) (rest := [(.ref ob1)]) X5 B hZ hown rfl (wd_11 hw) (wd_12 hw) (wd_13 hw) (wd_9 hw) (by decide) rfl 1 (rmIn1_10 l Z a0 hw [] ob1 gz ob3 ka3 c0 (.int 0) h5 n0 Zp5 O6 S_COMPACT_STRINGS hgz f8 f10 f12 g_ob1 V5f ne_ob1_ob3 hl0) (by decide) (by decide) (lenOf pd_14 rfl) rfl rfl rfl d2_31 e5 (by decide) (by decide) rfl ?_
  rintro _ T13 _ X13 ⟨vb_13, ns_vb_13, kb_13, rfl, N13q, Kq13, p13_0, p13_1, p13_2, p13_3⟩
  have N13 := Fr.app N5 N13q
  have ne_ob1_vb_13 : ob1 ≠ vb_13 := Nat.ne_of_lt (Nat.lt_of_lt_of_le f8.lt ns_vb_13)
  have ne_ob3_vb_13 : ob3 ≠ vb_13 := Nat.ne_of_lt (Nat.lt_of_lt_of_le V5f.lt ns_vb_13)
  have sz_vb_13 : h0.size ≤ vb_13 := Nat.le_trans K5.1 ns_vb_13
  have K13 := K5.trans Kq13 (allS (Or.inr sz_ob1) all0)
  have g_vb_13 : n0 ≤ vb_13 := Nat.le_trans Zp5 ns_vb_13
  have Zp13 : n0 ≤ T13.heap.size := Nat.le_trans Zp5 Kq13.1
  have O14 := O6.keep Kq13 (allS g_ob1 all0)
  rw [hΦ]
  refine own_ret X13 (v := some (.ref ob1)) (own_nr hret) hlk (fun fs hr => retOut X13 hx hret rfl (Or.inr (Or.inr (Or.inr (Or.inr ⟨rfl, rfl, rfl⟩)))) (hb hby d2_34) hr) ?_ (by decide) (by decide)
  exact ⟨ob1, sz_ob1, vb_13, sz_vb_13, kb_13, rfl, N13, K13, p13_0, p13_1, p13_2, p13_3⟩
theorem ef_rmTx_11 (m : MethodId) (c0 : Int32) (c1 : Int32) (c2 : Int32) (c3 : Int32) : entryFrame m #[(.int 1), (.int c0), (.int c1), (.int c2), (.int c3)] 5 = mkF m 0 #[.val (.int 1), .val (.int c0), .val (.int c1), .val (.int c2), .val (.int c3)] [] := by first | (simp [entryFrame, mkF, argsToLocals, Value.category]; done) | rfl
def Q_rmTx_11 (Z : State) (c0 : Int32) (c1 : Int32) (c2 : Int32) (c3 : Int32) (gz : Int32) (h0 : Heap) (n0 : Nat) (v : Option Value) (h : Heap) (L : List Loc) : Prop := ∃ so : Addr, h0.size ≤ so ∧ ∃ vb : Addr, h0.size ≤ vb ∧ ∃ kb : ClassId, v = some (.ref so) ∧ Fr n0 L ∧ Keep h0 h [] ∧ Exa Z h so "java/lang/String" ∧ Fld Z h so "java/lang/String" "value" "[B" (.ref vb) ∧ Fld Z h so "java/lang/String" "coder" "B" (.int 1) ∧ Arv Z h vb kb .byte (2 : Int32) [(.int (own_h0 c0)), (.int (own_h8 c0))] (.int 0)
set_option maxRecDepth 65536 in
set_option maxHeartbeats 40000000 in
theorem rmTx_11 (l : Launch) (Z : State) (a0 : Array Value) (hw : own_H Z a0) (ws : List Jvm.Cond) (c0 : Int32) (c1 : Int32) (c2 : Int32) (c3 : Int32) (gz : Int32) (h0 : Heap) (n0 : Nat) (Z0 : n0 ≤ h0.size) (O0 : Old Z n0 h0) (S_COMPACT_STRINGS : Sta Z Z.heap "java/lang/String" "COMPACT_STRINGS" "Z" (.int gz)) (hgz : ¬ gz = (0 : Int32)) (S__assertionsDisabled : Sta Z Z.heap "java/lang/StringUTF16" "$assertionsDisabled" "Z" (.int 1)) (S_HI_BYTE_SHIFT : Sta Z Z.heap "java/lang/StringUTF16" "HI_BYTE_SHIFT" "I" (.int 0)) (S_LO_BYTE_SHIFT : Sta Z Z.heap "java/lang/StringUTF16" "LO_BYTE_SHIFT" "I" (.int 8)) (hr0 : ¬ c0 < 0 ∧ ¬ (65535 : Int32) < c0) (hex : (255 : Int32) < c0) :
    own_Met l (⟨"com/example/edgewarden/edgewarden/xacml/XacmlSyntaxIsWhiteSpacePinLaw", "text", "(ICCCC)Ljava/lang/String;"⟩ : MethodName) method_4_code 5 (some (.object "java/lang/String")) ws (own_rm 6 4 8 88) Z h0 #[(.int 1), (.int c0), (.int c1), (.int c2), (.int c3)] (Q_rmTx_11 Z c0 c1 c2 c3 gz h0 n0) := by
  refine own_met (plainFor_of_name pn_0) (fun m => ef_rmTx_11 m c0 c1 c2 c3) ?_
  intro p e s m below meth c s₁ Φ hΦ X0 hx hby hml hown hnm hret hlk hZ e0
  have N0 := Fr.nil n0
  have B : own_B p c _ _ := ⟨hx, hby, hml⟩
  have K0 : Keep h0 h0 [] := Keep.refl _ _
  show own_G p e below Φ s₁ (mkF m 0 #[.val (.int 1), .val (.int c0), .val (.int c1), .val (.int c2), .val (.int c3)] [])
  refine o_iloadN X0 B d2_0 rfl ?_
  refine o_ifY X0 B 15 d2_1 (XT.i0_ne_t (by decide : ¬ ((1 : Int32) = (0 : Int32)))) rfl ?_
  refine o_iloadN X0 B d2_15 rfl ?_
  refine o_iconst X0 B d2_16 ?_
  refine o_icN X0 B d2_17 (XT.ii_ne_f (by decide : ((1 : Int32) = (1 : Int32)))) ?_
  obtain ⟨T1, h1, X1, e1, E1, A1, D1, -, st1⟩ := newO X0 hx hZ hown (wd_7 hw) (wd_8 hw) (wd_9 hw) e0 (g := (mkF m 20 #[.val (.int 1), .val (.int c0), .val (.int c1), .val (.int c2), .val (.int c3)] [])) rfl (hb hby d2_20) (by decide) (by decide)
  obtain ⟨ob1, g1⟩ : ∃ z, z = h0.size := ⟨_, rfl⟩
  rw [← g1] at A1 D1 st1
  have g_ob1 : n0 ≤ ob1 := Nat.le_trans Z0 (Nat.le_of_eq g1.symm)
  have sz_ob1 : h0.size ≤ ob1 := Nat.le_trans K0.1 (Nat.le_of_eq g1.symm)
  have K1 := K0.ext E1
  have Zp1 : n0 ≤ h1.size := Nat.le_trans Z0 E1.1
  refine own_go st1 ?_
  have O2 := O0.ext E1
  have F_value_ob1 : Fld Z h1 ob1 "java/lang/String" "value" "[B" .null := D1 (Or.inr (wd_23 hw)) (ty := (.array .byte)) (by decide)
  have F_coder_ob1 : Fld Z h1 ob1 "java/lang/String" "coder" "B" (.int 0) := D1 (Or.inr (wd_24 hw)) (ty := .byte) (by decide)
  refine o_dup X1 B d2_23 rfl ?_
  refine o_iconst X1 B d2_24 ?_
  show own_G p e below Φ T1 (mkF m 25 #[.val (.int 1), .val (.int c0), .val (.int c1), .val (.int c2), .val (.int c3)] [(.int 1), (.ref ob1), (.ref ob1)])
  obtain ⟨T3, h3, ka3, X3, e3, E3, A3, st3⟩ := newP (aty := .char) X1 hx hZ (wd_10 hw) e1 (g := (mkF m 25 #[.val (.int 1), .val (.int c0), .val (.int c1), .val (.int c2), .val (.int c3)] [(.int 1), (.ref ob1), (.ref ob1)])) rfl (hb hby d2_25) rfl (by decide) (cap := 1) (by decide) (by decide) (by decide) (by decide)
  obtain ⟨ob3, g3⟩ : ∃ z, z = h1.size := ⟨_, rfl⟩
  rw [← g3] at A3 st3
  have ne_ob1_ob3 : ob1 ≠ ob3 := Nat.ne_of_lt (Nat.lt_of_lt_of_le A1.lt (Nat.le_of_eq g3.symm))
  have V3 : Arv Z h3 ob3 ka3 .char (1 : Int32) [(.int 0)] (.int 0) := (Arv.new A3 (by decide)).pad (pad_rep [] (.int 0) 1)
  have g_ob3 : n0 ≤ ob3 := Nat.le_trans Zp1 (Nat.le_of_eq g3.symm)
  have sz_ob3 : h0.size ≤ ob3 := Nat.le_trans K1.1 (Nat.le_of_eq g3.symm)
  have K3 := K1.ext E3
  have Zp3 : n0 ≤ h3.size := Nat.le_trans Zp1 E3.1
  refine own_go st3 ?_
  have O4 := O2.ext E3
  refine o_dup X3 B d2_27 rfl ?_
  refine o_iconst X3 B d2_28 ?_
  refine o_iloadN X3 B d2_29 rfl ?_
  obtain ⟨cl5, Ar5, zq5, S5, M5, H5, G5⟩ := id V3
  have hin5 : ¬ ((0 : Int32) < 0 ∨ cl5.slots.size ≤ ((0 : Int32)).toNatClampNeg) := inb_of S5 ⟨by decide, by decide⟩
  obtain ⟨T5, h5, X5, e5, W5, st5⟩ := stC X3 hx hZ e3 Ar5 (j := (0 : Int32)) hin5 (g := (mkF m 30 #[.val (.int 1), .val (.int c0), .val (.int c1), .val (.int c2), .val (.int c3)] [(.int c0), (.int 0), (.ref ob3), (.ref ob3), (.ref ob1), (.ref ob1)])) rfl rfl (hb hby d2_30)
  refine own_go st5 ?_
  have V5 : Arv Z h5 ob3 ka3 .char (1 : Int32) [(.int (nar .char c0))] (.int 0) := Arv.set Ar5 zq5 S5 M5 H5 G5 (fits_nar_char c0) W5 0 rfl (Nat.le_of_ble_eq_true rfl)
  have V5f : Arv Z h5 ob3 ka3 .char (1 : Int32) [(.int c0)] (.int 0) := by have q := V5; rw [own_narc hr0] at q; exact q
  have O6 := O4.wr W5 g_ob3
  have N5 := Fr.snoc X5 N0 g_ob3
  have K5 := K3.wr W5 (Or.inr sz_ob3)
  have Zp5 : n0 ≤ h5.size := Nat.le_trans Zp3 (Keep.of_wr W5).1
  have f7 : Exa Z h3 ob1 "java/lang/String" := A1.ext E3
  have f8 : Exa Z h5 ob1 "java/lang/String" := f7.wr W5
  have f9 : Fld Z h3 ob1 "java/lang/String" "value" "[B" .null := F_value_ob1.ext E3
  have f10 : Fld Z h5 ob1 "java/lang/String" "value" "[B" .null := f9.other W5 (Or.inl ne_ob1_ob3)
  have f11 : Fld Z h3 ob1 "java/lang/String" "coder" "B" (.int 0) := F_coder_ob1.ext E3
  have f12 : Fld Z h5 ob1 "java/lang/String" "coder" "B" (.int 0) := f11.other W5 (Or.inl ne_ob1_ob3)
  refine o_cI (argsL := [(.ref ob3)]) (rest := [(.ref ob1)]) X5 B hZ hown rfl (wd_11 hw) (wd_12 hw) (wd_13 hw) (wd_9 hw) (by decide) rfl 1 (rmIn1_11 l Z a0 hw [] ob1 gz ob3 ka3 c0 (.int 0) h5 n0 Zp5 O6 S_COMPACT_STRINGS hgz S__assertionsDisabled S_HI_BYTE_SHIFT S_LO_BYTE_SHIFT f8 f10 f12 g_ob1 V5f ne_ob1_ob3 hr0 hex) (by decide) (by decide) (lenOf pd_14 rfl) rfl rfl rfl d2_31 e5 (by decide) (by decide) rfl ?_
  rintro _ T13 _ X13 ⟨vb_13, ns_vb_13, kb_13, rfl, N13q, Kq13, p13_0, p13_1, p13_2, p13_3⟩
  have N13 := Fr.app N5 N13q
  have ne_ob1_vb_13 : ob1 ≠ vb_13 := Nat.ne_of_lt (Nat.lt_of_lt_of_le f8.lt ns_vb_13)
  have ne_ob3_vb_13 : ob3 ≠ vb_13 := Nat.ne_of_lt (Nat.lt_of_lt_of_le V5f.lt ns_vb_13)
  have sz_vb_13 : h0.size ≤ vb_13 := Nat.le_trans K5.1 ns_vb_13
  have K13 := K5.trans Kq13 (allS (Or.inr sz_ob1) all0)
  have g_vb_13 : n0 ≤ vb_13 := Nat.le_trans Zp5 ns_vb_13
  have Zp13 : n0 ≤ T13.heap.size := Nat.le_trans Zp5 Kq13.1
  have O14 := O6.keep Kq13 (allS g_ob1 all0)
  rw [hΦ]
  refine own_ret X13 (v := some (.ref ob1)) (own_nr hret) hlk (fun fs hr => retOut X13 hx hret rfl (Or.inr (Or.inr (Or.inr (Or.inr ⟨rfl, rfl, rfl⟩)))) (hb hby d2_34) hr) ?_ (by decide) (by decide)
  exact ⟨ob1, sz_ob1, vb_13, sz_vb_13, kb_13, rfl, N13, K13, p13_0, p13_1, p13_2, p13_3⟩
theorem d2_35 : decode method_4_code 35 = .ok (.iload_n 0, 1) := by decide +kernel
theorem d2_36 : decode method_4_code 36 = .ok (.iconst 2, 1) := by decide +kernel
theorem d2_37 : decode method_4_code 37 = .ok (.if_icmp .ne 22, 3) := by decide +kernel
theorem d2_40 : decode method_4_code 40 = .ok (.new 8, 3) := by decide +kernel
theorem d2_43 : decode method_4_code 43 = .ok (.dup, 1) := by decide +kernel
theorem d2_44 : decode method_4_code 44 = .ok (.iconst 2, 1) := by decide +kernel
theorem d2_45 : decode method_4_code 45 = .ok (.newarray .char, 2) := by decide +kernel
theorem d2_47 : decode method_4_code 47 = .ok (.dup, 1) := by decide +kernel
theorem d2_48 : decode method_4_code 48 = .ok (.iconst 0, 1) := by decide +kernel
theorem d2_49 : decode method_4_code 49 = .ok (.iload_n 1, 1) := by decide +kernel
theorem d2_50 : decode method_4_code 50 = .ok (.castore, 1) := by decide +kernel
theorem d2_51 : decode method_4_code 51 = .ok (.dup, 1) := by decide +kernel
theorem d2_52 : decode method_4_code 52 = .ok (.iconst 1, 1) := by decide +kernel
theorem d2_53 : decode method_4_code 53 = .ok (.iload_n 2, 1) := by decide +kernel
theorem d2_54 : decode method_4_code 54 = .ok (.castore, 1) := by decide +kernel
theorem d2_55 : decode method_4_code 55 = .ok (.invokespecial 10, 3) := by decide +kernel
theorem d2_58 : decode method_4_code 58 = .ok (.areturn, 1) := by decide +kernel
theorem ef_rmTx_20 (m : MethodId) (c0 : Int32) (c1 : Int32) (c2 : Int32) (c3 : Int32) : entryFrame m #[(.int 2), (.int c0), (.int c1), (.int c2), (.int c3)] 5 = mkF m 0 #[.val (.int 2), .val (.int c0), .val (.int c1), .val (.int c2), .val (.int c3)] [] := by first | (simp [entryFrame, mkF, argsToLocals, Value.category]; done) | rfl
def Q_rmTx_20 (Z : State) (c0 : Int32) (c1 : Int32) (c2 : Int32) (c3 : Int32) (gz : Int32) (h0 : Heap) (n0 : Nat) (v : Option Value) (h : Heap) (L : List Loc) : Prop := ∃ so : Addr, h0.size ≤ so ∧ ∃ vb : Addr, h0.size ≤ vb ∧ ∃ kb : ClassId, v = some (.ref so) ∧ Fr n0 L ∧ Keep h0 h [] ∧ Exa Z h so "java/lang/String" ∧ Fld Z h so "java/lang/String" "value" "[B" (.ref vb) ∧ Fld Z h so "java/lang/String" "coder" "B" (.int 0) ∧ Arv Z h vb kb .byte (2 : Int32) [(.int (own_lo c0)), (.int (own_lo c1))] (.int 0)
set_option maxRecDepth 65536 in
set_option maxHeartbeats 40000000 in
theorem rmTx_20 (l : Launch) (Z : State) (a0 : Array Value) (hw : own_H Z a0) (ws : List Jvm.Cond) (c0 : Int32) (c1 : Int32) (c2 : Int32) (c3 : Int32) (gz : Int32) (h0 : Heap) (n0 : Nat) (Z0 : n0 ≤ h0.size) (O0 : Old Z n0 h0) (S_COMPACT_STRINGS : Sta Z Z.heap "java/lang/String" "COMPACT_STRINGS" "Z" (.int gz)) (hgz : ¬ gz = (0 : Int32)) (hr0 : ¬ c0 < 0 ∧ ¬ (65535 : Int32) < c0) (hr1 : ¬ c1 < 0 ∧ ¬ (65535 : Int32) < c1) (hl0 : ¬ (255 : Int32) < c0) (hl1 : ¬ (255 : Int32) < c1) :
    own_Met l (⟨"com/example/edgewarden/edgewarden/xacml/XacmlSyntaxIsWhiteSpacePinLaw", "text", "(ICCCC)Ljava/lang/String;"⟩ : MethodName) method_4_code 5 (some (.object "java/lang/String")) ws (own_rm 4 3 8 66) Z h0 #[(.int 2), (.int c0), (.int c1), (.int c2), (.int c3)] (Q_rmTx_20 Z c0 c1 c2 c3 gz h0 n0) := by
  refine own_met (plainFor_of_name pn_0) (fun m => ef_rmTx_20 m c0 c1 c2 c3) ?_
  intro p e s m below meth c s₁ Φ hΦ X0 hx hby hml hown hnm hret hlk hZ e0
  have N0 := Fr.nil n0
  have B : own_B p c _ _ := ⟨hx, hby, hml⟩
  have K0 : Keep h0 h0 [] := Keep.refl _ _
  show own_G p e below Φ s₁ (mkF m 0 #[.val (.int 2), .val (.int c0), .val (.int c1), .val (.int c2), .val (.int c3)] [])
  refine o_iloadN X0 B d2_0 rfl ?_
  refine o_ifY X0 B 15 d2_1 (XT.i0_ne_t (by decide : ¬ ((2 : Int32) = (0 : Int32)))) rfl ?_
  refine o_iloadN X0 B d2_15 rfl ?_
  refine o_iconst X0 B d2_16 ?_
  refine o_icY X0 B 35 d2_17 (XT.ii_ne_t (by decide : ¬ ((2 : Int32) = (1 : Int32)))) rfl ?_
  refine o_iloadN X0 B d2_35 rfl ?_
  refine o_iconst X0 B d2_36 ?_
  refine o_icN X0 B d2_37 (XT.ii_ne_f (by decide : ((2 : Int32) = (2 : Int32)))) ?_
  show own_G p e below Φ s₁ (mkF m 40 #[.val (.int 2), .val (.int c0), .val (.int c1), .val (.int c2), .val (.int c3)] [])
  obtain ⟨T1, h1, X1, e1, E1, A1, D1, -, st1⟩ := newO X0 hx hZ hown (wd_7 hw) (wd_8 hw) (wd_9 hw) e0 (g := (mkF m 40 #[.val (.int 2), .val (.int c0), .val (.int c1), .val (.int c2), .val (.int c3)] [])) rfl (hb hby d2_40) (by decide) (by decide)
  obtain ⟨ob1, g1⟩ : ∃ z, z = h0.size := ⟨_, rfl⟩
  rw [← g1] at A1 D1 st1
  have g_ob1 : n0 ≤ ob1 := Nat.le_trans Z0 (Nat.le_of_eq g1.symm)
  have sz_ob1 : h0.size ≤ ob1 := Nat.le_trans K0.1 (Nat.le_of_eq g1.symm)
  have K1 := K0.ext E1
  have Zp1 : n0 ≤ h1.size := Nat.le_trans Z0 E1.1
  refine own_go st1 ?_
  have O2 := O0.ext E1
  have F_value_ob1 : Fld Z h1 ob1 "java/lang/String" "value" "[B" .null := D1 (Or.inr (wd_23 hw)) (ty := (.array .byte)) (by decide)
  have F_coder_ob1 : Fld Z h1 ob1 "java/lang/String" "coder" "B" (.int 0) := D1 (Or.inr (wd_24 hw)) (ty := .byte) (by decide)
  refine o_dup X1 B d2_43 rfl ?_
  refine o_iconst X1 B d2_44 ?_
  obtain ⟨T3, h3, ka3, X3, e3, E3, A3, st3⟩ := newP (aty := .char) X1 hx hZ (wd_10 hw) e1 (g := (mkF m 45 #[.val (.int 2), .val (.int c0), .val (.int c1), .val (.int c2), .val (.int c3)] [(.int 2), (.ref ob1), (.ref ob1)])) rfl (hb hby d2_45) rfl (by decide) (cap := 2) (by decide) (by decide) (by decide) (by decide)
  obtain ⟨ob3, g3⟩ : ∃ z, z = h1.size := ⟨_, rfl⟩
  rw [← g3] at A3 st3
  have ne_ob1_ob3 : ob1 ≠ ob3 := Nat.ne_of_lt (Nat.lt_of_lt_of_le A1.lt (Nat.le_of_eq g3.symm))
  have V3 : Arv Z h3 ob3 ka3 .char (2 : Int32) [(.int 0), (.int 0)] (.int 0) := (Arv.new A3 (by decide)).pad (pad_rep [] (.int 0) 2)
  have g_ob3 : n0 ≤ ob3 := Nat.le_trans Zp1 (Nat.le_of_eq g3.symm)
  have sz_ob3 : h0.size ≤ ob3 := Nat.le_trans K1.1 (Nat.le_of_eq g3.symm)
  have K3 := K1.ext E3
  have Zp3 : n0 ≤ h3.size := Nat.le_trans Zp1 E3.1
  refine own_go st3 ?_
  have O4 := O2.ext E3
  refine o_dup X3 B d2_47 rfl ?_
  refine o_iconst X3 B d2_48 ?_
  refine o_iloadN X3 B d2_49 rfl ?_
  obtain ⟨cl5, Ar5, zq5, S5, M5, H5, G5⟩ := id V3
  have hin5 : ¬ ((0 : Int32) < 0 ∨ cl5.slots.size ≤ ((0 : Int32)).toNatClampNeg) := inb_of S5 ⟨by decide, by decide⟩
  obtain ⟨T5, h5, X5, e5, W5, st5⟩ := stC X3 hx hZ e3 Ar5 (j := (0 : Int32)) hin5 (g := (mkF m 50 #[.val (.int 2), .val (.int c0), .val (.int c1), .val (.int c2), .val (.int c3)] [(.int c0), (.int 0), (.ref ob3), (.ref ob3), (.ref ob1), (.ref ob1)])) rfl rfl (hb hby d2_50)
  refine own_go st5 ?_
  have V5 : Arv Z h5 ob3 ka3 .char (2 : Int32) [(.int (nar .char c0)), (.int 0)] (.int 0) := Arv.set Ar5 zq5 S5 M5 H5 G5 (fits_nar_char c0) W5 0 rfl (Nat.le_of_ble_eq_true rfl)
  have V5f : Arv Z h5 ob3 ka3 .char (2 : Int32) [(.int c0), (.int 0)] (.int 0) := by have q := V5; rw [own_narc hr0] at q; exact q
  have O6 := O4.wr W5 g_ob3
  have N5 := Fr.snoc X5 N0 g_ob3
  have K5 := K3.wr W5 (Or.inr sz_ob3)
  have Zp5 : n0 ≤ h5.size := Nat.le_trans Zp3 (Keep.of_wr W5).1
  show own_G p e below Φ T5 (mkF m 51 #[.val (.int 2), .val (.int c0), .val (.int c1), .val (.int c2), .val (.int c3)] [(.ref ob3), (.ref ob1), (.ref ob1)])
  refine o_dup X5 B d2_51 rfl ?_
  refine o_iconst X5 B d2_52 ?_
  refine o_iloadN X5 B d2_53 rfl ?_
  obtain ⟨cl7, Ar7, zq7, S7, M7, H7, G7⟩ := id V5f
  have hin7 : ¬ ((1 : Int32) < 0 ∨ cl7.slots.size ≤ ((1 : Int32)).toNatClampNeg) := inb_of S7 ⟨by decide, by decide⟩
  obtain ⟨T7, h7, X7, e7, W7, st7⟩ := stC X5 hx hZ e5 Ar7 (j := (1 : Int32)) hin7 (g := (mkF m 54 #[.val (.int 2), .val (.int c0), .val (.int c1), .val (.int c2), .val (.int c3)] [(.int c1), (.int 1), (.ref ob3), (.ref ob3), (.ref ob1), (.ref ob1)])) rfl rfl (hb hby d2_54)
  refine own_go st7 ?_
  have V7 : Arv Z h7 ob3 ka3 .char (2 : Int32) [(.int c0), (.int (nar .char c1))] (.int 0) := Arv.set Ar7 zq7 S7 M7 H7 G7 (fits_nar_char c1) W7 1 rfl (Nat.le_of_ble_eq_true rfl)
  have V7f : Arv Z h7 ob3 ka3 .char (2 : Int32) [(.int c0), (.int c1)] (.int 0) := by have q := V7; rw [own_narc hr1] at q; exact q
  have O8 := O6.wr W7 g_ob3
  have N7 := Fr.snoc X7 N5 g_ob3
  have K7 := K5.wr W7 (Or.inr sz_ob3)
  have Zp7 : n0 ≤ h7.size := Nat.le_trans Zp5 (Keep.of_wr W7).1
  have f9 : Exa Z h3 ob1 "java/lang/String" := A1.ext E3
  have f10 : Exa Z h5 ob1 "java/lang/String" := f9.wr W5
  have f11 : Exa Z h7 ob1 "java/lang/String" := f10.wr W7
  have f12 : Fld Z h3 ob1 "java/lang/String" "value" "[B" .null := F_value_ob1.ext E3
  have f13 : Fld Z h5 ob1 "java/lang/String" "value" "[B" .null := f12.other W5 (Or.inl ne_ob1_ob3)
  have f14 : Fld Z h7 ob1 "java/lang/String" "value" "[B" .null := f13.other W7 (Or.inl ne_ob1_ob3)
  have f15 : Fld Z h3 ob1 "java/lang/String" "coder" "B" (.int 0) := F_coder_ob1.ext E3
  have f16 : Fld Z h5 ob1 "java/lang/String" "coder" "B" (.int 0) := f15.other W5 (Or.inl ne_ob1_ob3)
  have f17 : Fld Z h7 ob1 "java/lang/String" "coder" "B" (.int 0) := f16.other W7 (Or.inl ne_ob1_ob3)
  refine o_cI (argsL := [(.ref ob3)]) (rest := [(.ref ob1)]) X7 B hZ hown rfl (wd_11 hw) (wd_12 hw) (wd_13 hw) (wd_9 hw) (by decide) rfl 1 (rmIn1_20 l Z a0 hw [] ob1 gz ob3 ka3 c0 c1 (.int 0) h7 n0 Zp7 O8 S_COMPACT_STRINGS hgz f11 f14 f17 g_ob1 V7f ne_ob1_ob3 hl0 hl1) (by decide) (by decide) (lenOf pd_14 rfl) rfl rfl rfl d2_55 e7 (by decide) (by decide) rfl ?_
  rintro _ T18 _ X18 ⟨vb_18, ns_vb_18, kb_18, rfl, N18q, Kq18, p18_0, p18_1, p18_2, p18_3⟩
  have N18 := Fr.app N7 N18q
  have ne_ob1_vb_18 : ob1 ≠ vb_18 := Nat.ne_of_lt (Nat.lt_of_lt_of_le f11.lt ns_vb_18)
  have ne_ob3_vb_18 : ob3 ≠ vb_18 := Nat.ne_of_lt (Nat.lt_of_lt_of_le V7f.lt ns_vb_18)
  have sz_vb_18 : h0.size ≤ vb_18 := Nat.le_trans K7.1 ns_vb_18
  have K18 := K7.trans Kq18 (allS (Or.inr sz_ob1) all0)
  have g_vb_18 : n0 ≤ vb_18 := Nat.le_trans Zp7 ns_vb_18
  have Zp18 : n0 ≤ T18.heap.size := Nat.le_trans Zp7 Kq18.1
  have O19 := O8.keep Kq18 (allS g_ob1 all0)
  rw [hΦ]
  refine own_ret X18 (v := some (.ref ob1)) (own_nr hret) hlk (fun fs hr => retOut X18 hx hret rfl (Or.inr (Or.inr (Or.inr (Or.inr ⟨rfl, rfl, rfl⟩)))) (hb hby d2_58) hr) ?_ (by decide) (by decide)
  exact ⟨ob1, sz_ob1, vb_18, sz_vb_18, kb_18, rfl, N18, K18, p18_0, p18_1, p18_2, p18_3⟩
theorem ef_rmTx_21 (m : MethodId) (c0 : Int32) (c1 : Int32) (c2 : Int32) (c3 : Int32) : entryFrame m #[(.int 2), (.int c0), (.int c1), (.int c2), (.int c3)] 5 = mkF m 0 #[.val (.int 2), .val (.int c0), .val (.int c1), .val (.int c2), .val (.int c3)] [] := by first | (simp [entryFrame, mkF, argsToLocals, Value.category]; done) | rfl
def Q_rmTx_21 (Z : State) (c0 : Int32) (c1 : Int32) (c2 : Int32) (c3 : Int32) (gz : Int32) (h0 : Heap) (n0 : Nat) (v : Option Value) (h : Heap) (L : List Loc) : Prop := ∃ so : Addr, h0.size ≤ so ∧ ∃ vb : Addr, h0.size ≤ vb ∧ ∃ kb : ClassId, v = some (.ref so) ∧ Fr n0 L ∧ Keep h0 h [] ∧ Exa Z h so "java/lang/String" ∧ Fld Z h so "java/lang/String" "value" "[B" (.ref vb) ∧ Fld Z h so "java/lang/String" "coder" "B" (.int 1) ∧ Arv Z h vb kb .byte (4 : Int32) [(.int (own_h0 c0)), (.int (own_h8 c0)), (.int (own_h0 c1)), (.int (own_h8 c1))] (.int 0)
set_option maxRecDepth 65536 in
set_option maxHeartbeats 40000000 in
theorem rmTx_21 (l : Launch) (Z : State) (a0 : Array Value) (hw : own_H Z a0) (ws : List Jvm.Cond) (c0 : Int32) (c1 : Int32) (c2 : Int32) (c3 : Int32) (gz : Int32) (h0 : Heap) (n0 : Nat) (Z0 : n0 ≤ h0.size) (O0 : Old Z n0 h0) (S_COMPACT_STRINGS : Sta Z Z.heap "java/lang/String" "COMPACT_STRINGS" "Z" (.int gz)) (hgz : ¬ gz = (0 : Int32)) (S__assertionsDisabled : Sta Z Z.heap "java/lang/StringUTF16" "$assertionsDisabled" "Z" (.int 1)) (S_HI_BYTE_SHIFT : Sta Z Z.heap "java/lang/StringUTF16" "HI_BYTE_SHIFT" "I" (.int 0)) (S_LO_BYTE_SHIFT : Sta Z Z.heap "java/lang/StringUTF16" "LO_BYTE_SHIFT" "I" (.int 8)) (hr0 : ¬ c0 < 0 ∧ ¬ (65535 : Int32) < c0) (hr1 : ¬ c1 < 0 ∧ ¬ (65535 : Int32) < c1) (hex : (255 : Int32) < c0 ∨ (255 : Int32) < c1) :
    own_Met l (⟨"com/example/edgewarden/edgewarden/xacml/XacmlSyntaxIsWhiteSpacePinLaw", "text", "(ICCCC)Ljava/lang/String;"⟩ : MethodName) method_4_code 5 (some (.object "java/lang/String")) ws (own_rm 6 4 12 88) Z h0 #[(.int 2), (.int c0), (.int c1), (.int c2), (.int c3)] (Q_rmTx_21 Z c0 c1 c2 c3 gz h0 n0) := by
  refine own_met (plainFor_of_name pn_0) (fun m => ef_rmTx_21 m c0 c1 c2 c3) ?_
  intro p e s m below meth c s₁ Φ hΦ X0 hx hby hml hown hnm hret hlk hZ e0
  have N0 := Fr.nil n0
  have B : own_B p c _ _ := ⟨hx, hby, hml⟩
  have K0 : Keep h0 h0 [] := Keep.refl _ _
  show own_G p e below Φ s₁ (mkF m 0 #[.val (.int 2), .val (.int c0), .val (.int c1), .val (.int c2), .val (.int c3)] [])
  refine o_iloadN X0 B d2_0 rfl ?_
  refine o_ifY X0 B 15 d2_1 (XT.i0_ne_t (by decide : ¬ ((2 : Int32) = (0 : Int32)))) rfl ?_
  refine o_iloadN X0 B d2_15 rfl ?_
  refine o_iconst X0 B d2_16 ?_
  refine o_icY X0 B 35 d2_17 (XT.ii_ne_t (by decide : ¬ ((2 : Int32) = (1 : Int32)))) rfl ?_
  refine o_iloadN X0 B d2_35 rfl ?_
  refine o_iconst X0 B d2_36 ?_
  refine o_icN X0 B d2_37 (XT.ii_ne_f (by decide : ((2 : Int32) = (2 : Int32)))) ?_
  show own_G p e below Φ s₁ (mkF m 40 #[.val (.int 2), .val (.int c0), .val (.int c1), .val (.int c2), .val (.int c3)] [])
  obtain ⟨T1, h1, X1, e1, E1, A1, D1, -, st1⟩ := newO X0 hx hZ hown (wd_7 hw) (wd_8 hw) (wd_9 hw) e0 (g := (mkF m 40 #[.val (.int 2), .val (.int c0), .val (.int c1), .val (.int c2), .val (.int c3)] [])) rfl (hb hby d2_40) (by decide) (by decide)
  obtain ⟨ob1, g1⟩ : ∃ z, z = h0.size := ⟨_, rfl⟩
  rw [← g1] at A1 D1 st1
  have g_ob1 : n0 ≤ ob1 := Nat.le_trans Z0 (Nat.le_of_eq g1.symm)
  have sz_ob1 : h0.size ≤ ob1 := Nat.le_trans K0.1 (Nat.le_of_eq g1.symm)
  have K1 := K0.ext E1
  have Zp1 : n0 ≤ h1.size := Nat.le_trans Z0 E1.1
  refine own_go st1 ?_
  have O2 := O0.ext E1
  have F_value_ob1 : Fld Z h1 ob1 "java/lang/String" "value" "[B" .null := D1 (Or.inr (wd_23 hw)) (ty := (.array .byte)) (by decide)
  have F_coder_ob1 : Fld Z h1 ob1 "java/lang/String" "coder" "B" (.int 0) := D1 (Or.inr (wd_24 hw)) (ty := .byte) (by decide)
  refine o_dup X1 B d2_43 rfl ?_
  refine o_iconst X1 B d2_44 ?_
  obtain ⟨T3, h3, ka3, X3, e3, E3, A3, st3⟩ := newP (aty := .char) X1 hx hZ (wd_10 hw) e1 (g := (mkF m 45 #[.val (.int 2), .val (.int c0), .val (.int c1), .val (.int c2), .val (.int c3)] [(.int 2), (.ref ob1), (.ref ob1)])) rfl (hb hby d2_45) rfl (by decide) (cap := 2) (by decide) (by decide) (by decide) (by decide)
  obtain ⟨ob3, g3⟩ : ∃ z, z = h1.size := ⟨_, rfl⟩
  rw [← g3] at A3 st3
  have ne_ob1_ob3 : ob1 ≠ ob3 := Nat.ne_of_lt (Nat.lt_of_lt_of_le A1.lt (Nat.le_of_eq g3.symm))
  have V3 : Arv Z h3 ob3 ka3 .char (2 : Int32) [(.int 0), (.int 0)] (.int 0) := (Arv.new A3 (by decide)).pad (pad_rep [] (.int 0) 2)
  have g_ob3 : n0 ≤ ob3 := Nat.le_trans Zp1 (Nat.le_of_eq g3.symm)
  have sz_ob3 : h0.size ≤ ob3 := Nat.le_trans K1.1 (Nat.le_of_eq g3.symm)
  have K3 := K1.ext E3
  have Zp3 : n0 ≤ h3.size := Nat.le_trans Zp1 E3.1
  refine own_go st3 ?_
  have O4 := O2.ext E3
  refine o_dup X3 B d2_47 rfl ?_
  refine o_iconst X3 B d2_48 ?_
  refine o_iloadN X3 B d2_49 rfl ?_
  obtain ⟨cl5, Ar5, zq5, S5, M5, H5, G5⟩ := id V3
  have hin5 : ¬ ((0 : Int32) < 0 ∨ cl5.slots.size ≤ ((0 : Int32)).toNatClampNeg) := inb_of S5 ⟨by decide, by decide⟩
  obtain ⟨T5, h5, X5, e5, W5, st5⟩ := stC X3 hx hZ e3 Ar5 (j := (0 : Int32)) hin5 (g := (mkF m 50 #[.val (.int 2), .val (.int c0), .val (.int c1), .val (.int c2), .val (.int c3)] [(.int c0), (.int 0), (.ref ob3), (.ref ob3), (.ref ob1), (.ref ob1)])) rfl rfl (hb hby d2_50)
  refine own_go st5 ?_
  have V5 : Arv Z h5 ob3 ka3 .char (2 : Int32) [(.int (nar .char c0)), (.int 0)] (.int 0) := Arv.set Ar5 zq5 S5 M5 H5 G5 (fits_nar_char c0) W5 0 rfl (Nat.le_of_ble_eq_true rfl)
  have V5f : Arv Z h5 ob3 ka3 .char (2 : Int32) [(.int c0), (.int 0)] (.int 0) := by have q := V5; rw [own_narc hr0] at q; exact q
  have O6 := O4.wr W5 g_ob3
  have N5 := Fr.snoc X5 N0 g_ob3
  have K5 := K3.wr W5 (Or.inr sz_ob3)
  have Zp5 : n0 ≤ h5.size := Nat.le_trans Zp3 (Keep.of_wr W5).1
  show own_G p e below Φ T5 (mkF m 51 #[.val (.int 2), .val (.int c0), .val (.int c1), .val (.int c2), .val (.int c3)] [(.ref ob3), (.ref ob1), (.ref ob1)])
  refine o_dup X5 B d2_51 rfl ?_
  refine o_iconst X5 B d2_52 ?_
  refine o_iloadN X5 B d2_53 rfl ?_
  obtain ⟨cl7, Ar7, zq7, S7, M7, H7, G7⟩ := id V5f
  have hin7 : ¬ ((1 : Int32) < 0 ∨ cl7.slots.size ≤ ((1 : Int32)).toNatClampNeg) := inb_of S7 ⟨by decide, by decide⟩
  obtain ⟨T7, h7, X7, e7, W7, st7⟩ := stC X5 hx hZ e5 Ar7 (j := (1 : Int32)) hin7 (g := (mkF m 54 #[.val (.int 2), .val (.int c0), .val (.int c1), .val (.int c2), .val (.int c3)] [(.int c1), (.int 1), (.ref ob3), (.ref ob3), (.ref ob1), (.ref ob1)])) rfl rfl (hb hby d2_54)
  refine own_go st7 ?_
  have V7 : Arv Z h7 ob3 ka3 .char (2 : Int32) [(.int c0), (.int (nar .char c1))] (.int 0) := Arv.set Ar7 zq7 S7 M7 H7 G7 (fits_nar_char c1) W7 1 rfl (Nat.le_of_ble_eq_true rfl)
  have V7f : Arv Z h7 ob3 ka3 .char (2 : Int32) [(.int c0), (.int c1)] (.int 0) := by have q := V7; rw [own_narc hr1] at q; exact q
  have O8 := O6.wr W7 g_ob3
  have N7 := Fr.snoc X7 N5 g_ob3
  have K7 := K5.wr W7 (Or.inr sz_ob3)
  have Zp7 : n0 ≤ h7.size := Nat.le_trans Zp5 (Keep.of_wr W7).1
  have f9 : Exa Z h3 ob1 "java/lang/String" := A1.ext E3
  have f10 : Exa Z h5 ob1 "java/lang/String" := f9.wr W5
  have f11 : Exa Z h7 ob1 "java/lang/String" := f10.wr W7
  have f12 : Fld Z h3 ob1 "java/lang/String" "value" "[B" .null := F_value_ob1.ext E3
  have f13 : Fld Z h5 ob1 "java/lang/String" "value" "[B" .null := f12.other W5 (Or.inl ne_ob1_ob3)
  have f14 : Fld Z h7 ob1 "java/lang/String" "value" "[B" .null := f13.other W7 (Or.inl ne_ob1_ob3)
  have f15 : Fld Z h3 ob1 "java/lang/String" "coder" "B" (.int 0) := F_coder_ob1.ext E3
  have f16 : Fld Z h5 ob1 "java/lang/String" "coder" "B" (.int 0) := f15.other W5 (Or.inl ne_ob1_ob3)
  have f17 : Fld Z h7 ob1 "java/lang/String" "coder" "B" (.int 0) := f16.other W7 (Or.inl ne_ob1_ob3)
  refine o_cI (argsL := [(.ref ob3)]) (rest := [(.ref ob1)]) X7 B hZ hown rfl (wd_11 hw) (wd_12 hw) (wd_13 hw) (wd_9 hw) (by decide) rfl 1 (rmIn1_21 l Z a0 hw [] ob1 gz ob3 ka3 c0 c1 (.int 0) h7 n0 Zp7 O8 S_COMPACT_STRINGS hgz S__assertionsDisabled S_HI_BYTE_SHIFT S_LO_BYTE_SHIFT f11 f14 f17 g_ob1 V7f ne_ob1_ob3 hr0 hr1 hex) (by decide) (by decide) (lenOf pd_14 rfl) rfl rfl rfl d2_55 e7 (by decide) (by decide) rfl ?_
  rintro _ T18 _ X18 ⟨vb_18, ns_vb_18, kb_18, rfl, N18q, Kq18, p18_0, p18_1, p18_2, p18_3⟩
  have N18 := Fr.app N7 N18q
  have ne_ob1_vb_18 : ob1 ≠ vb_18 := Nat.ne_of_lt (Nat.lt_of_lt_of_le f11.lt ns_vb_18)
  have ne_ob3_vb_18 : ob3 ≠ vb_18 := Nat.ne_of_lt (Nat.lt_of_lt_of_le V7f.lt ns_vb_18)
  have sz_vb_18 : h0.size ≤ vb_18 := Nat.le_trans K7.1 ns_vb_18
  have K18 := K7.trans Kq18 (allS (Or.inr sz_ob1) all0)
  have g_vb_18 : n0 ≤ vb_18 := Nat.le_trans Zp7 ns_vb_18
  have Zp18 : n0 ≤ T18.heap.size := Nat.le_trans Zp7 Kq18.1
  have O19 := O8.keep Kq18 (allS g_ob1 all0)
  rw [hΦ]
  refine own_ret X18 (v := some (.ref ob1)) (own_nr hret) hlk (fun fs hr => retOut X18 hx hret rfl (Or.inr (Or.inr (Or.inr (Or.inr ⟨rfl, rfl, rfl⟩)))) (hb hby d2_58) hr) ?_ (by decide) (by decide)
  exact ⟨ob1, sz_ob1, vb_18, sz_vb_18, kb_18, rfl, N18, K18, p18_0, p18_1, p18_2, p18_3⟩
theorem d2_59 : decode method_4_code 59 = .ok (.iload_n 0, 1) := by decide +kernel
theorem d2_60 : decode method_4_code 60 = .ok (.iconst 3, 1) := by decide +kernel
theorem d2_61 : decode method_4_code 61 = .ok (.if_icmp .ne 26, 3) := by decide +kernel
theorem d2_64 : decode method_4_code 64 = .ok (.new 8, 3) := by decide +kernel
theorem d2_67 : decode method_4_code 67 = .ok (.dup, 1) := by decide +kernel
theorem d2_68 : decode method_4_code 68 = .ok (.iconst 3, 1) := by decide +kernel
theorem d2_69 : decode method_4_code 69 = .ok (.newarray .char, 2) := by decide +kernel
theorem d2_71 : decode method_4_code 71 = .ok (.dup, 1) := by decide +kernel
theorem d2_72 : decode method_4_code 72 = .ok (.iconst 0, 1) := by decide +kernel
theorem d2_73 : decode method_4_code 73 = .ok (.iload_n 1, 1) := by decide +kernel
theorem d2_74 : decode method_4_code 74 = .ok (.castore, 1) := by decide +kernel
theorem d2_75 : decode method_4_code 75 = .ok (.dup, 1) := by decide +kernel
theorem d2_76 : decode method_4_code 76 = .ok (.iconst 1, 1) := by decide +kernel
theorem d2_77 : decode method_4_code 77 = .ok (.iload_n 2, 1) := by decide +kernel
theorem d2_78 : decode method_4_code 78 = .ok (.castore, 1) := by decide +kernel
theorem d2_79 : decode method_4_code 79 = .ok (.dup, 1) := by decide +kernel
theorem d2_80 : decode method_4_code 80 = .ok (.iconst 2, 1) := by decide +kernel
theorem d2_81 : decode method_4_code 81 = .ok (.iload_n 3, 1) := by decide +kernel
theorem d2_82 : decode method_4_code 82 = .ok (.castore, 1) := by decide +kernel
theorem d2_83 : decode method_4_code 83 = .ok (.invokespecial 10, 3) := by decide +kernel
theorem d2_86 : decode method_4_code 86 = .ok (.areturn, 1) := by decide +kernel
theorem ef_rmTx_30 (m : MethodId) (c0 : Int32) (c1 : Int32) (c2 : Int32) (c3 : Int32) : entryFrame m #[(.int 3), (.int c0), (.int c1), (.int c2), (.int c3)] 5 = mkF m 0 #[.val (.int 3), .val (.int c0), .val (.int c1), .val (.int c2), .val (.int c3)] [] := by first | (simp [entryFrame, mkF, argsToLocals, Value.category]; done) | rfl
def Q_rmTx_30 (Z : State) (c0 : Int32) (c1 : Int32) (c2 : Int32) (c3 : Int32) (gz : Int32) (h0 : Heap) (n0 : Nat) (v : Option Value) (h : Heap) (L : List Loc) : Prop := ∃ so : Addr, h0.size ≤ so ∧ ∃ vb : Addr, h0.size ≤ vb ∧ ∃ kb : ClassId, v = some (.ref so) ∧ Fr n0 L ∧ Keep h0 h [] ∧ Exa Z h so "java/lang/String" ∧ Fld Z h so "java/lang/String" "value" "[B" (.ref vb) ∧ Fld Z h so "java/lang/String" "coder" "B" (.int 0) ∧ Arv Z h vb kb .byte (3 : Int32) [(.int (own_lo c0)), (.int (own_lo c1)), (.int (own_lo c2))] (.int 0)
set_option maxRecDepth 65536 in
set_option maxHeartbeats 40000000 in
theorem rmTx_30 (l : Launch) (Z : State) (a0 : Array Value) (hw : own_H Z a0) (ws : List Jvm.Cond) (c0 : Int32) (c1 : Int32) (c2 : Int32) (c3 : Int32) (gz : Int32) (h0 : Heap) (n0 : Nat) (Z0 : n0 ≤ h0.size) (O0 : Old Z n0 h0) (S_COMPACT_STRINGS : Sta Z Z.heap "java/lang/String" "COMPACT_STRINGS" "Z" (.int gz)) (hgz : ¬ gz = (0 : Int32)) (hr0 : ¬ c0 < 0 ∧ ¬ (65535 : Int32) < c0) (hr1 : ¬ c1 < 0 ∧ ¬ (65535 : Int32) < c1) (hr2 : ¬ c2 < 0 ∧ ¬ (65535 : Int32) < c2) (hl0 : ¬ (255 : Int32) < c0) (hl1 : ¬ (255 : Int32) < c1) (hl2 : ¬ (255 : Int32) < c2) :
    own_Met l (⟨"com/example/edgewarden/edgewarden/xacml/XacmlSyntaxIsWhiteSpacePinLaw", "text", "(ICCCC)Ljava/lang/String;"⟩ : MethodName) method_4_code 5 (some (.object "java/lang/String")) ws (own_rm 4 3 10 66) Z h0 #[(.int 3), (.int c0), (.int c1), (.int c2), (.int c3)] (Q_rmTx_30 Z c0 c1 c2 c3 gz h0 n0) := by
  refine own_met (plainFor_of_name pn_0) (fun m => ef_rmTx_30 m c0 c1 c2 c3) ?_
  intro p e s m below meth c s₁ Φ hΦ X0 hx hby hml hown hnm hret hlk hZ e0
  have N0 := Fr.nil n0
  have B : own_B p c _ _ := ⟨hx, hby, hml⟩
  have K0 : Keep h0 h0 [] := Keep.refl _ _
  show own_G p e below Φ s₁ (mkF m 0 #[.val (.int 3), .val (.int c0), .val (.int c1), .val (.int c2), .val (.int c3)] [])
  refine o_iloadN X0 B d2_0 rfl ?_
  refine o_ifY X0 B 15 d2_1 (XT.i0_ne_t (by decide : ¬ ((3 : Int32) = (0 : Int32)))) rfl ?_
  refine o_iloadN X0 B d2_15 rfl ?_
  refine o_iconst X0 B d2_16 ?_
  refine o_icY X0 B 35 d2_17 (XT.ii_ne_t (by decide : ¬ ((3 : Int32) = (1 : Int32)))) rfl ?_
  refine o_iloadN X0 B d2_35 rfl ?_
  refine o_iconst X0 B d2_36 ?_
  refine o_icY X0 B 59 d2_37 (XT.ii_ne_t (by decide : ¬ ((3 : Int32) = (2 : Int32)))) rfl ?_
  show own_G p e below Φ s₁ (mkF m 59 #[.val (.int 3), .val (.int c0), .val (.int c1), .val (.int c2), .val (.int c3)] [])
  refine o_iloadN X0 B d2_59 rfl ?_
  refine o_iconst X0 B d2_60 ?_
  refine o_icN X0 B d2_61 (XT.ii_ne_f (by decide : ((3 : Int32) = (3 : Int32)))) ?_
  obtain ⟨T1, h1, X1, e1, E1, A1, D1, -, st1⟩ := newO X0 hx hZ hown (wd_7 hw) (wd_8 hw) (wd_9 hw) e0 (g := (mkF m 64 #[.val (.int 3), .val (.int c0), .val (.int c1), .val (.int c2), .val (.int c3)] [])) rfl (hb hby d2_64) (by decide) (by decide)
  obtain ⟨ob1, g1⟩ : ∃ z, z = h0.size := ⟨_, rfl⟩
  rw [← g1] at A1 D1 st1
  have g_ob1 : n0 ≤ ob1 := Nat.le_trans Z0 (Nat.le_of_eq g1.symm)
  have sz_ob1 : h0.size ≤ ob1 := Nat.le_trans K0.1 (Nat.le_of_eq g1.symm)
  have K1 := K0.ext E1
  have Zp1 : n0 ≤ h1.size := Nat.le_trans Z0 E1.1
  refine own_go st1 ?_
  have O2 := O0.ext E1
  have F_value_ob1 : Fld Z h1 ob1 "java/lang/String" "value" "[B" .null := D1 (Or.inr (wd_23 hw)) (ty := (.array .byte)) (by decide)
  have F_coder_ob1 : Fld Z h1 ob1 "java/lang/String" "coder" "B" (.int 0) := D1 (Or.inr (wd_24 hw)) (ty := .byte) (by decide)
  refine o_dup X1 B d2_67 rfl ?_
  refine o_iconst X1 B d2_68 ?_
  obtain ⟨T3, h3, ka3, X3, e3, E3, A3, st3⟩ := newP (aty := .char) X1 hx hZ (wd_10 hw) e1 (g := (mkF m 69 #[.val (.int 3), .val (.int c0), .val (.int c1), .val (.int c2), .val (.int c3)] [(.int 3), (.ref ob1), (.ref ob1)])) rfl (hb hby d2_69) rfl (by decide) (cap := 3) (by decide) (by decide) (by decide) (by decide)
  obtain ⟨ob3, g3⟩ : ∃ z, z = h1.size := ⟨_, rfl⟩
  rw [← g3] at A3 st3
  have ne_ob1_ob3 : ob1 ≠ ob3 := Nat.ne_of_lt (Nat.lt_of_lt_of_le A1.lt (Nat.le_of_eq g3.symm))
  have V3 : Arv Z h3 ob3 ka3 .char (3 : Int32) [(.int 0), (.int 0), (.int 0)] (.int 0) := (Arv.new A3 (by decide)).pad (pad_rep [] (.int 0) 3)
  have g_ob3 : n0 ≤ ob3 := Nat.le_trans Zp1 (Nat.le_of_eq g3.symm)
  have sz_ob3 : h0.size ≤ ob3 := Nat.le_trans K1.1 (Nat.le_of_eq g3.symm)
  have K3 := K1.ext E3
  have Zp3 : n0 ≤ h3.size := Nat.le_trans Zp1 E3.1
  refine own_go st3 ?_
  have O4 := O2.ext E3
  refine o_dup X3 B d2_71 rfl ?_
  show own_G p e below Φ T3 (mkF m 72 #[.val (.int 3), .val (.int c0), .val (.int c1), .val (.int c2), .val (.int c3)] [(.ref ob3), (.ref ob3), (.ref ob1), (.ref ob1)])
  refine o_iconst X3 B d2_72 ?_
  refine o_iloadN X3 B d2_73 rfl ?_
  obtain ⟨cl5, Ar5, zq5, S5, M5, H5, G5⟩ := id V3
  have hin5 : ¬ ((0 : Int32) < 0 ∨ cl5.slots.size ≤ ((0 : Int32)).toNatClampNeg) := inb_of S5 ⟨by decide, by decide⟩
  obtain ⟨T5, h5, X5, e5, W5, st5⟩ := stC X3 hx hZ e3 Ar5 (j := (0 : Int32)) hin5 (g := (mkF m 74 #[.val (.int 3), .val (.int c0), .val (.int c1), .val (.int c2), .val (.int c3)] [(.int c0), (.int 0), (.ref ob3), (.ref ob3), (.ref ob1), (.ref ob1)])) rfl rfl (hb hby d2_74)
  refine own_go st5 ?_
  have V5 : Arv Z h5 ob3 ka3 .char (3 : Int32) [(.int (nar .char c0)), (.int 0), (.int 0)] (.int 0) := Arv.set Ar5 zq5 S5 M5 H5 G5 (fits_nar_char c0) W5 0 rfl (Nat.le_of_ble_eq_true rfl)
  have V5f : Arv Z h5 ob3 ka3 .char (3 : Int32) [(.int c0), (.int 0), (.int 0)] (.int 0) := by have q := V5; rw [own_narc hr0] at q; exact q
  have O6 := O4.wr W5 g_ob3
  have N5 := Fr.snoc X5 N0 g_ob3
  have K5 := K3.wr W5 (Or.inr sz_ob3)
  have Zp5 : n0 ≤ h5.size := Nat.le_trans Zp3 (Keep.of_wr W5).1
  refine o_dup X5 B d2_75 rfl ?_
  refine o_iconst X5 B d2_76 ?_
  refine o_iloadN X5 B d2_77 rfl ?_
  obtain ⟨cl7, Ar7, zq7, S7, M7, H7, G7⟩ := id V5f
  have hin7 : ¬ ((1 : Int32) < 0 ∨ cl7.slots.size ≤ ((1 : Int32)).toNatClampNeg) := inb_of S7 ⟨by decide, by decide⟩
  obtain ⟨T7, h7, X7, e7, W7, st7⟩ := stC X5 hx hZ e5 Ar7 (j := (1 : Int32)) hin7 (g := (mkF m 78 #[.val (.int 3), .val (.int c0), .val (.int c1), .val (.int c2), .val (.int c3)] [(.int c1), (.int 1), (.ref ob3), (.ref ob3), (.ref ob1), (.ref ob1)])) rfl rfl (hb hby d2_78)
  refine own_go st7 ?_
  have V7 : Arv Z h7 ob3 ka3 .char (3 : Int32) [(.int c0), (.int (nar .char c1)), (.int 0)] (.int 0) := Arv.set Ar7 zq7 S7 M7 H7 G7 (fits_nar_char c1) W7 1 rfl (Nat.le_of_ble_eq_true rfl)
  have V7f : Arv Z h7 ob3 ka3 .char (3 : Int32) [(.int c0), (.int c1), (.int 0)] (.int 0) := by have q := V7; rw [own_narc hr1] at q; exact q
  have O8 := O6.wr W7 g_ob3
  have N7 := Fr.snoc X7 N5 g_ob3
  have K7 := K5.wr W7 (Or.inr sz_ob3)
  have Zp7 : n0 ≤ h7.size := Nat.le_trans Zp5 (Keep.of_wr W7).1
  refine o_dup X7 B d2_79 rfl ?_
  show own_G p e below Φ T7 (mkF m 80 #[.val (.int 3), .val (.int c0), .val (.int c1), .val (.int c2), .val (.int c3)] [(.ref ob3), (.ref ob3), (.ref ob1), (.ref ob1)])
  refine o_iconst X7 B d2_80 ?_
  refine o_iloadN X7 B d2_81 rfl ?_
  obtain ⟨cl9, Ar9, zq9, S9, M9, H9, G9⟩ := id V7f
  have hin9 : ¬ ((2 : Int32) < 0 ∨ cl9.slots.size ≤ ((2 : Int32)).toNatClampNeg) := inb_of S9 ⟨by decide, by decide⟩
  obtain ⟨T9, h9, X9, e9, W9, st9⟩ := stC X7 hx hZ e7 Ar9 (j := (2 : Int32)) hin9 (g := (mkF m 82 #[.val (.int 3), .val (.int c0), .val (.int c1), .val (.int c2), .val (.int c3)] [(.int c2), (.int 2), (.ref ob3), (.ref ob3), (.ref ob1), (.ref ob1)])) rfl rfl (hb hby d2_82)
  refine own_go st9 ?_
  have V9 : Arv Z h9 ob3 ka3 .char (3 : Int32) [(.int c0), (.int c1), (.int (nar .char c2))] (.int 0) := Arv.set Ar9 zq9 S9 M9 H9 G9 (fits_nar_char c2) W9 2 rfl (Nat.le_of_ble_eq_true rfl)
  have V9f : Arv Z h9 ob3 ka3 .char (3 : Int32) [(.int c0), (.int c1), (.int c2)] (.int 0) := by have q := V9; rw [own_narc hr2] at q; exact q
  have O10 := O8.wr W9 g_ob3
  have N9 := Fr.snoc X9 N7 g_ob3
  have K9 := K7.wr W9 (Or.inr sz_ob3)
  have Zp9 : n0 ≤ h9.size := Nat.le_trans Zp7 (Keep.of_wr W9).1
  have f11 : Exa Z h3 ob1 "java/lang/String" := A1.ext E3
  have f12 : Exa Z h5 ob1 "java/lang/String" := f11.wr W5
  have f13 : Exa Z h7 ob1 "java/lang/String" := f12.wr W7
  have f14 : Exa Z h9 ob1 "java/lang/String" := f13.wr W9
  have f15 : Fld Z h3 ob1 "java/lang/String" "value" "[B" .null := F_value_ob1.ext E3
  have f16 : Fld Z h5 ob1 "java/lang/String" "value" "[B" .null := f15.other W5 (Or.inl ne_ob1_ob3)
  have f17 : Fld Z h7 ob1 "java/lang/String" "value" "[B" .null := f16.other W7 (Or.inl ne_ob1_ob3)
  have f18 : Fld Z h9 ob1 "java/lang/String" "value" "[B" .null := f17.other W9 (Or.inl ne_ob1_ob3)
  have f19 : Fld Z h3 ob1 "java/lang/String" "coder" "B" (.int 0) := F_coder_ob1.ext E3
  have f20 : Fld Z h5 ob1 "java/lang/String" "coder" "B" (.int 0) := f19.other W5 (Or.inl ne_ob1_ob3)
  have f21 : Fld Z h7 ob1 "java/lang/String" "coder" "B" (.int 0) := f20.other W7 (Or.inl ne_ob1_ob3)
  have f22 : Fld Z h9 ob1 "java/lang/String" "coder" "B" (.int 0) := f21.other W9 (Or.inl ne_ob1_ob3)
  refine o_cI (argsL := [(.ref ob3)]) (rest := [(.ref ob1)]) X9 B hZ hown rfl (wd_11 hw) (wd_12 hw) (wd_13 hw) (wd_9 hw) (by decide) rfl 1 (rmIn1_30 l Z a0 hw [] ob1 gz ob3 ka3 c0 c1 c2 (.int 0) h9 n0 Zp9 O10 S_COMPACT_STRINGS hgz f14 f18 f22 g_ob1 V9f ne_ob1_ob3 hl0 hl1 hl2) (by decide) (by decide) (lenOf pd_14 rfl) rfl rfl rfl d2_83 e9 (by decide) (by decide) rfl ?_
  rintro _ T23 _ X23 ⟨vb_23, ns_vb_23, kb_23, rfl, N23q, Kq23, p23_0, p23_1, p23_2, p23_3⟩
  have N23 := Fr.app N9 N23q
  have ne_ob1_vb_23 : ob1 ≠ vb_23 := Nat.ne_of_lt (Nat.lt_of_lt_of_le f14.lt ns_vb_23)
  have ne_ob3_vb_23 : ob3 ≠ vb_23 := Nat.ne_of_lt (Nat.lt_of_lt_of_le V9f.lt ns_vb_23)
  have sz_vb_23 : h0.size ≤ vb_23 := Nat.le_trans K9.1 ns_vb_23
  have K23 := K9.trans Kq23 (allS (Or.inr sz_ob1) all0)
  have g_vb_23 : n0 ≤ vb_23 := Nat.le_trans Zp9 ns_vb_23
  have Zp23 : n0 ≤ T23.heap.size := Nat.le_trans Zp9 Kq23.1
  have O24 := O10.keep Kq23 (allS g_ob1 all0)
  rw [hΦ]
  refine own_ret X23 (v := some (.ref ob1)) (own_nr hret) hlk (fun fs hr => retOut X23 hx hret rfl (Or.inr (Or.inr (Or.inr (Or.inr ⟨rfl, rfl, rfl⟩)))) (hb hby d2_86) hr) ?_ (by decide) (by decide)
  exact ⟨ob1, sz_ob1, vb_23, sz_vb_23, kb_23, rfl, N23, K23, p23_0, p23_1, p23_2, p23_3⟩
theorem ef_rmTx_31 (m : MethodId) (c0 : Int32) (c1 : Int32) (c2 : Int32) (c3 : Int32) : entryFrame m #[(.int 3), (.int c0), (.int c1), (.int c2), (.int c3)] 5 = mkF m 0 #[.val (.int 3), .val (.int c0), .val (.int c1), .val (.int c2), .val (.int c3)] [] := by first | (simp [entryFrame, mkF, argsToLocals, Value.category]; done) | rfl
def Q_rmTx_31 (Z : State) (c0 : Int32) (c1 : Int32) (c2 : Int32) (c3 : Int32) (gz : Int32) (h0 : Heap) (n0 : Nat) (v : Option Value) (h : Heap) (L : List Loc) : Prop := ∃ so : Addr, h0.size ≤ so ∧ ∃ vb : Addr, h0.size ≤ vb ∧ ∃ kb : ClassId, v = some (.ref so) ∧ Fr n0 L ∧ Keep h0 h [] ∧ Exa Z h so "java/lang/String" ∧ Fld Z h so "java/lang/String" "value" "[B" (.ref vb) ∧ Fld Z h so "java/lang/String" "coder" "B" (.int 1) ∧ Arv Z h vb kb .byte (6 : Int32) [(.int (own_h0 c0)), (.int (own_h8 c0)), (.int (own_h0 c1)), (.int (own_h8 c1)), (.int (own_h0 c2)), (.int (own_h8 c2))] (.int 0)
set_option maxRecDepth 65536 in
set_option maxHeartbeats 40000000 in
theorem rmTx_31 (l : Launch) (Z : State) (a0 : Array Value) (hw : own_H Z a0) (ws : List Jvm.Cond) (c0 : Int32) (c1 : Int32) (c2 : Int32) (c3 : Int32) (gz : Int32) (h0 : Heap) (n0 : Nat) (Z0 : n0 ≤ h0.size) (O0 : Old Z n0 h0) (S_COMPACT_STRINGS : Sta Z Z.heap "java/lang/String" "COMPACT_STRINGS" "Z" (.int gz)) (hgz : ¬ gz = (0 : Int32)) (S__assertionsDisabled : Sta Z Z.heap "java/lang/StringUTF16" "$assertionsDisabled" "Z" (.int 1)) (S_HI_BYTE_SHIFT : Sta Z Z.heap "java/lang/StringUTF16" "HI_BYTE_SHIFT" "I" (.int 0)) (S_LO_BYTE_SHIFT : Sta Z Z.heap "java/lang/StringUTF16" "LO_BYTE_SHIFT" "I" (.int 8)) (hr0 : ¬ c0 < 0 ∧ ¬ (65535 : Int32) < c0) (hr1 : ¬ c1 < 0 ∧ ¬ (65535 : Int32) < c1) (hr2 : ¬ c2 < 0 ∧ ¬ (65535 : Int32) < c2) (hex : (255 : Int32) < c0 ∨ (255 : Int32) < c1 ∨ (255 : Int32) < c2) :
    own_Met l (⟨"com/example/edgewarden/edgewarden/xacml/XacmlSyntaxIsWhiteSpacePinLaw", "text", "(ICCCC)Ljava/lang/String;"⟩ : MethodName) method_4_code 5 (some (.object "java/lang/String")) ws (own_rm 6 4 16 88) Z h0 #[(.int 3), (.int c0), (.int c1), (.int c2), (.int c3)] (Q_rmTx_31 Z c0 c1 c2 c3 gz h0 n0) := by
  refine own_met (plainFor_of_name pn_0) (fun m => ef_rmTx_31 m c0 c1 c2 c3) ?_
  intro p e s m below meth c s₁ Φ hΦ X0 hx hby hml hown hnm hret hlk hZ e0
  have N0 := Fr.nil n0
  have B : own_B p c _ _ := ⟨hx, hby, hml⟩
  have K0 : Keep h0 h0 [] := Keep.refl _ _
  show own_G p e below Φ s₁ (mkF m 0 #[.val (.int 3), .val (.int c0), .val (.int c1), .val (.int c2), .val (.int c3)] [])
  refine o_iloadN X0 B d2_0 rfl ?_
  refine o_ifY X0 B 15 d2_1 (XT.i0_ne_t (by decide : ¬ ((3 : Int32) = (0 : Int32)))) rfl ?_
  refine o_iloadN X0 B d2_15 rfl ?_
  refine o_iconst X0 B d2_16 ?_
  refine o_icY X0 B 35 d2_17 (XT.ii_ne_t (by decide : ¬ ((3 : Int32) = (1 : Int32)))) rfl ?_
  refine o_iloadN X0 B d2_35 rfl ?_
  refine o_iconst X0 B d2_36 ?_
  refine o_icY X0 B 59 d2_37 (XT.ii_ne_t (by decide : ¬ ((3 : Int32) = (2 : Int32)))) rfl ?_
  show own_G p e below Φ s₁ (mkF m 59 #[.val (.int 3), .val (.int c0), .val (.int c1), .val (.int c2), .val (.int c3)] [])
  refine o_iloadN X0 B d2_59 rfl ?_
  refine o_iconst X0 B d2_60 ?_
  refine o_icN X0 B d2_61 (XT.ii_ne_f (by decide : ((3 : Int32) = (3 : Int32)))) ?_
  obtain ⟨T1, h1, X1, e1, E1, A1, D1, -, st1⟩ := newO X0 hx hZ hown (wd_7 hw) (wd_8 hw) (wd_9 hw) e0 (g := (mkF m 64 #[.val (.int 3), .val (.int c0), .val (.int c1), .val (.int c2), .val (.int c3)] [])) rfl (hb hby d2_64) (by decide) (by decide)
  obtain ⟨ob1, g1⟩ : ∃ z, z = h0.size := ⟨_, rfl⟩
  rw [← g1] at A1 D1 st1
  have g_ob1 : n0 ≤ ob1 := Nat.le_trans Z0 (Nat.le_of_eq g1.symm)
  have sz_ob1 : h0.size ≤ ob1 := Nat.le_trans K0.1 (Nat.le_of_eq g1.symm)
  have K1 := K0.ext E1
  have Zp1 : n0 ≤ h1.size := Nat.le_trans Z0 E1.1
  refine own_go st1 ?_
  have O2 := O0.ext E1
  have F_value_ob1 : Fld Z h1 ob1 "java/lang/String" "value" "[B" .null := D1 (Or.inr (wd_23 hw)) (ty := (.array .byte)) (by decide)
  have F_coder_ob1 : Fld Z h1 ob1 "java/lang/String" "coder" "B" (.int 0) := D1 (Or.inr (wd_24 hw)) (ty := .byte) (by decide)
  refine o_dup X1 B d2_67 rfl ?_
  refine o_iconst X1 B d2_68 ?_
  obtain ⟨T3, h3, ka3, X3, e3, E3, A3, st3⟩ := newP (aty := .char) X1 hx hZ (wd_10 hw) e1 (g := (mkF m 69 #[.val (.int 3), .val (.int c0), .val (.int c1), .val (.int c2), .val (.int c3)] [(.int 3), (.ref ob1), (.ref ob1)])) rfl (hb hby d2_69) rfl (by decide) (cap := 3) (by decide) (by decide) (by decide) (by decide)
  obtain ⟨ob3, g3⟩ : ∃ z, z = h1.size := ⟨_, rfl⟩
  rw [← g3] at A3 st3
  have ne_ob1_ob3 : ob1 ≠ ob3 := Nat.ne_of_lt (Nat.lt_of_lt_of_le A1.lt (Nat.le_of_eq g3.symm))
  have V3 : Arv Z h3 ob3 ka3 .char (3 : Int32) [(.int 0), (.int 0), (.int 0)] (.int 0) := (Arv.new A3 (by decide)).pad (pad_rep [] (.int 0) 3)
  have g_ob3 : n0 ≤ ob3 := Nat.le_trans Zp1 (Nat.le_of_eq g3.symm)
  have sz_ob3 : h0.size ≤ ob3 := Nat.le_trans K1.1 (Nat.le_of_eq g3.symm)
  have K3 := K1.ext E3
  have Zp3 : n0 ≤ h3.size := Nat.le_trans Zp1 E3.1
  refine own_go st3 ?_
  have O4 := O2.ext E3
  refine o_dup X3 B d2_71 rfl ?_
  show own_G p e below Φ T3 (mkF m 72 #[.val (.int 3), .val (.int c0), .val (.int c1), .val (.int c2), .val (.int c3)] [(.ref ob3), (.ref ob3), (.ref ob1), (.ref ob1)])
  refine o_iconst X3 B d2_72 ?_
  refine o_iloadN X3 B d2_73 rfl ?_
  obtain ⟨cl5, Ar5, zq5, S5, M5, H5, G5⟩ := id V3
  have hin5 : ¬ ((0 : Int32) < 0 ∨ cl5.slots.size ≤ ((0 : Int32)).toNatClampNeg) := inb_of S5 ⟨by decide, by decide⟩
  obtain ⟨T5, h5, X5, e5, W5, st5⟩ := stC X3 hx hZ e3 Ar5 (j := (0 : Int32)) hin5 (g := (mkF m 74 #[.val (.int 3), .val (.int c0), .val (.int c1), .val (.int c2), .val (.int c3)] [(.int c0), (.int 0), (.ref ob3), (.ref ob3), (.ref ob1), (.ref ob1)])) rfl rfl (hb hby d2_74)
  refine own_go st5 ?_
  have V5 : Arv Z h5 ob3 ka3 .char (3 : Int32) [(.int (nar .char c0)), (.int 0), (.int 0)] (.int 0) := Arv.set Ar5 zq5 S5 M5 H5 G5 (fits_nar_char c0) W5 0 rfl (Nat.le_of_ble_eq_true rfl)
  have V5f : Arv Z h5 ob3 ka3 .char (3 : Int32) [(.int c0), (.int 0), (.int 0)] (.int 0) := by have q := V5; rw [own_narc hr0] at q; exact q
  have O6 := O4.wr W5 g_ob3
  have N5 := Fr.snoc X5 N0 g_ob3
  have K5 := K3.wr W5 (Or.inr sz_ob3)
  have Zp5 : n0 ≤ h5.size := Nat.le_trans Zp3 (Keep.of_wr W5).1
  refine o_dup X5 B d2_75 rfl ?_
  refine o_iconst X5 B d2_76 ?_
  refine o_iloadN X5 B d2_77 rfl ?_
  obtain ⟨cl7, Ar7, zq7, S7, M7, H7, G7⟩ := id V5f
  have hin7 : ¬ ((1 : Int32) < 0 ∨ cl7.slots.size ≤ ((1 : Int32)).toNatClampNeg) := inb_of S7 ⟨by decide, by decide⟩
  obtain ⟨T7, h7, X7, e7, W7, st7⟩ := stC X5 hx hZ e5 Ar7 (j := (1 : Int32)) hin7 (g := (mkF m 78 #[.val (.int 3), .val (.int c0), .val (.int c1), .val (.int c2), .val (.int c3)] [(.int c1), (.int 1), (.ref ob3), (.ref ob3), (.ref ob1), (.ref ob1)])) rfl rfl (hb hby d2_78)
  refine own_go st7 ?_
  have V7 : Arv Z h7 ob3 ka3 .char (3 : Int32) [(.int c0), (.int (nar .char c1)), (.int 0)] (.int 0) := Arv.set Ar7 zq7 S7 M7 H7 G7 (fits_nar_char c1) W7 1 rfl (Nat.le_of_ble_eq_true rfl)
  have V7f : Arv Z h7 ob3 ka3 .char (3 : Int32) [(.int c0), (.int c1), (.int 0)] (.int 0) := by have q := V7; rw [own_narc hr1] at q; exact q
  have O8 := O6.wr W7 g_ob3
  have N7 := Fr.snoc X7 N5 g_ob3
  have K7 := K5.wr W7 (Or.inr sz_ob3)
  have Zp7 : n0 ≤ h7.size := Nat.le_trans Zp5 (Keep.of_wr W7).1
  refine o_dup X7 B d2_79 rfl ?_
  show own_G p e below Φ T7 (mkF m 80 #[.val (.int 3), .val (.int c0), .val (.int c1), .val (.int c2), .val (.int c3)] [(.ref ob3), (.ref ob3), (.ref ob1), (.ref ob1)])
  refine o_iconst X7 B d2_80 ?_
  refine o_iloadN X7 B d2_81 rfl ?_
  obtain ⟨cl9, Ar9, zq9, S9, M9, H9, G9⟩ := id V7f
  have hin9 : ¬ ((2 : Int32) < 0 ∨ cl9.slots.size ≤ ((2 : Int32)).toNatClampNeg) := inb_of S9 ⟨by decide, by decide⟩
  obtain ⟨T9, h9, X9, e9, W9, st9⟩ := stC X7 hx hZ e7 Ar9 (j := (2 : Int32)) hin9 (g := (mkF m 82 #[.val (.int 3), .val (.int c0), .val (.int c1), .val (.int c2), .val (.int c3)] [(.int c2), (.int 2), (.ref ob3), (.ref ob3), (.ref ob1), (.ref ob1)])) rfl rfl (hb hby d2_82)
  refine own_go st9 ?_
  have V9 : Arv Z h9 ob3 ka3 .char (3 : Int32) [(.int c0), (.int c1), (.int (nar .char c2))] (.int 0) := Arv.set Ar9 zq9 S9 M9 H9 G9 (fits_nar_char c2) W9 2 rfl (Nat.le_of_ble_eq_true rfl)
  have V9f : Arv Z h9 ob3 ka3 .char (3 : Int32) [(.int c0), (.int c1), (.int c2)] (.int 0) := by have q := V9; rw [own_narc hr2] at q; exact q
  have O10 := O8.wr W9 g_ob3
  have N9 := Fr.snoc X9 N7 g_ob3
  have K9 := K7.wr W9 (Or.inr sz_ob3)
  have Zp9 : n0 ≤ h9.size := Nat.le_trans Zp7 (Keep.of_wr W9).1
  have f11 : Exa Z h3 ob1 "java/lang/String" := A1.ext E3
  have f12 : Exa Z h5 ob1 "java/lang/String" := f11.wr W5
  have f13 : Exa Z h7 ob1 "java/lang/String" := f12.wr W7
  have f14 : Exa Z h9 ob1 "java/lang/String" := f13.wr W9
  have f15 : Fld Z h3 ob1 "java/lang/String" "value" "[B" .null := F_value_ob1.ext E3
  have f16 : Fld Z h5 ob1 "java/lang/String" "value" "[B" .null := f15.other W5 (Or.inl ne_ob1_ob3)
  have f17 : Fld Z h7 ob1 "java/lang/String" "value" "[B" .null := f16.other W7 (Or.inl ne_ob1_ob3)
  have f18 : Fld Z h9 ob1 "java/lang/String" "value" "[B" .null := f17.other W9 (Or.inl ne_ob1_ob3)
  have f19 : Fld Z h3 ob1 "java/lang/String" "coder" "B" (.int 0) := F_coder_ob1.ext E3
  have f20 : Fld Z h5 ob1 "java/lang/String" "coder" "B" (.int 0) := f19.other W5 (Or.inl ne_ob1_ob3)
  have f21 : Fld Z h7 ob1 "java/lang/String" "coder" "B" (.int 0) := f20.other W7 (Or.inl ne_ob1_ob3)
  have f22 : Fld Z h9 ob1 "java/lang/String" "coder" "B" (.int 0) := f21.other W9 (Or.inl ne_ob1_ob3)
  refine o_cI (argsL := [(.ref ob3)]) (rest := [(.ref ob1)]) X9 B hZ hown rfl (wd_11 hw) (wd_12 hw) (wd_13 hw) (wd_9 hw) (by decide) rfl 1 (rmIn1_31 l Z a0 hw [] ob1 gz ob3 ka3 c0 c1 c2 (.int 0) h9 n0 Zp9 O10 S_COMPACT_STRINGS hgz S__assertionsDisabled S_HI_BYTE_SHIFT S_LO_BYTE_SHIFT f14 f18 f22 g_ob1 V9f ne_ob1_ob3 hr0 hr1 hr2 hex) (by decide) (by decide) (lenOf pd_14 rfl) rfl rfl rfl d2_83 e9 (by decide) (by decide) rfl ?_
  rintro _ T23 _ X23 ⟨vb_23, ns_vb_23, kb_23, rfl, N23q, Kq23, p23_0, p23_1, p23_2, p23_3⟩
  have N23 := Fr.app N9 N23q
  have ne_ob1_vb_23 : ob1 ≠ vb_23 := Nat.ne_of_lt (Nat.lt_of_lt_of_le f14.lt ns_vb_23)
  have ne_ob3_vb_23 : ob3 ≠ vb_23 := Nat.ne_of_lt (Nat.lt_of_lt_of_le V9f.lt ns_vb_23)
  have sz_vb_23 : h0.size ≤ vb_23 := Nat.le_trans K9.1 ns_vb_23
  have K23 := K9.trans Kq23 (allS (Or.inr sz_ob1) all0)
  have g_vb_23 : n0 ≤ vb_23 := Nat.le_trans Zp9 ns_vb_23
  have Zp23 : n0 ≤ T23.heap.size := Nat.le_trans Zp9 Kq23.1
  have O24 := O10.keep Kq23 (allS g_ob1 all0)
  rw [hΦ]
  refine own_ret X23 (v := some (.ref ob1)) (own_nr hret) hlk (fun fs hr => retOut X23 hx hret rfl (Or.inr (Or.inr (Or.inr (Or.inr ⟨rfl, rfl, rfl⟩)))) (hb hby d2_86) hr) ?_ (by decide) (by decide)
  exact ⟨ob1, sz_ob1, vb_23, sz_vb_23, kb_23, rfl, N23, K23, p23_0, p23_1, p23_2, p23_3⟩
theorem d2_87 : decode method_4_code 87 = .ok (.new 8, 3) := by decide +kernel
theorem d2_90 : decode method_4_code 90 = .ok (.dup, 1) := by decide +kernel
theorem d2_91 : decode method_4_code 91 = .ok (.iconst 4, 1) := by decide +kernel
theorem d2_92 : decode method_4_code 92 = .ok (.newarray .char, 2) := by decide +kernel
theorem d2_94 : decode method_4_code 94 = .ok (.dup, 1) := by decide +kernel
theorem d2_95 : decode method_4_code 95 = .ok (.iconst 0, 1) := by decide +kernel
theorem d2_96 : decode method_4_code 96 = .ok (.iload_n 1, 1) := by decide +kernel
theorem d2_97 : decode method_4_code 97 = .ok (.castore, 1) := by decide +kernel
theorem d2_98 : decode method_4_code 98 = .ok (.dup, 1) := by decide +kernel
theorem d2_99 : decode method_4_code 99 = .ok (.iconst 1, 1) := by decide +kernel
theorem d2_100 : decode method_4_code 100 = .ok (.iload_n 2, 1) := by decide +kernel
theorem d2_101 : decode method_4_code 101 = .ok (.castore, 1) := by decide +kernel
theorem d2_102 : decode method_4_code 102 = .ok (.dup, 1) := by decide +kernel
theorem d2_103 : decode method_4_code 103 = .ok (.iconst 2, 1) := by decide +kernel
theorem d2_104 : decode method_4_code 104 = .ok (.iload_n 3, 1) := by decide +kernel
theorem d2_105 : decode method_4_code 105 = .ok (.castore, 1) := by decide +kernel
theorem d2_106 : decode method_4_code 106 = .ok (.dup, 1) := by decide +kernel
theorem d2_107 : decode method_4_code 107 = .ok (.iconst 3, 1) := by decide +kernel
theorem d2_108 : decode method_4_code 108 = .ok (.iload 4, 2) := by decide +kernel
theorem d2_110 : decode method_4_code 110 = .ok (.castore, 1) := by decide +kernel
theorem d2_111 : decode method_4_code 111 = .ok (.invokespecial 10, 3) := by decide +kernel
theorem d2_114 : decode method_4_code 114 = .ok (.areturn, 1) := by decide +kernel
theorem ef_rmTx_40 (m : MethodId) (c0 : Int32) (c1 : Int32) (c2 : Int32) (c3 : Int32) : entryFrame m #[(.int 4), (.int c0), (.int c1), (.int c2), (.int c3)] 5 = mkF m 0 #[.val (.int 4), .val (.int c0), .val (.int c1), .val (.int c2), .val (.int c3)] [] := by first | (simp [entryFrame, mkF, argsToLocals, Value.category]; done) | rfl
def Q_rmTx_40 (Z : State) (c0 : Int32) (c1 : Int32) (c2 : Int32) (c3 : Int32) (gz : Int32) (h0 : Heap) (n0 : Nat) (v : Option Value) (h : Heap) (L : List Loc) : Prop := ∃ so : Addr, h0.size ≤ so ∧ ∃ vb : Addr, h0.size ≤ vb ∧ ∃ kb : ClassId, v = some (.ref so) ∧ Fr n0 L ∧ Keep h0 h [] ∧ Exa Z h so "java/lang/String" ∧ Fld Z h so "java/lang/String" "value" "[B" (.ref vb) ∧ Fld Z h so "java/lang/String" "coder" "B" (.int 0) ∧ Arv Z h vb kb .byte (4 : Int32) [(.int (own_lo c0)), (.int (own_lo c1)), (.int (own_lo c2)), (.int (own_lo c3))] (.int 0)
set_option maxRecDepth 65536 in
set_option maxHeartbeats 40000000 in
theorem rmTx_40 (l : Launch) (Z : State) (a0 : Array Value) (hw : own_H Z a0) (ws : List Jvm.Cond) (c0 : Int32) (c1 : Int32) (c2 : Int32) (c3 : Int32) (gz : Int32) (h0 : Heap) (n0 : Nat) (Z0 : n0 ≤ h0.size) (O0 : Old Z n0 h0) (S_COMPACT_STRINGS : Sta Z Z.heap "java/lang/String" "COMPACT_STRINGS" "Z" (.int gz)) (hgz : ¬ gz = (0 : Int32)) (hr0 : ¬ c0 < 0 ∧ ¬ (65535 : Int32) < c0) (hr1 : ¬ c1 < 0 ∧ ¬ (65535 : Int32) < c1) (hr2 : ¬ c2 < 0 ∧ ¬ (65535 : Int32) < c2) (hr3 : ¬ c3 < 0 ∧ ¬ (65535 : Int32) < c3) (hl0 : ¬ (255 : Int32) < c0) (hl1 : ¬ (255 : Int32) < c1) (hl2 : ¬ (255 : Int32) < c2) (hl3 : ¬ (255 : Int32) < c3) :
    own_Met l (⟨"com/example/edgewarden/edgewarden/xacml/XacmlSyntaxIsWhiteSpacePinLaw", "text", "(ICCCC)Ljava/lang/String;"⟩ : MethodName) method_4_code 5 (some (.object "java/lang/String")) ws (own_rm 4 3 12 66) Z h0 #[(.int 4), (.int c0), (.int c1), (.int c2), (.int c3)] (Q_rmTx_40 Z c0 c1 c2 c3 gz h0 n0) := by
  refine own_met (plainFor_of_name pn_0) (fun m => ef_rmTx_40 m c0 c1 c2 c3) ?_
  intro p e s m below meth c s₁ Φ hΦ X0 hx hby hml hown hnm hret hlk hZ e0
  have N0 := Fr.nil n0
  have B : own_B p c _ _ := ⟨hx, hby, hml⟩
  have K0 : Keep h0 h0 [] := Keep.refl _ _
  show own_G p e below Φ s₁ (mkF m 0 #[.val (.int 4), .val (.int c0), .val (.int c1), .val (.int c2), .val (.int c3)] [])
  refine o_iloadN X0 B d2_0 rfl ?_
  refine o_ifY X0 B 15 d2_1 (XT.i0_ne_t (by decide : ¬ ((4 : Int32) = (0 : Int32)))) rfl ?_
  refine o_iloadN X0 B d2_15 rfl ?_
  refine o_iconst X0 B d2_16 ?_
  refine o_icY X0 B 35 d2_17 (XT.ii_ne_t (by decide : ¬ ((4 : Int32) = (1 : Int32)))) rfl ?_
  refine o_iloadN X0 B d2_35 rfl ?_
  refine o_iconst X0 B d2_36 ?_
  refine o_icY X0 B 59 d2_37 (XT.ii_ne_t (by decide : ¬ ((4 : Int32) = (2 : Int32)))) rfl ?_
  show own_G p e below Φ s₁ (mkF m 59 #[.val (.int 4), .val (.int c0), .val (.int c1), .val (.int c2), .val (.int c3)] [])
  refine o_iloadN X0 B d2_59 rfl ?_
  refine o_iconst X0 B d2_60 ?_
  refine o_icY X0 B 87 d2_61 (XT.ii_ne_t (by decide : ¬ ((4 : Int32) = (3 : Int32)))) rfl ?_
  obtain ⟨T1, h1, X1, e1, E1, A1, D1, -, st1⟩ := newO X0 hx hZ hown (wd_7 hw) (wd_8 hw) (wd_9 hw) e0 (g := (mkF m 87 #[.val (.int 4), .val (.int c0), .val (.int c1), .val (.int c2), .val (.int c3)] [])) rfl (hb hby d2_87) (by decide) (by decide)
  obtain ⟨ob1, g1⟩ : ∃ z, z = h0.size := ⟨_, rfl⟩
  rw [← g1] at A1 D1 st1
  have g_ob1 : n0 ≤ ob1 := Nat.le_trans Z0 (Nat.le_of_eq g1.symm)
  have sz_ob1 : h0.size ≤ ob1 := Nat.le_trans K0.1 (Nat.le_of_eq g1.symm)
  have K1 := K0.ext E1
  have Zp1 : n0 ≤ h1.size := Nat.le_trans Z0 E1.1
  refine own_go st1 ?_
  have O2 := O0.ext E1
  have F_value_ob1 : Fld Z h1 ob1 "java/lang/String" "value" "[B" .null := D1 (Or.inr (wd_23 hw)) (ty := (.array .byte)) (by decide)
  have F_coder_ob1 : Fld Z h1 ob1 "java/lang/String" "coder" "B" (.int 0) := D1 (Or.inr (wd_24 hw)) (ty := .byte) (by decide)
  refine o_dup X1 B d2_90 rfl ?_
  refine o_iconst X1 B d2_91 ?_
  obtain ⟨T3, h3, ka3, X3, e3, E3, A3, st3⟩ := newP (aty := .char) X1 hx hZ (wd_10 hw) e1 (g := (mkF m 92 #[.val (.int 4), .val (.int c0), .val (.int c1), .val (.int c2), .val (.int c3)] [(.int 4), (.ref ob1), (.ref ob1)])) rfl (hb hby d2_92) rfl (by decide) (cap := 4) (by decide) (by decide) (by decide) (by decide)
  obtain ⟨ob3, g3⟩ : ∃ z, z = h1.size := ⟨_, rfl⟩
  rw [← g3] at A3 st3
  have ne_ob1_ob3 : ob1 ≠ ob3 := Nat.ne_of_lt (Nat.lt_of_lt_of_le A1.lt (Nat.le_of_eq g3.symm))
  have V3 : Arv Z h3 ob3 ka3 .char (4 : Int32) [(.int 0), (.int 0), (.int 0), (.int 0)] (.int 0) := (Arv.new A3 (by decide)).pad (pad_rep [] (.int 0) 4)
  have g_ob3 : n0 ≤ ob3 := Nat.le_trans Zp1 (Nat.le_of_eq g3.symm)
  have sz_ob3 : h0.size ≤ ob3 := Nat.le_trans K1.1 (Nat.le_of_eq g3.symm)
  have K3 := K1.ext E3
  have Zp3 : n0 ≤ h3.size := Nat.le_trans Zp1 E3.1
  refine own_go st3 ?_
  have O4 := O2.ext E3
  refine o_dup X3 B d2_94 rfl ?_
  show own_G p e below Φ T3 (mkF m 95 #[.val (.int 4), .val (.int c0), .val (.int c1), .val (.int c2), .val (.int c3)] [(.ref ob3), (.ref ob3), (.ref ob1), (.ref ob1)])
  refine o_iconst X3 B d2_95 ?_
  refine o_iloadN X3 B d2_96 rfl ?_
  obtain ⟨cl5, Ar5, zq5, S5, M5, H5, G5⟩ := id V3
  have hin5 : ¬ ((0 : Int32) < 0 ∨ cl5.slots.size ≤ ((0 : Int32)).toNatClampNeg) := inb_of S5 ⟨by decide, by decide⟩
  obtain ⟨T5, h5, X5, e5, W5, st5⟩ := stC X3 hx hZ e3 Ar5 (j := (0 : Int32)) hin5 (g := (mkF m 97 #[.val (.int 4), .val (.int c0), .val (.int c1), .val (.int c2), .val (.int c3)] [(.int c0), (.int 0), (.ref ob3), (.ref ob3), (.ref ob1), (.ref ob1)])) rfl rfl (hb hby d2_97)
  refine own_go st5 ?_
  have V5 : Arv Z h5 ob3 ka3 .char (4 : Int32) [(.int (nar .char c0)), (.int 0), (.int 0), (.int 0)] (.int 0) := Arv.set Ar5 zq5 S5 M5 H5 G5 (fits_nar_char c0) W5 0 rfl (Nat.le_of_ble_eq_true rfl)
  have V5f : Arv Z h5 ob3 ka3 .char (4 : Int32) [(.int c0), (.int 0), (.int 0), (.int 0)] (.int 0) := by have q := V5; rw [own_narc hr0] at q; exact q
  have O6 := O4.wr W5 g_ob3
  have N5 := Fr.snoc X5 N0 g_ob3
  have K5 := K3.wr W5 (Or.inr sz_ob3)
  have Zp5 : n0 ≤ h5.size := Nat.le_trans Zp3 (Keep.of_wr W5).1
  refine o_dup X5 B d2_98 rfl ?_
  refine o_iconst X5 B d2_99 ?_
  refine o_iloadN X5 B d2_100 rfl ?_
  obtain ⟨cl7, Ar7, zq7, S7, M7, H7, G7⟩ := id V5f
  have hin7 : ¬ ((1 : Int32) < 0 ∨ cl7.slots.size ≤ ((1 : Int32)).toNatClampNeg) := inb_of S7 ⟨by decide, by decide⟩
  obtain ⟨T7, h7, X7, e7, W7, st7⟩ := stC X5 hx hZ e5 Ar7 (j := (1 : Int32)) hin7 (g := (mkF m 101 #[.val (.int 4), .val (.int c0), .val (.int c1), .val (.int c2), .val (.int c3)] [(.int c1), (.int 1), (.ref ob3), (.ref ob3), (.ref ob1), (.ref ob1)])) rfl rfl (hb hby d2_101)
  refine own_go st7 ?_
  have V7 : Arv Z h7 ob3 ka3 .char (4 : Int32) [(.int c0), (.int (nar .char c1)), (.int 0), (.int 0)] (.int 0) := Arv.set Ar7 zq7 S7 M7 H7 G7 (fits_nar_char c1) W7 1 rfl (Nat.le_of_ble_eq_true rfl)
  have V7f : Arv Z h7 ob3 ka3 .char (4 : Int32) [(.int c0), (.int c1), (.int 0), (.int 0)] (.int 0) := by have q := V7; rw [own_narc hr1] at q; exact q
  have O8 := O6.wr W7 g_ob3
  have N7 := Fr.snoc X7 N5 g_ob3
  have K7 := K5.wr W7 (Or.inr sz_ob3)
  have Zp7 : n0 ≤ h7.size := Nat.le_trans Zp5 (Keep.of_wr W7).1
  refine o_dup X7 B d2_102 rfl ?_
  show own_G p e below Φ T7 (mkF m 103 #[.val (.int 4), .val (.int c0), .val (.int c1), .val (.int c2), .val (.int c3)] [(.ref ob3), (.ref ob3), (.ref ob1), (.ref ob1)])
  refine o_iconst X7 B d2_103 ?_
  refine o_iloadN X7 B d2_104 rfl ?_
  obtain ⟨cl9, Ar9, zq9, S9, M9, H9, G9⟩ := id V7f
  have hin9 : ¬ ((2 : Int32) < 0 ∨ cl9.slots.size ≤ ((2 : Int32)).toNatClampNeg) := inb_of S9 ⟨by decide, by decide⟩
  obtain ⟨T9, h9, X9, e9, W9, st9⟩ := stC X7 hx hZ e7 Ar9 (j := (2 : Int32)) hin9 (g := (mkF m 105 #[.val (.int 4), .val (.int c0), .val (.int c1), .val (.int c2), .val (.int c3)] [(.int c2), (.int 2), (.ref ob3), (.ref ob3), (.ref ob1), (.ref ob1)])) rfl rfl (hb hby d2_105)
  refine own_go st9 ?_
  have V9 : Arv Z h9 ob3 ka3 .char (4 : Int32) [(.int c0), (.int c1), (.int (nar .char c2)), (.int 0)] (.int 0) := Arv.set Ar9 zq9 S9 M9 H9 G9 (fits_nar_char c2) W9 2 rfl (Nat.le_of_ble_eq_true rfl)
  have V9f : Arv Z h9 ob3 ka3 .char (4 : Int32) [(.int c0), (.int c1), (.int c2), (.int 0)] (.int 0) := by have q := V9; rw [own_narc hr2] at q; exact q
  have O10 := O8.wr W9 g_ob3
  have N9 := Fr.snoc X9 N7 g_ob3
  have K9 := K7.wr W9 (Or.inr sz_ob3)
  have Zp9 : n0 ≤ h9.size := Nat.le_trans Zp7 (Keep.of_wr W9).1
  refine o_dup X9 B d2_106 rfl ?_
  refine o_iconst X9 B d2_107 ?_
  refine o_iload X9 B d2_108 rfl ?_
  obtain ⟨cl11, Ar11, zq11, S11, M11, H11, G11⟩ := id V9f
  have hin11 : ¬ ((3 : Int32) < 0 ∨ cl11.slots.size ≤ ((3 : Int32)).toNatClampNeg) := inb_of S11 ⟨by decide, by decide⟩
  obtain ⟨T11, h11, X11, e11, W11, st11⟩ := stC X9 hx hZ e9 Ar11 (j := (3 : Int32)) hin11 (g := (mkF m 110 #[.val (.int 4), .val (.int c0), .val (.int c1), .val (.int c2), .val (.int c3)] [(.int c3), (.int 3), (.ref ob3), (.ref ob3), (.ref ob1), (.ref ob1)])) rfl rfl (hb hby d2_110)
  refine own_go st11 ?_
  have V11 : Arv Z h11 ob3 ka3 .char (4 : Int32) [(.int c0), (.int c1), (.int c2), (.int (nar .char c3))] (.int 0) := Arv.set Ar11 zq11 S11 M11 H11 G11 (fits_nar_char c3) W11 3 rfl (Nat.le_of_ble_eq_true rfl)
  have V11f : Arv Z h11 ob3 ka3 .char (4 : Int32) [(.int c0), (.int c1), (.int c2), (.int c3)] (.int 0) := by have q := V11; rw [own_narc hr3] at q; exact q
  have O12 := O10.wr W11 g_ob3
  have N11 := Fr.snoc X11 N9 g_ob3
  have K11 := K9.wr W11 (Or.inr sz_ob3)
  have Zp11 : n0 ≤ h11.size := Nat.le_trans Zp9 (Keep.of_wr W11).1
  have f13 : Exa Z h3 ob1 "java/lang/String" := A1.ext E3
  have f14 : Exa Z h5 ob1 "java/lang/String" := f13.wr W5
  have f15 : Exa Z h7 ob1 "java/lang/String" := f14.wr W7
  have f16 : Exa Z h9 ob1 "java/lang/String" := f15.wr W9
  have f17 : Exa Z h11 ob1 "java/lang/String" := f16.wr W11
  have f18 : Fld Z h3 ob1 "java/lang/String" "value" "[B" .null := F_value_ob1.ext E3
  have f19 : Fld Z h5 ob1 "java/lang/String" "value" "[B" .null := f18.other W5 (Or.inl ne_ob1_ob3)
  have f20 : Fld Z h7 ob1 "java/lang/String" "value" "[B" .null := f19.other W7 (Or.inl ne_ob1_ob3)
  have f21 : Fld Z h9 ob1 "java/lang/String" "value" "[B" .null := f20.other W9 (Or.inl ne_ob1_ob3)
  have f22 : Fld Z h11 ob1 "java/lang/String" "value" "[B" .null := f21.other W11 (Or.inl ne_ob1_ob3)
  have f23 : Fld Z h3 ob1 "java/lang/String" "coder" "B" (.int 0) := F_coder_ob1.ext E3
  have f24 : Fld Z h5 ob1 "java/lang/String" "coder" "B" (.int 0) := f23.other W5 (Or.inl ne_ob1_ob3)
  have f25 : Fld Z h7 ob1 "java/lang/String" "coder" "B" (.int 0) := f24.other W7 (Or.inl ne_ob1_ob3)
  have f26 : Fld Z h9 ob1 "java/lang/String" "coder" "B" (.int 0) := f25.other W9 (Or.inl ne_ob1_ob3)
  have f27 : Fld Z h11 ob1 "java/lang/String" "coder" "B" (.int 0) := f26.other W11 (Or.inl ne_ob1_ob3)
  refine o_cI (argsL := [(.ref ob3)]) (rest := [(.ref ob1)]) X11 B hZ hown rfl (wd_11 hw) (wd_12 hw) (wd_13 hw) (wd_9 hw) (by decide) rfl 1 (rmIn1_40 l Z a0 hw [] ob1 gz ob3 ka3 c0 c1 c2 c3 (.int 0) h11 n0 Zp11 O12 S_COMPACT_STRINGS hgz f17 f22 f27 g_ob1 V11f ne_ob1_ob3 hl0 hl1 hl2 hl3) (by decide) (by decide) (lenOf pd_14 rfl) rfl rfl rfl d2_111 e11 (by decide) (by decide) rfl ?_
  rintro _ T28 _ X28 ⟨vb_28, ns_vb_28, kb_28, rfl, N28q, Kq28, p28_0, p28_1, p28_2, p28_3⟩
  have N28 := Fr.app N11 N28q
  have ne_ob1_vb_28 : ob1 ≠ vb_28 := Nat.ne_of_lt (Nat.lt_of_lt_of_le f17.lt ns_vb_28)
  have ne_ob3_vb_28 : ob3 ≠ vb_28 := Nat.ne_of_lt (Nat.lt_of_lt_of_le V11f.lt ns_vb_28)
  have sz_vb_28 : h0.size ≤ vb_28 := Nat.le_trans K11.1 ns_vb_28
  have K28 := K11.trans Kq28 (allS (Or.inr sz_ob1) all0)
  have g_vb_28 : n0 ≤ vb_28 := Nat.le_trans Zp11 ns_vb_28
  have Zp28 : n0 ≤ T28.heap.size := Nat.le_trans Zp11 Kq28.1
  have O29 := O12.keep Kq28 (allS g_ob1 all0)
  show own_G p e below Φ T28 (mkF m 114 #[.val (.int 4), .val (.int c0), .val (.int c1), .val (.int c2), .val (.int c3)] [(.ref ob1)])
  rw [hΦ]
  refine own_ret X28 (v := some (.ref ob1)) (own_nr hret) hlk (fun fs hr => retOut X28 hx hret rfl (Or.inr (Or.inr (Or.inr (Or.inr ⟨rfl, rfl, rfl⟩)))) (hb hby d2_114) hr) ?_ (by decide) (by decide)
  exact ⟨ob1, sz_ob1, vb_28, sz_vb_28, kb_28, rfl, N28, K28, p28_0, p28_1, p28_2, p28_3⟩
theorem ef_rmTx_41 (m : MethodId) (c0 : Int32) (c1 : Int32) (c2 : Int32) (c3 : Int32) : entryFrame m #[(.int 4), (.int c0), (.int c1), (.int c2), (.int c3)] 5 = mkF m 0 #[.val (.int 4), .val (.int c0), .val (.int c1), .val (.int c2), .val (.int c3)] [] := by first | (simp [entryFrame, mkF, argsToLocals, Value.category]; done) | rfl
def Q_rmTx_41 (Z : State) (c0 : Int32) (c1 : Int32) (c2 : Int32) (c3 : Int32) (gz : Int32) (h0 : Heap) (n0 : Nat) (v : Option Value) (h : Heap) (L : List Loc) : Prop := ∃ so : Addr, h0.size ≤ so ∧ ∃ vb : Addr, h0.size ≤ vb ∧ ∃ kb : ClassId, v = some (.ref so) ∧ Fr n0 L ∧ Keep h0 h [] ∧ Exa Z h so "java/lang/String" ∧ Fld Z h so "java/lang/String" "value" "[B" (.ref vb) ∧ Fld Z h so "java/lang/String" "coder" "B" (.int 1) ∧ Arv Z h vb kb .byte (8 : Int32) [(.int (own_h0 c0)), (.int (own_h8 c0)), (.int (own_h0 c1)), (.int (own_h8 c1)), (.int (own_h0 c2)), (.int (own_h8 c2)), (.int (own_h0 c3)), (.int (own_h8 c3))] (.int 0)
set_option maxRecDepth 65536 in
set_option maxHeartbeats 40000000 in
theorem rmTx_41 (l : Launch) (Z : State) (a0 : Array Value) (hw : own_H Z a0) (ws : List Jvm.Cond) (c0 : Int32) (c1 : Int32) (c2 : Int32) (c3 : Int32) (gz : Int32) (h0 : Heap) (n0 : Nat) (Z0 : n0 ≤ h0.size) (O0 : Old Z n0 h0) (S_COMPACT_STRINGS : Sta Z Z.heap "java/lang/String" "COMPACT_STRINGS" "Z" (.int gz)) (hgz : ¬ gz = (0 : Int32)) (S__assertionsDisabled : Sta Z Z.heap "java/lang/StringUTF16" "$assertionsDisabled" "Z" (.int 1)) (S_HI_BYTE_SHIFT : Sta Z Z.heap "java/lang/StringUTF16" "HI_BYTE_SHIFT" "I" (.int 0)) (S_LO_BYTE_SHIFT : Sta Z Z.heap "java/lang/StringUTF16" "LO_BYTE_SHIFT" "I" (.int 8)) (hr0 : ¬ c0 < 0 ∧ ¬ (65535 : Int32) < c0) (hr1 : ¬ c1 < 0 ∧ ¬ (65535 : Int32) < c1) (hr2 : ¬ c2 < 0 ∧ ¬ (65535 : Int32) < c2) (hr3 : ¬ c3 < 0 ∧ ¬ (65535 : Int32) < c3) (hex : (255 : Int32) < c0 ∨ (255 : Int32) < c1 ∨ (255 : Int32) < c2 ∨ (255 : Int32) < c3) :
    own_Met l (⟨"com/example/edgewarden/edgewarden/xacml/XacmlSyntaxIsWhiteSpacePinLaw", "text", "(ICCCC)Ljava/lang/String;"⟩ : MethodName) method_4_code 5 (some (.object "java/lang/String")) ws (own_rm 6 4 20 88) Z h0 #[(.int 4), (.int c0), (.int c1), (.int c2), (.int c3)] (Q_rmTx_41 Z c0 c1 c2 c3 gz h0 n0) := by
  refine own_met (plainFor_of_name pn_0) (fun m => ef_rmTx_41 m c0 c1 c2 c3) ?_
  intro p e s m below meth c s₁ Φ hΦ X0 hx hby hml hown hnm hret hlk hZ e0
  have N0 := Fr.nil n0
  have B : own_B p c _ _ := ⟨hx, hby, hml⟩
  have K0 : Keep h0 h0 [] := Keep.refl _ _
  show own_G p e below Φ s₁ (mkF m 0 #[.val (.int 4), .val (.int c0), .val (.int c1), .val (.int c2), .val (.int c3)] [])
  refine o_iloadN X0 B d2_0 rfl ?_
  refine o_ifY X0 B 15 d2_1 (XT.i0_ne_t (by decide : ¬ ((4 : Int32) = (0 : Int32)))) rfl ?_
  refine o_iloadN X0 B d2_15 rfl ?_
  refine o_iconst X0 B d2_16 ?_
  refine o_icY X0 B 35 d2_17 (XT.ii_ne_t (by decide : ¬ ((4 : Int32) = (1 : Int32)))) rfl ?_
  refine o_iloadN X0 B d2_35 rfl ?_
  refine o_iconst X0 B d2_36 ?_
  refine o_icY X0 B 59 d2_37 (XT.ii_ne_t (by decide : ¬ ((4 : Int32) = (2 : Int32)))) rfl ?_
  show own_G p e below Φ s₁ (mkF m 59 #[.val (.int 4), .val (.int c0), .val (.int c1), .val (.int c2), .val (.int c3)] [])
  refine o_iloadN X0 B d2_59 rfl ?_
  refine o_iconst X0 B d2_60 ?_
  refine o_icY X0 B 87 d2_61 (XT.ii_ne_t (by decide : ¬ ((4 : Int32) = (3 : Int32)))) rfl ?_
  obtain ⟨T1, h1, X1, e1, E1, A1, D1, -, st1⟩ := newO X0 hx hZ hown (wd_7 hw) (wd_8 hw) (wd_9 hw) e0 (g := (mkF m 87 #[.val (.int 4), .val (.int c0), .val (.int c1), .val (.int c2), .val (.int c3)] [])) rfl (hb hby d2_87) (by decide) (by decide)
  obtain ⟨ob1, g1⟩ : ∃ z, z = h0.size := ⟨_, rfl⟩
  rw [← g1] at A1 D1 st1
  have g_ob1 : n0 ≤ ob1 := Nat.le_trans Z0 (Nat.le_of_eq g1.symm)
  have sz_ob1 : h0.size ≤ ob1 := Nat.le_trans K0.1 (Nat.le_of_eq g1.symm)
  have K1 := K0.ext E1
  have Zp1 : n0 ≤ h1.size := Nat.le_trans Z0 E1.1
  refine own_go st1 ?_
  have O2 := O0.ext E1
  have F_value_ob1 : Fld Z h1 ob1 "java/lang/String" "value" "[B" .null := D1 (Or.inr (wd_23 hw)) (ty := (.array .byte)) (by decide)
  have F_coder_ob1 : Fld Z h1 ob1 "java/lang/String" "coder" "B" (.int 0) := D1 (Or.inr (wd_24 hw)) (ty := .byte) (by decide)
  refine o_dup X1 B d2_90 rfl ?_
  refine o_iconst X1 B d2_91 ?_
  obtain ⟨T3, h3, ka3, X3, e3, E3, A3, st3⟩ := newP (aty := .char) X1 hx hZ (wd_10 hw) e1 (g := (mkF m 92 #[.val (.int 4), .val (.int c0), .val (.int c1), .val (.int c2), .val (.int c3)] [(.int 4), (.ref ob1), (.ref ob1)])) rfl (hb hby d2_92) rfl (by decide) (cap := 4) (by decide) (by decide) (by decide) (by decide)
  obtain ⟨ob3, g3⟩ : ∃ z, z = h1.size := ⟨_, rfl⟩
  rw [← g3] at A3 st3
  have ne_ob1_ob3 : ob1 ≠ ob3 := Nat.ne_of_lt (Nat.lt_of_lt_of_le A1.lt (Nat.le_of_eq g3.symm))
  have V3 : Arv Z h3 ob3 ka3 .char (4 : Int32) [(.int 0), (.int 0), (.int 0), (.int 0)] (.int 0) := (Arv.new A3 (by decide)).pad (pad_rep [] (.int 0) 4)
  have g_ob3 : n0 ≤ ob3 := Nat.le_trans Zp1 (Nat.le_of_eq g3.symm)
  have sz_ob3 : h0.size ≤ ob3 := Nat.le_trans K1.1 (Nat.le_of_eq g3.symm)
  have K3 := K1.ext E3
  have Zp3 : n0 ≤ h3.size := Nat.le_trans Zp1 E3.1
  refine own_go st3 ?_
  have O4 := O2.ext E3
  refine o_dup X3 B d2_94 rfl ?_
  show own_G p e below Φ T3 (mkF m 95 #[.val (.int 4), .val (.int c0), .val (.int c1), .val (.int c2), .val (.int c3)] [(.ref ob3), (.ref ob3), (.ref ob1), (.ref ob1)])
  refine o_iconst X3 B d2_95 ?_
  refine o_iloadN X3 B d2_96 rfl ?_
  obtain ⟨cl5, Ar5, zq5, S5, M5, H5, G5⟩ := id V3
  have hin5 : ¬ ((0 : Int32) < 0 ∨ cl5.slots.size ≤ ((0 : Int32)).toNatClampNeg) := inb_of S5 ⟨by decide, by decide⟩
  obtain ⟨T5, h5, X5, e5, W5, st5⟩ := stC X3 hx hZ e3 Ar5 (j := (0 : Int32)) hin5 (g := (mkF m 97 #[.val (.int 4), .val (.int c0), .val (.int c1), .val (.int c2), .val (.int c3)] [(.int c0), (.int 0), (.ref ob3), (.ref ob3), (.ref ob1), (.ref ob1)])) rfl rfl (hb hby d2_97)
  refine own_go st5 ?_
  have V5 : Arv Z h5 ob3 ka3 .char (4 : Int32) [(.int (nar .char c0)), (.int 0), (.int 0), (.int 0)] (.int 0) := Arv.set Ar5 zq5 S5 M5 H5 G5 (fits_nar_char c0) W5 0 rfl (Nat.le_of_ble_eq_true rfl)
  have V5f : Arv Z h5 ob3 ka3 .char (4 : Int32) [(.int c0), (.int 0), (.int 0), (.int 0)] (.int 0) := by have q := V5; rw [own_narc hr0] at q; exact q
  have O6 := O4.wr W5 g_ob3
  have N5 := Fr.snoc X5 N0 g_ob3
  have K5 := K3.wr W5 (Or.inr sz_ob3)
  have Zp5 : n0 ≤ h5.size := Nat.le_trans Zp3 (Keep.of_wr W5).1
  refine o_dup X5 B d2_98 rfl ?_
  refine o_iconst X5 B d2_99 ?_
  refine o_iloadN X5 B d2_100 rfl ?_
  obtain ⟨cl7, Ar7, zq7, S7, M7, H7, G7⟩ := id V5f
  have hin7 : ¬ ((1 : Int32) < 0 ∨ cl7.slots.size ≤ ((1 : Int32)).toNatClampNeg) := inb_of S7 ⟨by decide, by decide⟩
  obtain ⟨T7, h7, X7, e7, W7, st7⟩ := stC X5 hx hZ e5 Ar7 (j := (1 : Int32)) hin7 (g := (mkF m 101 #[.val (.int 4), .val (.int c0), .val (.int c1), .val (.int c2), .val (.int c3)] [(.int c1), (.int 1), (.ref ob3), (.ref ob3), (.ref ob1), (.ref ob1)])) rfl rfl (hb hby d2_101)
  refine own_go st7 ?_
  have V7 : Arv Z h7 ob3 ka3 .char (4 : Int32) [(.int c0), (.int (nar .char c1)), (.int 0), (.int 0)] (.int 0) := Arv.set Ar7 zq7 S7 M7 H7 G7 (fits_nar_char c1) W7 1 rfl (Nat.le_of_ble_eq_true rfl)
  have V7f : Arv Z h7 ob3 ka3 .char (4 : Int32) [(.int c0), (.int c1), (.int 0), (.int 0)] (.int 0) := by have q := V7; rw [own_narc hr1] at q; exact q
  have O8 := O6.wr W7 g_ob3
  have N7 := Fr.snoc X7 N5 g_ob3
  have K7 := K5.wr W7 (Or.inr sz_ob3)
  have Zp7 : n0 ≤ h7.size := Nat.le_trans Zp5 (Keep.of_wr W7).1
  refine o_dup X7 B d2_102 rfl ?_
  show own_G p e below Φ T7 (mkF m 103 #[.val (.int 4), .val (.int c0), .val (.int c1), .val (.int c2), .val (.int c3)] [(.ref ob3), (.ref ob3), (.ref ob1), (.ref ob1)])
  refine o_iconst X7 B d2_103 ?_
  refine o_iloadN X7 B d2_104 rfl ?_
  obtain ⟨cl9, Ar9, zq9, S9, M9, H9, G9⟩ := id V7f
  have hin9 : ¬ ((2 : Int32) < 0 ∨ cl9.slots.size ≤ ((2 : Int32)).toNatClampNeg) := inb_of S9 ⟨by decide, by decide⟩
  obtain ⟨T9, h9, X9, e9, W9, st9⟩ := stC X7 hx hZ e7 Ar9 (j := (2 : Int32)) hin9 (g := (mkF m 105 #[.val (.int 4), .val (.int c0), .val (.int c1), .val (.int c2), .val (.int c3)] [(.int c2), (.int 2), (.ref ob3), (.ref ob3), (.ref ob1), (.ref ob1)])) rfl rfl (hb hby d2_105)
  refine own_go st9 ?_
  have V9 : Arv Z h9 ob3 ka3 .char (4 : Int32) [(.int c0), (.int c1), (.int (nar .char c2)), (.int 0)] (.int 0) := Arv.set Ar9 zq9 S9 M9 H9 G9 (fits_nar_char c2) W9 2 rfl (Nat.le_of_ble_eq_true rfl)
  have V9f : Arv Z h9 ob3 ka3 .char (4 : Int32) [(.int c0), (.int c1), (.int c2), (.int 0)] (.int 0) := by have q := V9; rw [own_narc hr2] at q; exact q
  have O10 := O8.wr W9 g_ob3
  have N9 := Fr.snoc X9 N7 g_ob3
  have K9 := K7.wr W9 (Or.inr sz_ob3)
  have Zp9 : n0 ≤ h9.size := Nat.le_trans Zp7 (Keep.of_wr W9).1
  refine o_dup X9 B d2_106 rfl ?_
  refine o_iconst X9 B d2_107 ?_
  refine o_iload X9 B d2_108 rfl ?_
  obtain ⟨cl11, Ar11, zq11, S11, M11, H11, G11⟩ := id V9f
  have hin11 : ¬ ((3 : Int32) < 0 ∨ cl11.slots.size ≤ ((3 : Int32)).toNatClampNeg) := inb_of S11 ⟨by decide, by decide⟩
  obtain ⟨T11, h11, X11, e11, W11, st11⟩ := stC X9 hx hZ e9 Ar11 (j := (3 : Int32)) hin11 (g := (mkF m 110 #[.val (.int 4), .val (.int c0), .val (.int c1), .val (.int c2), .val (.int c3)] [(.int c3), (.int 3), (.ref ob3), (.ref ob3), (.ref ob1), (.ref ob1)])) rfl rfl (hb hby d2_110)
  refine own_go st11 ?_
  have V11 : Arv Z h11 ob3 ka3 .char (4 : Int32) [(.int c0), (.int c1), (.int c2), (.int (nar .char c3))] (.int 0) := Arv.set Ar11 zq11 S11 M11 H11 G11 (fits_nar_char c3) W11 3 rfl (Nat.le_of_ble_eq_true rfl)
  have V11f : Arv Z h11 ob3 ka3 .char (4 : Int32) [(.int c0), (.int c1), (.int c2), (.int c3)] (.int 0) := by have q := V11; rw [own_narc hr3] at q; exact q
  have O12 := O10.wr W11 g_ob3
  have N11 := Fr.snoc X11 N9 g_ob3
  have K11 := K9.wr W11 (Or.inr sz_ob3)
  have Zp11 : n0 ≤ h11.size := Nat.le_trans Zp9 (Keep.of_wr W11).1
  have f13 : Exa Z h3 ob1 "java/lang/String" := A1.ext E3
  have f14 : Exa Z h5 ob1 "java/lang/String" := f13.wr W5
  have f15 : Exa Z h7 ob1 "java/lang/String" := f14.wr W7
  have f16 : Exa Z h9 ob1 "java/lang/String" := f15.wr W9
  have f17 : Exa Z h11 ob1 "java/lang/String" := f16.wr W11
  have f18 : Fld Z h3 ob1 "java/lang/String" "value" "[B" .null := F_value_ob1.ext E3
  have f19 : Fld Z h5 ob1 "java/lang/String" "value" "[B" .null := f18.other W5 (Or.inl ne_ob1_ob3)
  have f20 : Fld Z h7 ob1 "java/lang/String" "value" "[B" .null := f19.other W7 (Or.inl ne_ob1_ob3)
  have f21 : Fld Z h9 ob1 "java/lang/String" "value" "[B" .null := f20.other W9 (Or.inl ne_ob1_ob3)
  have f22 : Fld Z h11 ob1 "java/lang/String" "value" "[B" .null := f21.other W11 (Or.inl ne_ob1_ob3)
  have f23 : Fld Z h3 ob1 "java/lang/String" "coder" "B" (.int 0) := F_coder_ob1.ext E3
  have f24 : Fld Z h5 ob1 "java/lang/String" "coder" "B" (.int 0) := f23.other W5 (Or.inl ne_ob1_ob3)
  have f25 : Fld Z h7 ob1 "java/lang/String" "coder" "B" (.int 0) := f24.other W7 (Or.inl ne_ob1_ob3)
  have f26 : Fld Z h9 ob1 "java/lang/String" "coder" "B" (.int 0) := f25.other W9 (Or.inl ne_ob1_ob3)
  have f27 : Fld Z h11 ob1 "java/lang/String" "coder" "B" (.int 0) := f26.other W11 (Or.inl ne_ob1_ob3)
  refine o_cI (argsL := [(.ref ob3)]) (rest := [(.ref ob1)]) X11 B hZ hown rfl (wd_11 hw) (wd_12 hw) (wd_13 hw) (wd_9 hw) (by decide) rfl 1 (rmIn1_41 l Z a0 hw [] ob1 gz ob3 ka3 c0 c1 c2 c3 (.int 0) h11 n0 Zp11 O12 S_COMPACT_STRINGS hgz S__assertionsDisabled S_HI_BYTE_SHIFT S_LO_BYTE_SHIFT f17 f22 f27 g_ob1 V11f ne_ob1_ob3 hr0 hr1 hr2 hr3 hex) (by decide) (by decide) (lenOf pd_14 rfl) rfl rfl rfl d2_111 e11 (by decide) (by decide) rfl ?_
  rintro _ T28 _ X28 ⟨vb_28, ns_vb_28, kb_28, rfl, N28q, Kq28, p28_0, p28_1, p28_2, p28_3⟩
  have N28 := Fr.app N11 N28q
  have ne_ob1_vb_28 : ob1 ≠ vb_28 := Nat.ne_of_lt (Nat.lt_of_lt_of_le f17.lt ns_vb_28)
  have ne_ob3_vb_28 : ob3 ≠ vb_28 := Nat.ne_of_lt (Nat.lt_of_lt_of_le V11f.lt ns_vb_28)
  have sz_vb_28 : h0.size ≤ vb_28 := Nat.le_trans K11.1 ns_vb_28
  have K28 := K11.trans Kq28 (allS (Or.inr sz_ob1) all0)
  have g_vb_28 : n0 ≤ vb_28 := Nat.le_trans Zp11 ns_vb_28
  have Zp28 : n0 ≤ T28.heap.size := Nat.le_trans Zp11 Kq28.1
  have O29 := O12.keep Kq28 (allS g_ob1 all0)
  show own_G p e below Φ T28 (mkF m 114 #[.val (.int 4), .val (.int c0), .val (.int c1), .val (.int c2), .val (.int c3)] [(.ref ob1)])
  rw [hΦ]
  refine own_ret X28 (v := some (.ref ob1)) (own_nr hret) hlk (fun fs hr => retOut X28 hx hret rfl (Or.inr (Or.inr (Or.inr (Or.inr ⟨rfl, rfl, rfl⟩)))) (hb hby d2_114) hr) ?_ (by decide) (by decide)
  exact ⟨ob1, sz_ob1, vb_28, sz_vb_28, kb_28, rfl, N28, K28, p28_0, p28_1, p28_2, p28_3⟩
theorem d6_0 : decode prog_187_method_22_code 0 = .ok (.iconst 0, 1) := by decide +kernel
theorem d6_1 : decode prog_187_method_22_code 1 = .ok (.istore_n 1, 1) := by decide +kernel
theorem d6_2 : decode prog_187_method_22_code 2 = .ok (.iload_n 1, 1) := by decide +kernel
theorem d6_3 : decode prog_187_method_22_code 3 = .ok (.aload_n 0, 1) := by decide +kernel
theorem d6_4 : decode prog_187_method_22_code 4 = .ok (.invokeinterface 180 1, 5) := by decide +kernel
theorem wd_33 {Z : State} {a0 : Array Value} (hw : own_H Z a0) : ((Jvm.Cond.methodLink "com/example/edgewarden/edgewarden/xacml/XacmlSyntax" (180 : Nat) ({ cls := "java/lang/CharSequence", name := "length", desc := "()I" } : Jvm.MethodName)) : Jvm.Cond).before a0 Z = true := hw _ (List.mem_of_getElem? (i := 33) rfl)
theorem wd_41 {Z : State} {a0 : Array Value} (hw : own_H Z a0) : ((Jvm.Cond.code ({ cls := "java/lang/String", name := "length", desc := "()I" } : Jvm.MethodName) jdk_42_method_54_code (1 : Nat) (Option.some Jvm.ClassFile.FieldType.int)) : Jvm.Cond).before a0 Z = true := hw _ (List.mem_of_getElem? (i := 41) rfl)
theorem pd_15 : parseMethodDescriptor "()I" = some ⟨[], some .int⟩ := by decide +kernel
theorem wd_34 {Z : State} {a0 : Array Value} (hw : own_H Z a0) : ((Jvm.Cond.declares ({ cls := "java/lang/CharSequence", name := "length", desc := "()I" } : Jvm.MethodName)) : Jvm.Cond).before a0 Z = true := hw _ (List.mem_of_getElem? (i := 34) rfl)
theorem wd_35 {Z : State} {a0 : Array Value} (hw : own_H Z a0) : ((Jvm.Cond.interfaceMethod "java/lang/CharSequence" "java/lang/CharSequence" "length" "()I") : Jvm.Cond).before a0 Z = true := hw _ (List.mem_of_getElem? (i := 35) rfl)
theorem wd_36 {Z : State} {a0 : Array Value} (hw : own_H Z a0) : ((Jvm.Cond.selects "java/lang/String" ({ cls := "java/lang/CharSequence", name := "length", desc := "()I" } : Jvm.MethodName) ({ cls := "java/lang/String", name := "length", desc := "()I" } : Jvm.MethodName)) : Jvm.Cond).before a0 Z = true := hw _ (List.mem_of_getElem? (i := 36) rfl)
theorem wd_37 {Z : State} {a0 : Array Value} (hw : own_H Z a0) : ((Jvm.Cond.instanceMethod ({ cls := "java/lang/String", name := "length", desc := "()I" } : Jvm.MethodName)) : Jvm.Cond).before a0 Z = true := hw _ (List.mem_of_getElem? (i := 37) rfl)
theorem wd_38 {Z : State} {a0 : Array Value} (hw : own_H Z a0) : ((Jvm.Cond.publicMethod ({ cls := "java/lang/String", name := "length", desc := "()I" } : Jvm.MethodName)) : Jvm.Cond).before a0 Z = true := hw _ (List.mem_of_getElem? (i := 38) rfl)
theorem wd_39 {Z : State} {a0 : Array Value} (hw : own_H Z a0) : ((Jvm.Cond.unhidden "java/lang/String" "length" "()I") : Jvm.Cond).before a0 Z = true := hw _ (List.mem_of_getElem? (i := 39) rfl)
theorem wd_40 {Z : State} {a0 : Array Value} (hw : own_H Z a0) : ((Jvm.Cond.castable "java/lang/String" "java/lang/CharSequence") : Jvm.Cond).before a0 Z = true := hw _ (List.mem_of_getElem? (i := 40) rfl)
theorem d6_9 : decode prog_187_method_22_code 9 = .ok (.if_icmp .ge 24, 3) := by decide +kernel
theorem d6_33 : decode prog_187_method_22_code 33 = .ok (.iconst 1, 1) := by decide +kernel
theorem d6_34 : decode prog_187_method_22_code 34 = .ok (.ireturn, 1) := by decide +kernel
theorem ef_rmSeq_00 (m : MethodId) (a1 : Addr) : entryFrame m #[(.ref a1)] 2 = mkF m 0 #[.val (.ref a1), .unset] [] := by first | (simp [entryFrame, mkF, argsToLocals, Value.category]; done) | rfl
def Q_rmSeq_00 (Z : State) (a1 : Addr) (gz : Int32) (rf : Value) (vb : Addr) (kb : ClassId) (h0 : Heap) (n0 : Nat) (v : Option Value) (h : Heap) (L : List Loc) : Prop := v = some (.int 1) ∧ Fr n0 L ∧ h = h0
set_option maxRecDepth 65536 in
set_option maxHeartbeats 40000000 in
theorem rmSeq_00 (l : Launch) (Z : State) (a0 : Array Value) (hw : own_H Z a0) (ws : List Jvm.Cond) (a1 : Addr) (gz : Int32) (rf : Value) (vb : Addr) (kb : ClassId) (h0 : Heap) (n0 : Nat) (Z0 : n0 ≤ h0.size) (O0 : Old Z n0 h0) (S_COMPACT_STRINGS : Sta Z Z.heap "java/lang/String" "COMPACT_STRINGS" "Z" (.int gz)) (hgz : ¬ gz = (0 : Int32)) (S_SIOOBE_FORMATTER : Sta Z Z.heap "jdk/internal/util/Preconditions" "SIOOBE_FORMATTER" "Ljava/util/function/BiFunction;" rf) (hrf : rf.isRef = true) (E_a1 : Exa Z h0 a1 "java/lang/String") (F_coder_a1 : Fld Z h0 a1 "java/lang/String" "coder" "B" (.int 0)) (F_value_a1 : Fld Z h0 a1 "java/lang/String" "value" "[B" (.ref vb)) (V_vb : Arv Z h0 vb kb .byte (0 : Int32) [] (.int 0)) :
    own_Met l (⟨"com/example/edgewarden/edgewarden/xacml/XacmlSyntax", "isWhiteSpace", "(Ljava/lang/CharSequence;)Z"⟩ : MethodName) prog_187_method_22_code 2 (some .boolean) ws (own_rm 2 0 0 26) Z h0 #[(.ref a1)] (Q_rmSeq_00 Z a1 gz rf vb kb h0 n0) := by
  refine own_met (plainFor_of_name pn_1) (fun m => ef_rmSeq_00 m a1) ?_
  intro p e s m below meth c s₁ Φ hΦ X0 hx hby hml hown hnm hret hlk hZ e0
  have N0 := Fr.nil n0
  have B : own_B p c _ _ := ⟨hx, hby, hml⟩
  show own_G p e below Φ s₁ (mkF m 0 #[.val (.ref a1), .unset] [])
  refine o_iconst X0 B d6_0 ?_
  refine o_istoreN (L' := #[.val (.ref a1), .val (.int 0)]) X0 B d6_1 rfl ?_
  refine o_iloadN X0 B d6_2 rfl ?_
  refine o_aloadN X0 B d6_3 rfl rfl ?_
  refine o_cF (argsL := []) (rest := [(.int 0)]) X0 B hZ hown (wd_33 hw) (wd_34 hw) (wd_35 hw) (wd_36 hw) (wd_37 hw) (wd_38 hw) (wd_39 hw) (wd_40 hw) (wd_41 hw) (wd_9 hw) (by decide) E_a1 1 (rmLng0 l Z a0 hw [] a1 gz vb kb (0 : Int32) ([]) h0 n0 Z0 O0 S_COMPACT_STRINGS hgz E_a1 F_coder_a1 F_value_a1 V_vb) (by decide) (by decide) (lenOf pd_15 rfl) rfl rfl rfl d6_4 e0 (by decide) (by decide) rfl ?_
  rintro _ T1 _ X1 ⟨rfl, N1q, hs1⟩
  have N1 := Fr.app N0 N1q
  show own_G p e below Φ T1 (mkF m 9 #[.val (.ref a1), .val (.int 0)] [(.int ((0 : Int32) >>> ((0 : Int32) &&& 31))), (.int 0)])
  have hn2 : ((0 : Int32) >>> ((0 : Int32) &&& 31)) = (0 : Int32) := by decide
  rw [hn2]
  show own_G p e below Φ T1 (mkF m 9 #[.val (.ref a1), .val (.int 0)] [(.int 0), (.int 0)])
  refine o_icY X1 B 33 d6_9 (XT.ii_ge_t (by decide : ¬ ((0 : Int32) < (0 : Int32)))) rfl ?_
  refine o_iconst X1 B d6_33 ?_
  rw [hΦ]
  refine own_ret X1 (v := some (.int 1)) (own_nr hret) hlk (fun fs hr => retN X1 hx (t := .boolean) hret (by simp) (hb hby d6_34) hr) ?_ (by decide) (by decide)
  rw [hs1]
  exact ⟨rfl, N1, rfl⟩
theorem d6_12 : decode prog_187_method_22_code 12 = .ok (.aload_n 0, 1) := by decide +kernel
theorem d6_13 : decode prog_187_method_22_code 13 = .ok (.iload_n 1, 1) := by decide +kernel
theorem d6_14 : decode prog_187_method_22_code 14 = .ok (.invokeinterface 183 2, 5) := by decide +kernel
theorem wd_61 {Z : State} {a0 : Array Value} (hw : own_H Z a0) : ((Jvm.Cond.methodLink "com/example/edgewarden/edgewarden/xacml/XacmlSyntax" (183 : Nat) ({ cls := "java/lang/CharSequence", name := "charAt", desc := "(I)C" } : Jvm.MethodName)) : Jvm.Cond).before a0 Z = true := hw _ (List.mem_of_getElem? (i := 61) rfl)
theorem wd_68 {Z : State} {a0 : Array Value} (hw : own_H Z a0) : ((Jvm.Cond.code ({ cls := "java/lang/String", name := "charAt", desc := "(I)C" } : Jvm.MethodName) jdk_42_method_56_code (2 : Nat) (Option.some Jvm.ClassFile.FieldType.char)) : Jvm.Cond).before a0 Z = true := hw _ (List.mem_of_getElem? (i := 68) rfl)
theorem pd_16 : parseMethodDescriptor "(I)C" = some ⟨[.int], some .char⟩ := by decide +kernel
theorem wd_62 {Z : State} {a0 : Array Value} (hw : own_H Z a0) : ((Jvm.Cond.declares ({ cls := "java/lang/CharSequence", name := "charAt", desc := "(I)C" } : Jvm.MethodName)) : Jvm.Cond).before a0 Z = true := hw _ (List.mem_of_getElem? (i := 62) rfl)
theorem wd_63 {Z : State} {a0 : Array Value} (hw : own_H Z a0) : ((Jvm.Cond.interfaceMethod "java/lang/CharSequence" "java/lang/CharSequence" "charAt" "(I)C") : Jvm.Cond).before a0 Z = true := hw _ (List.mem_of_getElem? (i := 63) rfl)
theorem wd_64 {Z : State} {a0 : Array Value} (hw : own_H Z a0) : ((Jvm.Cond.selects "java/lang/String" ({ cls := "java/lang/CharSequence", name := "charAt", desc := "(I)C" } : Jvm.MethodName) ({ cls := "java/lang/String", name := "charAt", desc := "(I)C" } : Jvm.MethodName)) : Jvm.Cond).before a0 Z = true := hw _ (List.mem_of_getElem? (i := 64) rfl)
theorem wd_65 {Z : State} {a0 : Array Value} (hw : own_H Z a0) : ((Jvm.Cond.instanceMethod ({ cls := "java/lang/String", name := "charAt", desc := "(I)C" } : Jvm.MethodName)) : Jvm.Cond).before a0 Z = true := hw _ (List.mem_of_getElem? (i := 65) rfl)
theorem wd_66 {Z : State} {a0 : Array Value} (hw : own_H Z a0) : ((Jvm.Cond.publicMethod ({ cls := "java/lang/String", name := "charAt", desc := "(I)C" } : Jvm.MethodName)) : Jvm.Cond).before a0 Z = true := hw _ (List.mem_of_getElem? (i := 66) rfl)
theorem wd_67 {Z : State} {a0 : Array Value} (hw : own_H Z a0) : ((Jvm.Cond.unhidden "java/lang/String" "charAt" "(I)C") : Jvm.Cond).before a0 Z = true := hw _ (List.mem_of_getElem? (i := 67) rfl)
theorem d6_19 : decode prog_187_method_22_code 19 = .ok (.invokestatic 184, 3) := by decide +kernel
theorem wd_86 {Z : State} {a0 : Array Value} (hw : own_H Z a0) : ((Jvm.Cond.methodLink "com/example/edgewarden/edgewarden/xacml/XacmlSyntax" (184 : Nat) ({ cls := "com/example/edgewarden/edgewarden/xacml/XacmlSyntax", name := "isWhiteSpace", desc := "(C)Z" } : Jvm.MethodName)) : Jvm.Cond).before a0 Z = true := hw _ (List.mem_of_getElem? (i := 86) rfl)
theorem wd_88 {Z : State} {a0 : Array Value} (hw : own_H Z a0) : ((Jvm.Cond.code ({ cls := "com/example/edgewarden/edgewarden/xacml/XacmlSyntax", name := "isWhiteSpace", desc := "(C)Z" } : Jvm.MethodName) prog_187_method_24_code (1 : Nat) (Option.some Jvm.ClassFile.FieldType.boolean)) : Jvm.Cond).before a0 Z = true := hw _ (List.mem_of_getElem? (i := 88) rfl)
theorem wd_31 {Z : State} {a0 : Array Value} (hw : own_H Z a0) : ((Jvm.Cond.initialized "com/example/edgewarden/edgewarden/xacml/XacmlSyntax") : Jvm.Cond).before a0 Z = true := hw _ (List.mem_of_getElem? (i := 31) rfl)
theorem pd_17 : parseMethodDescriptor "(C)Z" = some ⟨[.char], some .boolean⟩ := by decide +kernel
theorem wd_87 {Z : State} {a0 : Array Value} (hw : own_H Z a0) : ((Jvm.Cond.static ({ cls := "com/example/edgewarden/edgewarden/xacml/XacmlSyntax", name := "isWhiteSpace", desc := "(C)Z" } : Jvm.MethodName)) : Jvm.Cond).before a0 Z = true := hw _ (List.mem_of_getElem? (i := 87) rfl)
theorem d6_22 : decode prog_187_method_22_code 22 = .ok (.ifCond .ne 5, 3) := by decide +kernel
theorem d6_25 : decode prog_187_method_22_code 25 = .ok (.iconst 0, 1) := by decide +kernel
theorem d6_26 : decode prog_187_method_22_code 26 = .ok (.ireturn, 1) := by decide +kernel
theorem d6_27 : decode prog_187_method_22_code 27 = .ok (.iinc 1 1, 3) := by decide +kernel
theorem d6_30 : decode prog_187_method_22_code 30 = .ok (.goto (-28), 3) := by decide +kernel
theorem ef_rmSeq_10 (m : MethodId) (a1 : Addr) : entryFrame m #[(.ref a1)] 2 = mkF m 0 #[.val (.ref a1), .unset] [] := by first | (simp [entryFrame, mkF, argsToLocals, Value.category]; done) | rfl
def Q_rmSeq_10 (Z : State) (a1 : Addr) (gz : Int32) (rf : Value) (vb : Addr) (kb : ClassId) (c0 : Int32) (h0 : Heap) (n0 : Nat) (v : Option Value) (h : Heap) (L : List Loc) : Prop := v = some (.int (own_and (own_ws c0) (1 : Int32))) ∧ Fr n0 L ∧ h = h0
set_option maxRecDepth 65536 in
set_option maxHeartbeats 40000000 in
theorem rmSeq_10 (l : Launch) (Z : State) (a0 : Array Value) (hw : own_H Z a0) (ws : List Jvm.Cond) (a1 : Addr) (gz : Int32) (rf : Value) (vb : Addr) (kb : ClassId) (c0 : Int32) (h0 : Heap) (n0 : Nat) (Z0 : n0 ≤ h0.size) (O0 : Old Z n0 h0) (S_COMPACT_STRINGS : Sta Z Z.heap "java/lang/String" "COMPACT_STRINGS" "Z" (.int gz)) (hgz : ¬ gz = (0 : Int32)) (S_SIOOBE_FORMATTER : Sta Z Z.heap "jdk/internal/util/Preconditions" "SIOOBE_FORMATTER" "Ljava/util/function/BiFunction;" rf) (hrf : rf.isRef = true) (E_a1 : Exa Z h0 a1 "java/lang/String") (F_coder_a1 : Fld Z h0 a1 "java/lang/String" "coder" "B" (.int 0)) (F_value_a1 : Fld Z h0 a1 "java/lang/String" "value" "[B" (.ref vb)) (V_vb : Arv Z h0 vb kb .byte (1 : Int32) [(.int (own_lo c0))] (.int 0)) (hr0 : ¬ c0 < 0 ∧ ¬ (65535 : Int32) < c0) (hl0 : ¬ (255 : Int32) < c0) :
    own_Met l (⟨"com/example/edgewarden/edgewarden/xacml/XacmlSyntax", "isWhiteSpace", "(Ljava/lang/CharSequence;)Z"⟩ : MethodName) prog_187_method_22_code 2 (some .boolean) ws (own_rm 4 0 0 53) Z h0 #[(.ref a1)] (Q_rmSeq_10 Z a1 gz rf vb kb c0 h0 n0) := by
  refine own_met (plainFor_of_name pn_1) (fun m => ef_rmSeq_10 m a1) ?_
  intro p e s m below meth c s₁ Φ hΦ X0 hx hby hml hown hnm hret hlk hZ e0
  have N0 := Fr.nil n0
  have B : own_B p c _ _ := ⟨hx, hby, hml⟩
  show own_G p e below Φ s₁ (mkF m 0 #[.val (.ref a1), .unset] [])
  refine o_iconst X0 B d6_0 ?_
  refine o_istoreN (L' := #[.val (.ref a1), .val (.int 0)]) X0 B d6_1 rfl ?_
  refine o_iloadN X0 B d6_2 rfl ?_
  refine o_aloadN X0 B d6_3 rfl rfl ?_
  refine o_cF (argsL := []) (rest := [(.int 0)]) X0 B hZ hown (wd_33 hw) (wd_34 hw) (wd_35 hw) (wd_36 hw) (wd_37 hw) (wd_38 hw) (wd_39 hw) (wd_40 hw) (wd_41 hw) (wd_9 hw) (by decide) E_a1 1 (rmLng0 l Z a0 hw [] a1 gz vb kb (1 : Int32) ([(own_lo c0)]) h0 n0 Z0 O0 S_COMPACT_STRINGS hgz E_a1 F_coder_a1 F_value_a1 V_vb) (by decide) (by decide) (lenOf pd_15 rfl) rfl rfl rfl d6_4 e0 (by decide) (by decide) rfl ?_
  rintro _ T1 _ X1 ⟨rfl, N1q, hs1⟩
  have N1 := Fr.app N0 N1q
  show own_G p e below Φ T1 (mkF m 9 #[.val (.ref a1), .val (.int 0)] [(.int ((1 : Int32) >>> ((0 : Int32) &&& 31))), (.int 0)])
  have hn2 : ((1 : Int32) >>> ((0 : Int32) &&& 31)) = (1 : Int32) := by decide
  rw [hn2]
  show own_G p e below Φ T1 (mkF m 9 #[.val (.ref a1), .val (.int 0)] [(.int 1), (.int 0)])
  refine o_icN X1 B d6_9 (XT.ii_ge_f (by decide : ((0 : Int32) < (1 : Int32)))) ?_
  refine o_aloadN X1 B d6_12 rfl rfl ?_
  refine o_iloadN X1 B d6_13 rfl ?_
  refine o_cF (argsL := [(.int 0)]) (rest := []) X1 B hZ hown (wd_61 hw) (wd_62 hw) (wd_63 hw) (wd_64 hw) (wd_65 hw) (wd_66 hw) (wd_67 hw) (wd_40 hw) (wd_68 hw) (wd_9 hw) (by decide) E_a1 0 (rmCh0 l Z a0 hw [] a1 gz rf vb kb (1 : Int32) ([(own_lo c0)]) (0 : Int32) h0 n0 Z0 O0 S_COMPACT_STRINGS hgz S_SIOOBE_FORMATTER hrf E_a1 F_coder_a1 F_value_a1 V_vb ⟨by decide, by decide⟩) (by decide) (by decide) (lenOf pd_16 rfl) rfl rfl rfl d6_14 hs1 (by decide) (by decide) rfl ?_
  rintro _ T3 _ X3 ⟨rfl, N3q, hs3⟩
  have N3 := Fr.app N1 N3q
  show own_G p e below Φ T3 (mkF m 19 #[.val (.ref a1), .val (.int 0)] [(.int (own_c8 ([(own_lo c0)]) (0 : Int32)))])
  have hq4 : (own_c8 ([(own_lo c0)]) (0 : Int32)) = c0 := own_r8 ⟨hr0.1, hl0⟩
  rw [hq4]
  show own_G p e below Φ T3 (mkF m 19 #[.val (.ref a1), .val (.int 0)] [(.int c0)])
  refine o_cS (argsL := [(.int c0)]) (rest := []) X3 B hZ hown (wd_86 hw) (wd_87 hw) (wd_88 hw) (wd_31 hw) (by decide) 0 (rmWs2 l Z a0 hw [] c0 h0 n0 Z0 ) (by decide) (by decide) (lenOf pd_17 rfl) rfl rfl rfl d6_19 hs3 (by decide) (by decide) rfl ?_
  rintro _ T5 _ X5 ⟨rfl, N5q, hs5⟩
  have N5 := Fr.app N3 N5q
  by_cases hc22 : (own_ws c0) = (0 : Int32)
  · refine o_ifN X5 B d6_22 (XT.i0_ne_f hc22) ?_
    refine o_iconst X5 B d6_25 ?_
    rw [hΦ]
    refine own_ret X5 (v := some (.int 0)) (own_nr hret) hlk (fun fs hr => retN X5 hx (t := .boolean) hret (by simp) (hb hby d6_26) hr) ?_ (by decide) (by decide)
    rw [hs5]
    exact ⟨(by simp [own_and, hc22]), N5, rfl⟩
  · refine o_ifY X5 B 27 d6_22 (XT.i0_ne_t hc22) rfl ?_
    refine o_iinc (L' := #[.val (.ref a1), .val (.int 1)]) X5 B d6_27 rfl rfl ?_
    refine o_goto X5 B 2 d6_30 rfl ?_
    refine o_iloadN X5 B d6_2 rfl ?_
    refine o_aloadN X5 B d6_3 rfl rfl ?_
    refine o_cF (argsL := []) (rest := [(.int 1)]) X5 B hZ hown (wd_33 hw) (wd_34 hw) (wd_35 hw) (wd_36 hw) (wd_37 hw) (wd_38 hw) (wd_39 hw) (wd_40 hw) (wd_41 hw) (wd_9 hw) (by decide) E_a1 1 (rmLng0 l Z a0 hw [] a1 gz vb kb (1 : Int32) ([(own_lo c0)]) h0 n0 Z0 O0 S_COMPACT_STRINGS hgz E_a1 F_coder_a1 F_value_a1 V_vb) (by decide) (by decide) (lenOf pd_15 rfl) rfl rfl rfl d6_4 hs5 (by decide) (by decide) rfl ?_
    rintro _ T6 _ X6 ⟨rfl, N6q, hs6⟩
    have N6 := Fr.app N5 N6q
    show own_G p e below Φ T6 (mkF m 9 #[.val (.ref a1), .val (.int 1)] [(.int ((1 : Int32) >>> ((0 : Int32) &&& 31))), (.int 1)])
    have hn7 : ((1 : Int32) >>> ((0 : Int32) &&& 31)) = (1 : Int32) := by decide
    rw [hn7]
    show own_G p e below Φ T6 (mkF m 9 #[.val (.ref a1), .val (.int 1)] [(.int 1), (.int 1)])
    refine o_icY X6 B 33 d6_9 (XT.ii_ge_t (by decide : ¬ ((1 : Int32) < (1 : Int32)))) rfl ?_
    refine o_iconst X6 B d6_33 ?_
    rw [hΦ]
    refine own_ret X6 (v := some (.int 1)) (own_nr hret) hlk (fun fs hr => retN X6 hx (t := .boolean) hret (by simp) (hb hby d6_34) hr) ?_ (by decide) (by decide)
    rw [hs6]
    exact ⟨(by simp [own_and, hc22]), N6, rfl⟩
theorem ef_rmSeq_11 (m : MethodId) (a1 : Addr) : entryFrame m #[(.ref a1)] 2 = mkF m 0 #[.val (.ref a1), .unset] [] := by first | (simp [entryFrame, mkF, argsToLocals, Value.category]; done) | rfl
def Q_rmSeq_11 (Z : State) (a1 : Addr) (gz : Int32) (rf : Value) (vb : Addr) (kb : ClassId) (c0 : Int32) (h0 : Heap) (n0 : Nat) (v : Option Value) (h : Heap) (L : List Loc) : Prop := v = some (.int (own_and (own_ws c0) (1 : Int32))) ∧ Fr n0 L ∧ h = h0
set_option maxRecDepth 65536 in
set_option maxHeartbeats 40000000 in
theorem rmSeq_11 (l : Launch) (Z : State) (a0 : Array Value) (hw : own_H Z a0) (ws : List Jvm.Cond) (a1 : Addr) (gz : Int32) (rf : Value) (vb : Addr) (kb : ClassId) (c0 : Int32) (h0 : Heap) (n0 : Nat) (Z0 : n0 ≤ h0.size) (O0 : Old Z n0 h0) (S_COMPACT_STRINGS : Sta Z Z.heap "java/lang/String" "COMPACT_STRINGS" "Z" (.int gz)) (hgz : ¬ gz = (0 : Int32)) (S_SIOOBE_FORMATTER : Sta Z Z.heap "jdk/internal/util/Preconditions" "SIOOBE_FORMATTER" "Ljava/util/function/BiFunction;" rf) (hrf : rf.isRef = true) (S__assertionsDisabled : Sta Z Z.heap "java/lang/StringUTF16" "$assertionsDisabled" "Z" (.int 1)) (S_HI_BYTE_SHIFT : Sta Z Z.heap "java/lang/StringUTF16" "HI_BYTE_SHIFT" "I" (.int 0)) (S_LO_BYTE_SHIFT : Sta Z Z.heap "java/lang/StringUTF16" "LO_BYTE_SHIFT" "I" (.int 8)) (E_a1 : Exa Z h0 a1 "java/lang/String") (F_coder_a1 : Fld Z h0 a1 "java/lang/String" "coder" "B" (.int 1)) (F_value_a1 : Fld Z h0 a1 "java/lang/String" "value" "[B" (.ref vb)) (V_vb : Arv Z h0 vb kb .byte (2 : Int32) [(.int (own_h0 c0)), (.int (own_h8 c0))] (.int 0)) (hr0 : ¬ c0 < 0 ∧ ¬ (65535 : Int32) < c0) :
    own_Met l (⟨"com/example/edgewarden/edgewarden/xacml/XacmlSyntax", "isWhiteSpace", "(Ljava/lang/CharSequence;)Z"⟩ : MethodName) prog_187_method_22_code 2 (some .boolean) ws (own_rm 5 0 0 66) Z h0 #[(.ref a1)] (Q_rmSeq_11 Z a1 gz rf vb kb c0 h0 n0) := by
  refine own_met (plainFor_of_name pn_1) (fun m => ef_rmSeq_11 m a1) ?_
  intro p e s m below meth c s₁ Φ hΦ X0 hx hby hml hown hnm hret hlk hZ e0
  have N0 := Fr.nil n0
  have B : own_B p c _ _ := ⟨hx, hby, hml⟩
  show own_G p e below Φ s₁ (mkF m 0 #[.val (.ref a1), .unset] [])
  refine o_iconst X0 B d6_0 ?_
  refine o_istoreN (L' := #[.val (.ref a1), .val (.int 0)]) X0 B d6_1 rfl ?_
  refine o_iloadN X0 B d6_2 rfl ?_
  refine o_aloadN X0 B d6_3 rfl rfl ?_
  refine o_cF (argsL := []) (rest := [(.int 0)]) X0 B hZ hown (wd_33 hw) (wd_34 hw) (wd_35 hw) (wd_36 hw) (wd_37 hw) (wd_38 hw) (wd_39 hw) (wd_40 hw) (wd_41 hw) (wd_9 hw) (by decide) E_a1 1 (rmLng1 l Z a0 hw [] a1 gz vb kb (2 : Int32) ([(own_h0 c0), (own_h8 c0)]) h0 n0 Z0 O0 S_COMPACT_STRINGS hgz E_a1 F_coder_a1 F_value_a1 V_vb) (by decide) (by decide) (lenOf pd_15 rfl) rfl rfl rfl d6_4 e0 (by decide) (by decide) rfl ?_
  rintro _ T1 _ X1 ⟨rfl, N1q, hs1⟩
  have N1 := Fr.app N0 N1q
  show own_G p e below Φ T1 (mkF m 9 #[.val (.ref a1), .val (.int 0)] [(.int ((2 : Int32) >>> ((1 : Int32) &&& 31))), (.int 0)])
  have hn2 : ((2 : Int32) >>> ((1 : Int32) &&& 31)) = (1 : Int32) := by decide
  rw [hn2]
  show own_G p e below Φ T1 (mkF m 9 #[.val (.ref a1), .val (.int 0)] [(.int 1), (.int 0)])
  refine o_icN X1 B d6_9 (XT.ii_ge_f (by decide : ((0 : Int32) < (1 : Int32)))) ?_
  refine o_aloadN X1 B d6_12 rfl rfl ?_
  refine o_iloadN X1 B d6_13 rfl ?_
  refine o_cF (argsL := [(.int 0)]) (rest := []) X1 B hZ hown (wd_61 hw) (wd_62 hw) (wd_63 hw) (wd_64 hw) (wd_65 hw) (wd_66 hw) (wd_67 hw) (wd_40 hw) (wd_68 hw) (wd_9 hw) (by decide) E_a1 0 (rmCh1 l Z a0 hw [] a1 gz rf vb kb (2 : Int32) ([(own_h0 c0), (own_h8 c0)]) (0 : Int32) h0 n0 Z0 O0 S_COMPACT_STRINGS hgz S_SIOOBE_FORMATTER hrf S__assertionsDisabled S_HI_BYTE_SHIFT S_LO_BYTE_SHIFT E_a1 F_coder_a1 F_value_a1 V_vb ⟨by decide, by decide⟩ ⟨by decide, by decide⟩ ⟨by decide, by decide⟩) (by decide) (by decide) (lenOf pd_16 rfl) rfl rfl rfl d6_14 hs1 (by decide) (by decide) rfl ?_
  rintro _ T3 _ X3 ⟨rfl, N3q, hs3⟩
  have N3 := Fr.app N1 N3q
  show own_G p e below Φ T3 (mkF m 19 #[.val (.ref a1), .val (.int 0)] [(.int (own_c16 ([(own_h0 c0), (own_h8 c0)]) (0 : Int32)))])
  have hq4 : (own_c16 ([(own_h0 c0), (own_h8 c0)]) (0 : Int32)) = c0 := own_r16 hr0
  rw [hq4]
  show own_G p e below Φ T3 (mkF m 19 #[.val (.ref a1), .val (.int 0)] [(.int c0)])
  refine o_cS (argsL := [(.int c0)]) (rest := []) X3 B hZ hown (wd_86 hw) (wd_87 hw) (wd_88 hw) (wd_31 hw) (by decide) 0 (rmWs2 l Z a0 hw [] c0 h0 n0 Z0 ) (by decide) (by decide) (lenOf pd_17 rfl) rfl rfl rfl d6_19 hs3 (by decide) (by decide) rfl ?_
  rintro _ T5 _ X5 ⟨rfl, N5q, hs5⟩
  have N5 := Fr.app N3 N5q
  by_cases hc22 : (own_ws c0) = (0 : Int32)
  · refine o_ifN X5 B d6_22 (XT.i0_ne_f hc22) ?_
    refine o_iconst X5 B d6_25 ?_
    rw [hΦ]
    refine own_ret X5 (v := some (.int 0)) (own_nr hret) hlk (fun fs hr => retN X5 hx (t := .boolean) hret (by simp) (hb hby d6_26) hr) ?_ (by decide) (by decide)
    rw [hs5]
    exact ⟨(by simp [own_and, hc22]), N5, rfl⟩
  · refine o_ifY X5 B 27 d6_22 (XT.i0_ne_t hc22) rfl ?_
    refine o_iinc (L' := #[.val (.ref a1), .val (.int 1)]) X5 B d6_27 rfl rfl ?_
    refine o_goto X5 B 2 d6_30 rfl ?_
    refine o_iloadN X5 B d6_2 rfl ?_
    refine o_aloadN X5 B d6_3 rfl rfl ?_
    refine o_cF (argsL := []) (rest := [(.int 1)]) X5 B hZ hown (wd_33 hw) (wd_34 hw) (wd_35 hw) (wd_36 hw) (wd_37 hw) (wd_38 hw) (wd_39 hw) (wd_40 hw) (wd_41 hw) (wd_9 hw) (by decide) E_a1 1 (rmLng1 l Z a0 hw [] a1 gz vb kb (2 : Int32) ([(own_h0 c0), (own_h8 c0)]) h0 n0 Z0 O0 S_COMPACT_STRINGS hgz E_a1 F_coder_a1 F_value_a1 V_vb) (by decide) (by decide) (lenOf pd_15 rfl) rfl rfl rfl d6_4 hs5 (by decide) (by decide) rfl ?_
    rintro _ T6 _ X6 ⟨rfl, N6q, hs6⟩
    have N6 := Fr.app N5 N6q
    show own_G p e below Φ T6 (mkF m 9 #[.val (.ref a1), .val (.int 1)] [(.int ((2 : Int32) >>> ((1 : Int32) &&& 31))), (.int 1)])
    have hn7 : ((2 : Int32) >>> ((1 : Int32) &&& 31)) = (1 : Int32) := by decide
    rw [hn7]
    show own_G p e below Φ T6 (mkF m 9 #[.val (.ref a1), .val (.int 1)] [(.int 1), (.int 1)])
    refine o_icY X6 B 33 d6_9 (XT.ii_ge_t (by decide : ¬ ((1 : Int32) < (1 : Int32)))) rfl ?_
    refine o_iconst X6 B d6_33 ?_
    rw [hΦ]
    refine own_ret X6 (v := some (.int 1)) (own_nr hret) hlk (fun fs hr => retN X6 hx (t := .boolean) hret (by simp) (hb hby d6_34) hr) ?_ (by decide) (by decide)
    rw [hs6]
    exact ⟨(by simp [own_and, hc22]), N6, rfl⟩
theorem ef_rmSeq_20 (m : MethodId) (a1 : Addr) : entryFrame m #[(.ref a1)] 2 = mkF m 0 #[.val (.ref a1), .unset] [] := by first | (simp [entryFrame, mkF, argsToLocals, Value.category]; done) | rfl
def Q_rmSeq_20 (Z : State) (a1 : Addr) (gz : Int32) (rf : Value) (vb : Addr) (kb : ClassId) (c0 : Int32) (c1 : Int32) (h0 : Heap) (n0 : Nat) (v : Option Value) (h : Heap) (L : List Loc) : Prop := v = some (.int (own_and (own_ws c0) (own_and (own_ws c1) (1 : Int32)))) ∧ Fr n0 L ∧ h = h0
set_option maxRecDepth 65536 in
set_option maxHeartbeats 40000000 in
theorem rmSeq_20 (l : Launch) (Z : State) (a0 : Array Value) (hw : own_H Z a0) (ws : List Jvm.Cond) (a1 : Addr) (gz : Int32) (rf : Value) (vb : Addr) (kb : ClassId) (c0 : Int32) (c1 : Int32) (h0 : Heap) (n0 : Nat) (Z0 : n0 ≤ h0.size) (O0 : Old Z n0 h0) (S_COMPACT_STRINGS : Sta Z Z.heap "java/lang/String" "COMPACT_STRINGS" "Z" (.int gz)) (hgz : ¬ gz = (0 : Int32)) (S_SIOOBE_FORMATTER : Sta Z Z.heap "jdk/internal/util/Preconditions" "SIOOBE_FORMATTER" "Ljava/util/function/BiFunction;" rf) (hrf : rf.isRef = true) (E_a1 : Exa Z h0 a1 "java/lang/String") (F_coder_a1 : Fld Z h0 a1 "java/lang/String" "coder" "B" (.int 0)) (F_value_a1 : Fld Z h0 a1 "java/lang/String" "value" "[B" (.ref vb)) (V_vb : Arv Z h0 vb kb .byte (2 : Int32) [(.int (own_lo c0)), (.int (own_lo c1))] (.int 0)) (hr0 : ¬ c0 < 0 ∧ ¬ (65535 : Int32) < c0) (hr1 : ¬ c1 < 0 ∧ ¬ (65535 : Int32) < c1) (hl0 : ¬ (255 : Int32) < c0) (hl1 : ¬ (255 : Int32) < c1) :
    own_Met l (⟨"com/example/edgewarden/edgewarden/xacml/XacmlSyntax", "isWhiteSpace", "(Ljava/lang/CharSequence;)Z"⟩ : MethodName) prog_187_method_22_code 2 (some .boolean) ws (own_rm 4 0 0 53) Z h0 #[(.ref a1)] (Q_rmSeq_20 Z a1 gz rf vb kb c0 c1 h0 n0) := by
  refine own_met (plainFor_of_name pn_1) (fun m => ef_rmSeq_20 m a1) ?_
  intro p e s m below meth c s₁ Φ hΦ X0 hx hby hml hown hnm hret hlk hZ e0
  have N0 := Fr.nil n0
  have B : own_B p c _ _ := ⟨hx, hby, hml⟩
  show own_G p e below Φ s₁ (mkF m 0 #[.val (.ref a1), .unset] [])
  refine o_iconst X0 B d6_0 ?_
  refine o_istoreN (L' := #[.val (.ref a1), .val (.int 0)]) X0 B d6_1 rfl ?_
  refine o_iloadN X0 B d6_2 rfl ?_
  refine o_aloadN X0 B d6_3 rfl rfl ?_
  refine o_cF (argsL := []) (rest := [(.int 0)]) X0 B hZ hown (wd_33 hw) (wd_34 hw) (wd_35 hw) (wd_36 hw) (wd_37 hw) (wd_38 hw) (wd_39 hw) (wd_40 hw) (wd_41 hw) (wd_9 hw) (by decide) E_a1 1 (rmLng0 l Z a0 hw [] a1 gz vb kb (2 : Int32) ([(own_lo c0), (own_lo c1)]) h0 n0 Z0 O0 S_COMPACT_STRINGS hgz E_a1 F_coder_a1 F_value_a1 V_vb) (by decide) (by decide) (lenOf pd_15 rfl) rfl rfl rfl d6_4 e0 (by decide) (by decide) rfl ?_
  rintro _ T1 _ X1 ⟨rfl, N1q, hs1⟩
  have N1 := Fr.app N0 N1q
  show own_G p e below Φ T1 (mkF m 9 #[.val (.ref a1), .val (.int 0)] [(.int ((2 : Int32) >>> ((0 : Int32) &&& 31))), (.int 0)])
  have hn2 : ((2 : Int32) >>> ((0 : Int32) &&& 31)) = (2 : Int32) := by decide
  rw [hn2]
  show own_G p e below Φ T1 (mkF m 9 #[.val (.ref a1), .val (.int 0)] [(.int 2), (.int 0)])
  refine o_icN X1 B d6_9 (XT.ii_ge_f (by decide : ((0 : Int32) < (2 : Int32)))) ?_
  refine o_aloadN X1 B d6_12 rfl rfl ?_
  refine o_iloadN X1 B d6_13 rfl ?_
  refine o_cF (argsL := [(.int 0)]) (rest := []) X1 B hZ hown (wd_61 hw) (wd_62 hw) (wd_63 hw) (wd_64 hw) (wd_65 hw) (wd_66 hw) (wd_67 hw) (wd_40 hw) (wd_68 hw) (wd_9 hw) (by decide) E_a1 0 (rmCh0 l Z a0 hw [] a1 gz rf vb kb (2 : Int32) ([(own_lo c0), (own_lo c1)]) (0 : Int32) h0 n0 Z0 O0 S_COMPACT_STRINGS hgz S_SIOOBE_FORMATTER hrf E_a1 F_coder_a1 F_value_a1 V_vb ⟨by decide, by decide⟩) (by decide) (by decide) (lenOf pd_16 rfl) rfl rfl rfl d6_14 hs1 (by decide) (by decide) rfl ?_
  rintro _ T3 _ X3 ⟨rfl, N3q, hs3⟩
  have N3 := Fr.app N1 N3q
  show own_G p e below Φ T3 (mkF m 19 #[.val (.ref a1), .val (.int 0)] [(.int (own_c8 ([(own_lo c0), (own_lo c1)]) (0 : Int32)))])
  have hq4 : (own_c8 ([(own_lo c0), (own_lo c1)]) (0 : Int32)) = c0 := own_r8 ⟨hr0.1, hl0⟩
  rw [hq4]
  show own_G p e below Φ T3 (mkF m 19 #[.val (.ref a1), .val (.int 0)] [(.int c0)])
  refine o_cS (argsL := [(.int c0)]) (rest := []) X3 B hZ hown (wd_86 hw) (wd_87 hw) (wd_88 hw) (wd_31 hw) (by decide) 0 (rmWs2 l Z a0 hw [] c0 h0 n0 Z0 ) (by decide) (by decide) (lenOf pd_17 rfl) rfl rfl rfl d6_19 hs3 (by decide) (by decide) rfl ?_
  rintro _ T5 _ X5 ⟨rfl, N5q, hs5⟩
  have N5 := Fr.app N3 N5q
  by_cases hc22 : (own_ws c0) = (0 : Int32)
  · refine o_ifN X5 B d6_22 (XT.i0_ne_f hc22) ?_
    refine o_iconst X5 B d6_25 ?_
    rw [hΦ]
    refine own_ret X5 (v := some (.int 0)) (own_nr hret) hlk (fun fs hr => retN X5 hx (t := .boolean) hret (by simp) (hb hby d6_26) hr) ?_ (by decide) (by decide)
    rw [hs5]
    exact ⟨(by simp [own_and, hc22]), N5, rfl⟩
  · refine o_ifY X5 B 27 d6_22 (XT.i0_ne_t hc22) rfl ?_
    refine o_iinc (L' := #[.val (.ref a1), .val (.int 1)]) X5 B d6_27 rfl rfl ?_
    refine o_goto X5 B 2 d6_30 rfl ?_
    refine o_iloadN X5 B d6_2 rfl ?_
    refine o_aloadN X5 B d6_3 rfl rfl ?_
    refine o_cF (argsL := []) (rest := [(.int 1)]) X5 B hZ hown (wd_33 hw) (wd_34 hw) (wd_35 hw) (wd_36 hw) (wd_37 hw) (wd_38 hw) (wd_39 hw) (wd_40 hw) (wd_41 hw) (wd_9 hw) (by decide) E_a1 1 (rmLng0 l Z a0 hw [] a1 gz vb kb (2 : Int32) ([(own_lo c0), (own_lo c1)]) h0 n0 Z0 O0 S_COMPACT_STRINGS hgz E_a1 F_coder_a1 F_value_a1 V_vb) (by decide) (by decide) (lenOf pd_15 rfl) rfl rfl rfl d6_4 hs5 (by decide) (by decide) rfl ?_
    rintro _ T6 _ X6 ⟨rfl, N6q, hs6⟩
    have N6 := Fr.app N5 N6q
    show own_G p e below Φ T6 (mkF m 9 #[.val (.ref a1), .val (.int 1)] [(.int ((2 : Int32) >>> ((0 : Int32) &&& 31))), (.int 1)])
    have hn7 : ((2 : Int32) >>> ((0 : Int32) &&& 31)) = (2 : Int32) := by decide
    rw [hn7]
    show own_G p e below Φ T6 (mkF m 9 #[.val (.ref a1), .val (.int 1)] [(.int 2), (.int 1)])
    refine o_icN X6 B d6_9 (XT.ii_ge_f (by decide : ((1 : Int32) < (2 : Int32)))) ?_
    refine o_aloadN X6 B d6_12 rfl rfl ?_
    refine o_iloadN X6 B d6_13 rfl ?_
    refine o_cF (argsL := [(.int 1)]) (rest := []) X6 B hZ hown (wd_61 hw) (wd_62 hw) (wd_63 hw) (wd_64 hw) (wd_65 hw) (wd_66 hw) (wd_67 hw) (wd_40 hw) (wd_68 hw) (wd_9 hw) (by decide) E_a1 0 (rmCh0 l Z a0 hw [] a1 gz rf vb kb (2 : Int32) ([(own_lo c0), (own_lo c1)]) (1 : Int32) h0 n0 Z0 O0 S_COMPACT_STRINGS hgz S_SIOOBE_FORMATTER hrf E_a1 F_coder_a1 F_value_a1 V_vb ⟨by decide, by decide⟩) (by decide) (by decide) (lenOf pd_16 rfl) rfl rfl rfl d6_14 hs6 (by decide) (by decide) rfl ?_
    rintro _ T8 _ X8 ⟨rfl, N8q, hs8⟩
    have N8 := Fr.app N6 N8q
    show own_G p e below Φ T8 (mkF m 19 #[.val (.ref a1), .val (.int 1)] [(.int (own_c8 ([(own_lo c0), (own_lo c1)]) (1 : Int32)))])
    have hq9 : (own_c8 ([(own_lo c0), (own_lo c1)]) (1 : Int32)) = c1 := own_r8 ⟨hr1.1, hl1⟩
    rw [hq9]
    show own_G p e below Φ T8 (mkF m 19 #[.val (.ref a1), .val (.int 1)] [(.int c1)])
    refine o_cS (argsL := [(.int c1)]) (rest := []) X8 B hZ hown (wd_86 hw) (wd_87 hw) (wd_88 hw) (wd_31 hw) (by decide) 0 (rmWs2 l Z a0 hw [] c1 h0 n0 Z0 ) (by decide) (by decide) (lenOf pd_17 rfl) rfl rfl rfl d6_19 hs8 (by decide) (by decide) rfl ?_
    rintro _ T10 _ X10 ⟨rfl, N10q, hs10⟩
    have N10 := Fr.app N8 N10q
    by_cases hc22_1 : (own_ws c1) = (0 : Int32)
    · refine o_ifN X10 B d6_22 (XT.i0_ne_f hc22_1) ?_
      refine o_iconst X10 B d6_25 ?_
      rw [hΦ]
      refine own_ret X10 (v := some (.int 0)) (own_nr hret) hlk (fun fs hr => retN X10 hx (t := .boolean) hret (by simp) (hb hby d6_26) hr) ?_ (by decide) (by decide)
      rw [hs10]
      exact ⟨(by simp [own_and, hc22, hc22_1]), N10, rfl⟩
    · refine o_ifY X10 B 27 d6_22 (XT.i0_ne_t hc22_1) rfl ?_
      refine o_iinc (L' := #[.val (.ref a1), .val (.int 2)]) X10 B d6_27 rfl rfl ?_
      refine o_goto X10 B 2 d6_30 rfl ?_
      refine o_iloadN X10 B d6_2 rfl ?_
      refine o_aloadN X10 B d6_3 rfl rfl ?_
      refine o_cF (argsL := []) (rest := [(.int 2)]) X10 B hZ hown (wd_33 hw) (wd_34 hw) (wd_35 hw) (wd_36 hw) (wd_37 hw) (wd_38 hw) (wd_39 hw) (wd_40 hw) (wd_41 hw) (wd_9 hw) (by decide) E_a1 1 (rmLng0 l Z a0 hw [] a1 gz vb kb (2 : Int32) ([(own_lo c0), (own_lo c1)]) h0 n0 Z0 O0 S_COMPACT_STRINGS hgz E_a1 F_coder_a1 F_value_a1 V_vb) (by decide) (by decide) (lenOf pd_15 rfl) rfl rfl rfl d6_4 hs10 (by decide) (by decide) rfl ?_
      rintro _ T11 _ X11 ⟨rfl, N11q, hs11⟩
      have N11 := Fr.app N10 N11q
      show own_G p e below Φ T11 (mkF m 9 #[.val (.ref a1), .val (.int 2)] [(.int ((2 : Int32) >>> ((0 : Int32) &&& 31))), (.int 2)])
      have hn12 : ((2 : Int32) >>> ((0 : Int32) &&& 31)) = (2 : Int32) := by decide
      rw [hn12]
      show own_G p e below Φ T11 (mkF m 9 #[.val (.ref a1), .val (.int 2)] [(.int 2), (.int 2)])
      refine o_icY X11 B 33 d6_9 (XT.ii_ge_t (by decide : ¬ ((2 : Int32) < (2 : Int32)))) rfl ?_
      refine o_iconst X11 B d6_33 ?_
      rw [hΦ]
      refine own_ret X11 (v := some (.int 1)) (own_nr hret) hlk (fun fs hr => retN X11 hx (t := .boolean) hret (by simp) (hb hby d6_34) hr) ?_ (by decide) (by decide)
      rw [hs11]
      exact ⟨(by simp [own_and, hc22, hc22_1]), N11, rfl⟩
theorem ef_rmSeq_21 (m : MethodId) (a1 : Addr) : entryFrame m #[(.ref a1)] 2 = mkF m 0 #[.val (.ref a1), .unset] [] := by first | (simp [entryFrame, mkF, argsToLocals, Value.category]; done) | rfl
def Q_rmSeq_21 (Z : State) (a1 : Addr) (gz : Int32) (rf : Value) (vb : Addr) (kb : ClassId) (c0 : Int32) (c1 : Int32) (h0 : Heap) (n0 : Nat) (v : Option Value) (h : Heap) (L : List Loc) : Prop := v = some (.int (own_and (own_ws c0) (own_and (own_ws c1) (1 : Int32)))) ∧ Fr n0 L ∧ h = h0
set_option maxRecDepth 65536 in
set_option maxHeartbeats 40000000 in
theorem rmSeq_21 (l : Launch) (Z : State) (a0 : Array Value) (hw : own_H Z a0) (ws : List Jvm.Cond) (a1 : Addr) (gz : Int32) (rf : Value) (vb : Addr) (kb : ClassId) (c0 : Int32) (c1 : Int32) (h0 : Heap) (n0 : Nat) (Z0 : n0 ≤ h0.size) (O0 : Old Z n0 h0) (S_COMPACT_STRINGS : Sta Z Z.heap "java/lang/String" "COMPACT_STRINGS" "Z" (.int gz)) (hgz : ¬ gz = (0 : Int32)) (S_SIOOBE_FORMATTER : Sta Z Z.heap "jdk/internal/util/Preconditions" "SIOOBE_FORMATTER" "Ljava/util/function/BiFunction;" rf) (hrf : rf.isRef = true) (S__assertionsDisabled : Sta Z Z.heap "java/lang/StringUTF16" "$assertionsDisabled" "Z" (.int 1)) (S_HI_BYTE_SHIFT : Sta Z Z.heap "java/lang/StringUTF16" "HI_BYTE_SHIFT" "I" (.int 0)) (S_LO_BYTE_SHIFT : Sta Z Z.heap "java/lang/StringUTF16" "LO_BYTE_SHIFT" "I" (.int 8)) (E_a1 : Exa Z h0 a1 "java/lang/String") (F_coder_a1 : Fld Z h0 a1 "java/lang/String" "coder" "B" (.int 1)) (F_value_a1 : Fld Z h0 a1 "java/lang/String" "value" "[B" (.ref vb)) (V_vb : Arv Z h0 vb kb .byte (4 : Int32) [(.int (own_h0 c0)), (.int (own_h8 c0)), (.int (own_h0 c1)), (.int (own_h8 c1))] (.int 0)) (hr0 : ¬ c0 < 0 ∧ ¬ (65535 : Int32) < c0) (hr1 : ¬ c1 < 0 ∧ ¬ (65535 : Int32) < c1) :
    own_Met l (⟨"com/example/edgewarden/edgewarden/xacml/XacmlSyntax", "isWhiteSpace", "(Ljava/lang/CharSequence;)Z"⟩ : MethodName) prog_187_method_22_code 2 (some .boolean) ws (own_rm 5 0 0 66) Z h0 #[(.ref a1)] (Q_rmSeq_21 Z a1 gz rf vb kb c0 c1 h0 n0) := by
  refine own_met (plainFor_of_name pn_1) (fun m => ef_rmSeq_21 m a1) ?_
  intro p e s m below meth c s₁ Φ hΦ X0 hx hby hml hown hnm hret hlk hZ e0
  have N0 := Fr.nil n0
  have B : own_B p c _ _ := ⟨hx, hby, hml⟩
  show own_G p e below Φ s₁ (mkF m 0 #[.val (.ref a1), .unset] [])
  refine o_iconst X0 B d6_0 ?_
  refine o_istoreN (L' := #[.val (.ref a1), .val (.int 0)]) X0 B d6_1 rfl ?_
  refine o_iloadN X0 B d6_2 rfl ?_
  refine o_aloadN X0 B d6_3 rfl rfl ?_
  refine o_cF (argsL := []) (rest := [(.int 0)]) X0 B hZ hown (wd_33 hw) (wd_34 hw) (wd_35 hw) (wd_36 hw) (wd_37 hw) (wd_38 hw) (wd_39 hw) (wd_40 hw) (wd_41 hw) (wd_9 hw) (by decide) E_a1 1 (rmLng1 l Z a0 hw [] a1 gz vb kb (4 : Int32) ([(own_h0 c0), (own_h8 c0), (own_h0 c1), (own_h8 c1)]) h0 n0 Z0 O0 S_COMPACT_STRINGS hgz E_a1 F_coder_a1 F_value_a1 V_vb) (by decide) (by decide) (lenOf pd_15 rfl) rfl rfl rfl d6_4 e0 (by decide) (by decide) rfl ?_
  rintro _ T1 _ X1 ⟨rfl, N1q, hs1⟩
  have N1 := Fr.app N0 N1q
  show own_G p e below Φ T1 (mkF m 9 #[.val (.ref a1), .val (.int 0)] [(.int ((4 : Int32) >>> ((1 : Int32) &&& 31))), (.int 0)])
  have hn2 : ((4 : Int32) >>> ((1 : Int32) &&& 31)) = (2 : Int32) := by decide
  rw [hn2]
  show own_G p e below Φ T1 (mkF m 9 #[.val (.ref a1), .val (.int 0)] [(.int 2), (.int 0)])
  refine o_icN X1 B d6_9 (XT.ii_ge_f (by decide : ((0 : Int32) < (2 : Int32)))) ?_
  refine o_aloadN X1 B d6_12 rfl rfl ?_
  refine o_iloadN X1 B d6_13 rfl ?_
  refine o_cF (argsL := [(.int 0)]) (rest := []) X1 B hZ hown (wd_61 hw) (wd_62 hw) (wd_63 hw) (wd_64 hw) (wd_65 hw) (wd_66 hw) (wd_67 hw) (wd_40 hw) (wd_68 hw) (wd_9 hw) (by decide) E_a1 0 (rmCh1 l Z a0 hw [] a1 gz rf vb kb (4 : Int32) ([(own_h0 c0), (own_h8 c0), (own_h0 c1), (own_h8 c1)]) (0 : Int32) h0 n0 Z0 O0 S_COMPACT_STRINGS hgz S_SIOOBE_FORMATTER hrf S__assertionsDisabled S_HI_BYTE_SHIFT S_LO_BYTE_SHIFT E_a1 F_coder_a1 F_value_a1 V_vb ⟨by decide, by decide⟩ ⟨by decide, by decide⟩ ⟨by decide, by decide⟩) (by decide) (by decide) (lenOf pd_16 rfl) rfl rfl rfl d6_14 hs1 (by decide) (by decide) rfl ?_
  rintro _ T3 _ X3 ⟨rfl, N3q, hs3⟩
  have N3 := Fr.app N1 N3q
  show own_G p e below Φ T3 (mkF m 19 #[.val (.ref a1), .val (.int 0)] [(.int (own_c16 ([(own_h0 c0), (own_h8 c0), (own_h0 c1), (own_h8 c1)]) (0 : Int32)))])
  have hq4 : (own_c16 ([(own_h0 c0), (own_h8 c0), (own_h0 c1), (own_h8 c1)]) (0 : Int32)) = c0 := own_r16 hr0
  rw [hq4]
  show own_G p e below Φ T3 (mkF m 19 #[.val (.ref a1), .val (.int 0)] [(.int c0)])
  refine o_cS (argsL := [(.int c0)]) (rest := []) X3 B hZ hown (wd_86 hw) (wd_87 hw) (wd_88 hw) (wd_31 hw) (by decide) 0 (rmWs2 l Z a0 hw [] c0 h0 n0 Z0 ) (by decide) (by decide) (lenOf pd_17 rfl) rfl rfl rfl d6_19 hs3 (by decide) (by decide) rfl ?_
  rintro _ T5 _ X5 ⟨rfl, N5q, hs5⟩
  have N5 := Fr.app N3 N5q
  by_cases hc22 : (own_ws c0) = (0 : Int32)
  · refine o_ifN X5 B d6_22 (XT.i0_ne_f hc22) ?_
    refine o_iconst X5 B d6_25 ?_
    rw [hΦ]
    refine own_ret X5 (v := some (.int 0)) (own_nr hret) hlk (fun fs hr => retN X5 hx (t := .boolean) hret (by simp) (hb hby d6_26) hr) ?_ (by decide) (by decide)
    rw [hs5]
    exact ⟨(by simp [own_and, hc22]), N5, rfl⟩
  · refine o_ifY X5 B 27 d6_22 (XT.i0_ne_t hc22) rfl ?_
    refine o_iinc (L' := #[.val (.ref a1), .val (.int 1)]) X5 B d6_27 rfl rfl ?_
    refine o_goto X5 B 2 d6_30 rfl ?_
    refine o_iloadN X5 B d6_2 rfl ?_
    refine o_aloadN X5 B d6_3 rfl rfl ?_
    refine o_cF (argsL := []) (rest := [(.int 1)]) X5 B hZ hown (wd_33 hw) (wd_34 hw) (wd_35 hw) (wd_36 hw) (wd_37 hw) (wd_38 hw) (wd_39 hw) (wd_40 hw) (wd_41 hw) (wd_9 hw) (by decide) E_a1 1 (rmLng1 l Z a0 hw [] a1 gz vb kb (4 : Int32) ([(own_h0 c0), (own_h8 c0), (own_h0 c1), (own_h8 c1)]) h0 n0 Z0 O0 S_COMPACT_STRINGS hgz E_a1 F_coder_a1 F_value_a1 V_vb) (by decide) (by decide) (lenOf pd_15 rfl) rfl rfl rfl d6_4 hs5 (by decide) (by decide) rfl ?_
    rintro _ T6 _ X6 ⟨rfl, N6q, hs6⟩
    have N6 := Fr.app N5 N6q
    show own_G p e below Φ T6 (mkF m 9 #[.val (.ref a1), .val (.int 1)] [(.int ((4 : Int32) >>> ((1 : Int32) &&& 31))), (.int 1)])
    have hn7 : ((4 : Int32) >>> ((1 : Int32) &&& 31)) = (2 : Int32) := by decide
    rw [hn7]
    show own_G p e below Φ T6 (mkF m 9 #[.val (.ref a1), .val (.int 1)] [(.int 2), (.int 1)])
    refine o_icN X6 B d6_9 (XT.ii_ge_f (by decide : ((1 : Int32) < (2 : Int32)))) ?_
    refine o_aloadN X6 B d6_12 rfl rfl ?_
    refine o_iloadN X6 B d6_13 rfl ?_
    refine o_cF (argsL := [(.int 1)]) (rest := []) X6 B hZ hown (wd_61 hw) (wd_62 hw) (wd_63 hw) (wd_64 hw) (wd_65 hw) (wd_66 hw) (wd_67 hw) (wd_40 hw) (wd_68 hw) (wd_9 hw) (by decide) E_a1 0 (rmCh1 l Z a0 hw [] a1 gz rf vb kb (4 : Int32) ([(own_h0 c0), (own_h8 c0), (own_h0 c1), (own_h8 c1)]) (1 : Int32) h0 n0 Z0 O0 S_COMPACT_STRINGS hgz S_SIOOBE_FORMATTER hrf S__assertionsDisabled S_HI_BYTE_SHIFT S_LO_BYTE_SHIFT E_a1 F_coder_a1 F_value_a1 V_vb ⟨by decide, by decide⟩ ⟨by decide, by decide⟩ ⟨by decide, by decide⟩) (by decide) (by decide) (lenOf pd_16 rfl) rfl rfl rfl d6_14 hs6 (by decide) (by decide) rfl ?_
    rintro _ T8 _ X8 ⟨rfl, N8q, hs8⟩
    have N8 := Fr.app N6 N8q
    show own_G p e below Φ T8 (mkF m 19 #[.val (.ref a1), .val (.int 1)] [(.int (own_c16 ([(own_h0 c0), (own_h8 c0), (own_h0 c1), (own_h8 c1)]) (1 : Int32)))])
    have hq9 : (own_c16 ([(own_h0 c0), (own_h8 c0), (own_h0 c1), (own_h8 c1)]) (1 : Int32)) = c1 := own_r16 hr1
    rw [hq9]
    show own_G p e below Φ T8 (mkF m 19 #[.val (.ref a1), .val (.int 1)] [(.int c1)])
    refine o_cS (argsL := [(.int c1)]) (rest := []) X8 B hZ hown (wd_86 hw) (wd_87 hw) (wd_88 hw) (wd_31 hw) (by decide) 0 (rmWs2 l Z a0 hw [] c1 h0 n0 Z0 ) (by decide) (by decide) (lenOf pd_17 rfl) rfl rfl rfl d6_19 hs8 (by decide) (by decide) rfl ?_
    rintro _ T10 _ X10 ⟨rfl, N10q, hs10⟩
    have N10 := Fr.app N8 N10q
    by_cases hc22_1 : (own_ws c1) = (0 : Int32)
    · refine o_ifN X10 B d6_22 (XT.i0_ne_f hc22_1) ?_
      refine o_iconst X10 B d6_25 ?_
      rw [hΦ]
      refine own_ret X10 (v := some (.int 0)) (own_nr hret) hlk (fun fs hr => retN X10 hx (t := .boolean) hret (by simp) (hb hby d6_26) hr) ?_ (by decide) (by decide)
      rw [hs10]
      exact ⟨(by simp [own_and, hc22, hc22_1]), N10, rfl⟩
    · refine o_ifY X10 B 27 d6_22 (XT.i0_ne_t hc22_1) rfl ?_
      refine o_iinc (L' := #[.val (.ref a1), .val (.int 2)]) X10 B d6_27 rfl rfl ?_
      refine o_goto X10 B 2 d6_30 rfl ?_
      refine o_iloadN X10 B d6_2 rfl ?_
      refine o_aloadN X10 B d6_3 rfl rfl ?_
      refine o_cF (argsL := []) (rest := [(.int 2)]) X10 B hZ hown (wd_33 hw) (wd_34 hw) (wd_35 hw) (wd_36 hw) (wd_37 hw) (wd_38 hw) (wd_39 hw) (wd_40 hw) (wd_41 hw) (wd_9 hw) (by decide) E_a1 1 (rmLng1 l Z a0 hw [] a1 gz vb kb (4 : Int32) ([(own_h0 c0), (own_h8 c0), (own_h0 c1), (own_h8 c1)]) h0 n0 Z0 O0 S_COMPACT_STRINGS hgz E_a1 F_coder_a1 F_value_a1 V_vb) (by decide) (by decide) (lenOf pd_15 rfl) rfl rfl rfl d6_4 hs10 (by decide) (by decide) rfl ?_
      rintro _ T11 _ X11 ⟨rfl, N11q, hs11⟩
      have N11 := Fr.app N10 N11q
      show own_G p e below Φ T11 (mkF m 9 #[.val (.ref a1), .val (.int 2)] [(.int ((4 : Int32) >>> ((1 : Int32) &&& 31))), (.int 2)])
      have hn12 : ((4 : Int32) >>> ((1 : Int32) &&& 31)) = (2 : Int32) := by decide
      rw [hn12]
      show own_G p e below Φ T11 (mkF m 9 #[.val (.ref a1), .val (.int 2)] [(.int 2), (.int 2)])
      refine o_icY X11 B 33 d6_9 (XT.ii_ge_t (by decide : ¬ ((2 : Int32) < (2 : Int32)))) rfl ?_
      refine o_iconst X11 B d6_33 ?_
      rw [hΦ]
      refine own_ret X11 (v := some (.int 1)) (own_nr hret) hlk (fun fs hr => retN X11 hx (t := .boolean) hret (by simp) (hb hby d6_34) hr) ?_ (by decide) (by decide)
      rw [hs11]
      exact ⟨(by simp [own_and, hc22, hc22_1]), N11, rfl⟩
theorem ef_rmSeq_30 (m : MethodId) (a1 : Addr) : entryFrame m #[(.ref a1)] 2 = mkF m 0 #[.val (.ref a1), .unset] [] := by first | (simp [entryFrame, mkF, argsToLocals, Value.category]; done) | rfl
def Q_rmSeq_30 (Z : State) (a1 : Addr) (gz : Int32) (rf : Value) (vb : Addr) (kb : ClassId) (c0 : Int32) (c1 : Int32) (c2 : Int32) (h0 : Heap) (n0 : Nat) (v : Option Value) (h : Heap) (L : List Loc) : Prop := v = some (.int (own_and (own_ws c0) (own_and (own_ws c1) (own_and (own_ws c2) (1 : Int32))))) ∧ Fr n0 L ∧ h = h0
set_option maxRecDepth 65536 in
set_option maxHeartbeats 40000000 in
theorem rmSeq_30 (l : Launch) (Z : State) (a0 : Array Value) (hw : own_H Z a0) (ws : List Jvm.Cond) (a1 : Addr) (gz : Int32) (rf : Value) (vb : Addr) (kb : ClassId) (c0 : Int32) (c1 : Int32) (c2 : Int32) (h0 : Heap) (n0 : Nat) (Z0 : n0 ≤ h0.size) (O0 : Old Z n0 h0) (S_COMPACT_STRINGS : Sta Z Z.heap "java/lang/String" "COMPACT_STRINGS" "Z" (.int gz)) (hgz : ¬ gz = (0 : Int32)) (S_SIOOBE_FORMATTER : Sta Z Z.heap "jdk/internal/util/Preconditions" "SIOOBE_FORMATTER" "Ljava/util/function/BiFunction;" rf) (hrf : rf.isRef = true) (E_a1 : Exa Z h0 a1 "java/lang/String") (F_coder_a1 : Fld Z h0 a1 "java/lang/String" "coder" "B" (.int 0)) (F_value_a1 : Fld Z h0 a1 "java/lang/String" "value" "[B" (.ref vb)) (V_vb : Arv Z h0 vb kb .byte (3 : Int32) [(.int (own_lo c0)), (.int (own_lo c1)), (.int (own_lo c2))] (.int 0)) (hr0 : ¬ c0 < 0 ∧ ¬ (65535 : Int32) < c0) (hr1 : ¬ c1 < 0 ∧ ¬ (65535 : Int32) < c1) (hr2 : ¬ c2 < 0 ∧ ¬ (65535 : Int32) < c2) (hl0 : ¬ (255 : Int32) < c0) (hl1 : ¬ (255 : Int32) < c1) (hl2 : ¬ (255 : Int32) < c2) :
    own_Met l (⟨"com/example/edgewarden/edgewarden/xacml/XacmlSyntax", "isWhiteSpace", "(Ljava/lang/CharSequence;)Z"⟩ : MethodName) prog_187_method_22_code 2 (some .boolean) ws (own_rm 4 0 0 53) Z h0 #[(.ref a1)] (Q_rmSeq_30 Z a1 gz rf vb kb c0 c1 c2 h0 n0) := by
  refine own_met (plainFor_of_name pn_1) (fun m => ef_rmSeq_30 m a1) ?_
  intro p e s m below meth c s₁ Φ hΦ X0 hx hby hml hown hnm hret hlk hZ e0
  have N0 := Fr.nil n0
  have B : own_B p c _ _ := ⟨hx, hby, hml⟩
  show own_G p e below Φ s₁ (mkF m 0 #[.val (.ref a1), .unset] [])
  refine o_iconst X0 B d6_0 ?_
  refine o_istoreN (L' := #[.val (.ref a1), .val (.int 0)]) X0 B d6_1 rfl ?_
  refine o_iloadN X0 B d6_2 rfl ?_
  refine o_aloadN X0 B d6_3 rfl rfl ?_
  refine o_cF (argsL := []) (rest := [(.int 0)]) X0 B hZ hown (wd_33 hw) (wd_34 hw) (wd_35 hw) (wd_36 hw) (wd_37 hw) (wd_38 hw) (wd_39 hw) (wd_40 hw) (wd_41 hw) (wd_9 hw) (by decide) E_a1 1 (rmLng0 l Z a0 hw [] a1 gz vb kb (3 : Int32) ([(own_lo c0), (own_lo c1), (own_lo c2)]) h0 n0 Z0 O0 S_COMPACT_STRINGS hgz E_a1 F_coder_a1 F_value_a1 V_vb) (by decide) (by decide) (lenOf pd_15 rfl) rfl rfl rfl d6_4 e0 (by decide) (by decide) rfl ?_
  rintro _ T1 _ X1 ⟨rfl, N1q, hs1⟩
  have N1 := Fr.app N0 N1q
  show own_G p e below Φ T1 (mkF m 9 #[.val (.ref a1), .val (.int 0)] [(.int ((3 : Int32) >>> ((0 : Int32) &&& 31))), (.int 0)])
  have hn2 : ((3 : Int32) >>> ((0 : Int32) &&& 31)) = (3 : Int32) := by decide
  rw [hn2]
  show own_G p e below Φ T1 (mkF m 9 #[.val (.ref a1), .val (.int 0)] [(.int 3), (.int 0)])
  refine o_icN X1 B d6_9 (XT.ii_ge_f (by decide : ((0 : Int32) < (3 : Int32)))) ?_
  refine o_aloadN X1 B d6_12 rfl rfl ?_
  refine o_iloadN X1 B d6_13 rfl ?_
  refine o_cF (argsL := [(.int 0)]) (rest := []) X1 B hZ hown (wd_61 hw) (wd_62 hw) (wd_63 hw) (wd_64 hw) (wd_65 hw) (wd_66 hw) (wd_67 hw) (wd_40 hw) (wd_68 hw) (wd_9 hw) (by decide) E_a1 0 (rmCh0 l Z a0 hw [] a1 gz rf vb kb (3 : Int32) ([(own_lo c0), (own_lo c1), (own_lo c2)]) (0 : Int32) h0 n0 Z0 O0 S_COMPACT_STRINGS hgz S_SIOOBE_FORMATTER hrf E_a1 F_coder_a1 F_value_a1 V_vb ⟨by decide, by decide⟩) (by decide) (by decide) (lenOf pd_16 rfl) rfl rfl rfl d6_14 hs1 (by decide) (by decide) rfl ?_
  rintro _ T3 _ X3 ⟨rfl, N3q, hs3⟩
  have N3 := Fr.app N1 N3q
  show own_G p e below Φ T3 (mkF m 19 #[.val (.ref a1), .val (.int 0)] [(.int (own_c8 ([(own_lo c0), (own_lo c1), (own_lo c2)]) (0 : Int32)))])
  have hq4 : (own_c8 ([(own_lo c0), (own_lo c1), (own_lo c2)]) (0 : Int32)) = c0 := own_r8 ⟨hr0.1, hl0⟩
  rw [hq4]
  show own_G p e below Φ T3 (mkF m 19 #[.val (.ref a1), .val (.int 0)] [(.int c0)])
  refine o_cS (argsL := [(.int c0)]) (rest := []) X3 B hZ hown (wd_86 hw) (wd_87 hw) (wd_88 hw) (wd_31 hw) (by decide) 0 (rmWs2 l Z a0 hw [] c0 h0 n0 Z0 ) (by decide) (by decide) (lenOf pd_17 rfl) rfl rfl rfl d6_19 hs3 (by decide) (by decide) rfl ?_
  rintro _ T5 _ X5 ⟨rfl, N5q, hs5⟩
  have N5 := Fr.app N3 N5q
  by_cases hc22 : (own_ws c0) = (0 : Int32)
  · refine o_ifN X5 B d6_22 (XT.i0_ne_f hc22) ?_
    refine o_iconst X5 B d6_25 ?_
    rw [hΦ]
    refine own_ret X5 (v := some (.int 0)) (own_nr hret) hlk (fun fs hr => retN X5 hx (t := .boolean) hret (by simp) (hb hby d6_26) hr) ?_ (by decide) (by decide)
    rw [hs5]
    exact ⟨(by simp [own_and, hc22]), N5, rfl⟩
  · refine o_ifY X5 B 27 d6_22 (XT.i0_ne_t hc22) rfl ?_
    refine o_iinc (L' := #[.val (.ref a1), .val (.int 1)]) X5 B d6_27 rfl rfl ?_
    refine o_goto X5 B 2 d6_30 rfl ?_
    refine o_iloadN X5 B d6_2 rfl ?_
    refine o_aloadN X5 B d6_3 rfl rfl ?_
    refine o_cF (argsL := []) (rest := [(.int 1)]) X5 B hZ hown (wd_33 hw) (wd_34 hw) (wd_35 hw) (wd_36 hw) (wd_37 hw) (wd_38 hw) (wd_39 hw) (wd_40 hw) (wd_41 hw) (wd_9 hw) (by decide) E_a1 1 (rmLng0 l Z a0 hw [] a1 gz vb kb (3 : Int32) ([(own_lo c0), (own_lo c1), (own_lo c2)]) h0 n0 Z0 O0 S_COMPACT_STRINGS hgz E_a1 F_coder_a1 F_value_a1 V_vb) (by decide) (by decide) (lenOf pd_15 rfl) rfl rfl rfl d6_4 hs5 (by decide) (by decide) rfl ?_
    rintro _ T6 _ X6 ⟨rfl, N6q, hs6⟩
    have N6 := Fr.app N5 N6q
    show own_G p e below Φ T6 (mkF m 9 #[.val (.ref a1), .val (.int 1)] [(.int ((3 : Int32) >>> ((0 : Int32) &&& 31))), (.int 1)])
    have hn7 : ((3 : Int32) >>> ((0 : Int32) &&& 31)) = (3 : Int32) := by decide
    rw [hn7]
    show own_G p e below Φ T6 (mkF m 9 #[.val (.ref a1), .val (.int 1)] [(.int 3), (.int 1)])
    refine o_icN X6 B d6_9 (XT.ii_ge_f (by decide : ((1 : Int32) < (3 : Int32)))) ?_
    refine o_aloadN X6 B d6_12 rfl rfl ?_
    refine o_iloadN X6 B d6_13 rfl ?_
    refine o_cF (argsL := [(.int 1)]) (rest := []) X6 B hZ hown (wd_61 hw) (wd_62 hw) (wd_63 hw) (wd_64 hw) (wd_65 hw) (wd_66 hw) (wd_67 hw) (wd_40 hw) (wd_68 hw) (wd_9 hw) (by decide) E_a1 0 (rmCh0 l Z a0 hw [] a1 gz rf vb kb (3 : Int32) ([(own_lo c0), (own_lo c1), (own_lo c2)]) (1 : Int32) h0 n0 Z0 O0 S_COMPACT_STRINGS hgz S_SIOOBE_FORMATTER hrf E_a1 F_coder_a1 F_value_a1 V_vb ⟨by decide, by decide⟩) (by decide) (by decide) (lenOf pd_16 rfl) rfl rfl rfl d6_14 hs6 (by decide) (by decide) rfl ?_
    rintro _ T8 _ X8 ⟨rfl, N8q, hs8⟩
    have N8 := Fr.app N6 N8q
    show own_G p e below Φ T8 (mkF m 19 #[.val (.ref a1), .val (.int 1)] [(.int (own_c8 ([(own_lo c0), (own_lo c1), (own_lo c2)]) (1 : Int32)))])
    have hq9 : (own_c8 ([(own_lo c0), (own_lo c1), (own_lo c2)]) (1 : Int32)) = c1 := own_r8 ⟨hr1.1, hl1⟩
    rw [hq9]
    show own_G p e below Φ T8 (mkF m 19 #[.val (.ref a1), .val (.int 1)] [(.int c1)])
    refine o_cS (argsL := [(.int c1)]) (rest := []) X8 B hZ hown (wd_86 hw) (wd_87 hw) (wd_88 hw) (wd_31 hw) (by decide) 0 (rmWs2 l Z a0 hw [] c1 h0 n0 Z0 ) (by decide) (by decide) (lenOf pd_17 rfl) rfl rfl rfl d6_19 hs8 (by decide) (by decide) rfl ?_
    rintro _ T10 _ X10 ⟨rfl, N10q, hs10⟩
    have N10 := Fr.app N8 N10q
    by_cases hc22_1 : (own_ws c1) = (0 : Int32)
    · refine o_ifN X10 B d6_22 (XT.i0_ne_f hc22_1) ?_
      refine o_iconst X10 B d6_25 ?_
      rw [hΦ]
      refine own_ret X10 (v := some (.int 0)) (own_nr hret) hlk (fun fs hr => retN X10 hx (t := .boolean) hret (by simp) (hb hby d6_26) hr) ?_ (by decide) (by decide)
      rw [hs10]
      exact ⟨(by simp [own_and, hc22, hc22_1]), N10, rfl⟩
    · refine o_ifY X10 B 27 d6_22 (XT.i0_ne_t hc22_1) rfl ?_
      refine o_iinc (L' := #[.val (.ref a1), .val (.int 2)]) X10 B d6_27 rfl rfl ?_
      refine o_goto X10 B 2 d6_30 rfl ?_
      refine o_iloadN X10 B d6_2 rfl ?_
      refine o_aloadN X10 B d6_3 rfl rfl ?_
      refine o_cF (argsL := []) (rest := [(.int 2)]) X10 B hZ hown (wd_33 hw) (wd_34 hw) (wd_35 hw) (wd_36 hw) (wd_37 hw) (wd_38 hw) (wd_39 hw) (wd_40 hw) (wd_41 hw) (wd_9 hw) (by decide) E_a1 1 (rmLng0 l Z a0 hw [] a1 gz vb kb (3 : Int32) ([(own_lo c0), (own_lo c1), (own_lo c2)]) h0 n0 Z0 O0 S_COMPACT_STRINGS hgz E_a1 F_coder_a1 F_value_a1 V_vb) (by decide) (by decide) (lenOf pd_15 rfl) rfl rfl rfl d6_4 hs10 (by decide) (by decide) rfl ?_
      rintro _ T11 _ X11 ⟨rfl, N11q, hs11⟩
      have N11 := Fr.app N10 N11q
      show own_G p e below Φ T11 (mkF m 9 #[.val (.ref a1), .val (.int 2)] [(.int ((3 : Int32) >>> ((0 : Int32) &&& 31))), (.int 2)])
      have hn12 : ((3 : Int32) >>> ((0 : Int32) &&& 31)) = (3 : Int32) := by decide
      rw [hn12]
      show own_G p e below Φ T11 (mkF m 9 #[.val (.ref a1), .val (.int 2)] [(.int 3), (.int 2)])
      refine o_icN X11 B d6_9 (XT.ii_ge_f (by decide : ((2 : Int32) < (3 : Int32)))) ?_
      refine o_aloadN X11 B d6_12 rfl rfl ?_
      refine o_iloadN X11 B d6_13 rfl ?_
      refine o_cF (argsL := [(.int 2)]) (rest := []) X11 B hZ hown (wd_61 hw) (wd_62 hw) (wd_63 hw) (wd_64 hw) (wd_65 hw) (wd_66 hw) (wd_67 hw) (wd_40 hw) (wd_68 hw) (wd_9 hw) (by decide) E_a1 0 (rmCh0 l Z a0 hw [] a1 gz rf vb kb (3 : Int32) ([(own_lo c0), (own_lo c1), (own_lo c2)]) (2 : Int32) h0 n0 Z0 O0 S_COMPACT_STRINGS hgz S_SIOOBE_FORMATTER hrf E_a1 F_coder_a1 F_value_a1 V_vb ⟨by decide, by decide⟩) (by decide) (by decide) (lenOf pd_16 rfl) rfl rfl rfl d6_14 hs11 (by decide) (by decide) rfl ?_
      rintro _ T13 _ X13 ⟨rfl, N13q, hs13⟩
      have N13 := Fr.app N11 N13q
      show own_G p e below Φ T13 (mkF m 19 #[.val (.ref a1), .val (.int 2)] [(.int (own_c8 ([(own_lo c0), (own_lo c1), (own_lo c2)]) (2 : Int32)))])
      have hq14 : (own_c8 ([(own_lo c0), (own_lo c1), (own_lo c2)]) (2 : Int32)) = c2 := own_r8 ⟨hr2.1, hl2⟩
      rw [hq14]
      show own_G p e below Φ T13 (mkF m 19 #[.val (.ref a1), .val (.int 2)] [(.int c2)])
      refine o_cS (argsL := [(.int c2)]) (rest := []) X13 B hZ hown (wd_86 hw) (wd_87 hw) (wd_88 hw) (wd_31 hw) (by decide) 0 (rmWs2 l Z a0 hw [] c2 h0 n0 Z0 ) (by decide) (by decide) (lenOf pd_17 rfl) rfl rfl rfl d6_19 hs13 (by decide) (by decide) rfl ?_
      rintro _ T15 _ X15 ⟨rfl, N15q, hs15⟩
      have N15 := Fr.app N13 N15q
      by_cases hc22_2 : (own_ws c2) = (0 : Int32)
      · refine o_ifN X15 B d6_22 (XT.i0_ne_f hc22_2) ?_
        refine o_iconst X15 B d6_25 ?_
        rw [hΦ]
        refine own_ret X15 (v := some (.int 0)) (own_nr hret) hlk (fun fs hr => retN X15 hx (t := .boolean) hret (by simp) (hb hby d6_26) hr) ?_ (by decide) (by decide)
        rw [hs15]
        exact ⟨(by simp [own_and, hc22, hc22_1, hc22_2]), N15, rfl⟩
      · refine o_ifY X15 B 27 d6_22 (XT.i0_ne_t hc22_2) rfl ?_
        refine o_iinc (L' := #[.val (.ref a1), .val (.int 3)]) X15 B d6_27 rfl rfl ?_
        refine o_goto X15 B 2 d6_30 rfl ?_
        refine o_iloadN X15 B d6_2 rfl ?_
        refine o_aloadN X15 B d6_3 rfl rfl ?_
        refine o_cF (argsL := []) (rest := [(.int 3)]) X15 B hZ hown (wd_33 hw) (wd_34 hw) (wd_35 hw) (wd_36 hw) (wd_37 hw) (wd_38 hw) (wd_39 hw) (wd_40 hw) (wd_41 hw) (wd_9 hw) (by decide) E_a1 1 (rmLng0 l Z a0 hw [] a1 gz vb kb (3 : Int32) ([(own_lo c0), (own_lo c1), (own_lo c2)]) h0 n0 Z0 O0 S_COMPACT_STRINGS hgz E_a1 F_coder_a1 F_value_a1 V_vb) (by decide) (by decide) (lenOf pd_15 rfl) rfl rfl rfl d6_4 hs15 (by decide) (by decide) rfl ?_
        rintro _ T16 _ X16 ⟨rfl, N16q, hs16⟩
        have N16 := Fr.app N15 N16q
        show own_G p e below Φ T16 (mkF m 9 #[.val (.ref a1), .val (.int 3)] [(.int ((3 : Int32) >>> ((0 : Int32) &&& 31))), (.int 3)])
        have hn17 : ((3 : Int32) >>> ((0 : Int32) &&& 31)) = (3 : Int32) := by decide
        rw [hn17]
        show own_G p e below Φ T16 (mkF m 9 #[.val (.ref a1), .val (.int 3)] [(.int 3), (.int 3)])
        refine o_icY X16 B 33 d6_9 (XT.ii_ge_t (by decide : ¬ ((3 : Int32) < (3 : Int32)))) rfl ?_
        refine o_iconst X16 B d6_33 ?_
        rw [hΦ]
        refine own_ret X16 (v := some (.int 1)) (own_nr hret) hlk (fun fs hr => retN X16 hx (t := .boolean) hret (by simp) (hb hby d6_34) hr) ?_ (by decide) (by decide)
        rw [hs16]
        exact ⟨(by simp [own_and, hc22, hc22_1, hc22_2]), N16, rfl⟩
theorem ef_rmSeq_31 (m : MethodId) (a1 : Addr) : entryFrame m #[(.ref a1)] 2 = mkF m 0 #[.val (.ref a1), .unset] [] := by first | (simp [entryFrame, mkF, argsToLocals, Value.category]; done) | rfl
def Q_rmSeq_31 (Z : State) (a1 : Addr) (gz : Int32) (rf : Value) (vb : Addr) (kb : ClassId) (c0 : Int32) (c1 : Int32) (c2 : Int32) (h0 : Heap) (n0 : Nat) (v : Option Value) (h : Heap) (L : List Loc) : Prop := v = some (.int (own_and (own_ws c0) (own_and (own_ws c1) (own_and (own_ws c2) (1 : Int32))))) ∧ Fr n0 L ∧ h = h0
set_option maxRecDepth 65536 in
set_option maxHeartbeats 40000000 in
theorem rmSeq_31 (l : Launch) (Z : State) (a0 : Array Value) (hw : own_H Z a0) (ws : List Jvm.Cond) (a1 : Addr) (gz : Int32) (rf : Value) (vb : Addr) (kb : ClassId) (c0 : Int32) (c1 : Int32) (c2 : Int32) (h0 : Heap) (n0 : Nat) (Z0 : n0 ≤ h0.size) (O0 : Old Z n0 h0) (S_COMPACT_STRINGS : Sta Z Z.heap "java/lang/String" "COMPACT_STRINGS" "Z" (.int gz)) (hgz : ¬ gz = (0 : Int32)) (S_SIOOBE_FORMATTER : Sta Z Z.heap "jdk/internal/util/Preconditions" "SIOOBE_FORMATTER" "Ljava/util/function/BiFunction;" rf) (hrf : rf.isRef = true) (S__assertionsDisabled : Sta Z Z.heap "java/lang/StringUTF16" "$assertionsDisabled" "Z" (.int 1)) (S_HI_BYTE_SHIFT : Sta Z Z.heap "java/lang/StringUTF16" "HI_BYTE_SHIFT" "I" (.int 0)) (S_LO_BYTE_SHIFT : Sta Z Z.heap "java/lang/StringUTF16" "LO_BYTE_SHIFT" "I" (.int 8)) (E_a1 : Exa Z h0 a1 "java/lang/String") (F_coder_a1 : Fld Z h0 a1 "java/lang/String" "coder" "B" (.int 1)) (F_value_a1 : Fld Z h0 a1 "java/lang/String" "value" "[B" (.ref vb)) (V_vb : Arv Z h0 vb kb .byte (6 : Int32) [(.int (own_h0 c0)), (.int (own_h8 c0)), (.int (own_h0 c1)), (.int (own_h8 c1)), (.int (own_h0 c2)), (.int (own_h8 c2))] (.int 0)) (hr0 : ¬ c0 < 0 ∧ ¬ (65535 : Int32) < c0) (hr1 : ¬ c1 < 0 ∧ ¬ (65535 : Int32) < c1) (hr2 : ¬ c2 < 0 ∧ ¬ (65535 : Int32) < c2) :
    own_Met l (⟨"com/example/edgewarden/edgewarden/xacml/XacmlSyntax", "isWhiteSpace", "(Ljava/lang/CharSequence;)Z"⟩ : MethodName) prog_187_method_22_code 2 (some .boolean) ws (own_rm 5 0 0 66) Z h0 #[(.ref a1)] (Q_rmSeq_31 Z a1 gz rf vb kb c0 c1 c2 h0 n0) := by
  refine own_met (plainFor_of_name pn_1) (fun m => ef_rmSeq_31 m a1) ?_
  intro p e s m below meth c s₁ Φ hΦ X0 hx hby hml hown hnm hret hlk hZ e0
  have N0 := Fr.nil n0
  have B : own_B p c _ _ := ⟨hx, hby, hml⟩
  show own_G p e below Φ s₁ (mkF m 0 #[.val (.ref a1), .unset] [])
  refine o_iconst X0 B d6_0 ?_
  refine o_istoreN (L' := #[.val (.ref a1), .val (.int 0)]) X0 B d6_1 rfl ?_
  refine o_iloadN X0 B d6_2 rfl ?_
  refine o_aloadN X0 B d6_3 rfl rfl ?_
  refine o_cF (argsL := []) (rest := [(.int 0)]) X0 B hZ hown (wd_33 hw) (wd_34 hw) (wd_35 hw) (wd_36 hw) (wd_37 hw) (wd_38 hw) (wd_39 hw) (wd_40 hw) (wd_41 hw) (wd_9 hw) (by decide) E_a1 1 (rmLng1 l Z a0 hw [] a1 gz vb kb (6 : Int32) ([(own_h0 c0), (own_h8 c0), (own_h0 c1), (own_h8 c1), (own_h0 c2), (own_h8 c2)]) h0 n0 Z0 O0 S_COMPACT_STRINGS hgz E_a1 F_coder_a1 F_value_a1 V_vb) (by decide) (by decide) (lenOf pd_15 rfl) rfl rfl rfl d6_4 e0 (by decide) (by decide) rfl ?_
  rintro _ T1 _ X1 ⟨rfl, N1q, hs1⟩
  have N1 := Fr.app N0 N1q
  show own_G p e below Φ T1 (mkF m 9 #[.val (.ref a1), .val (.int 0)] [(.int ((6 : Int32) >>> ((1 : Int32) &&& 31))), (.int 0)])
  have hn2 : ((6 : Int32) >>> ((1 : Int32) &&& 31)) = (3 : Int32) := by decide
  rw [hn2]
  show own_G p e below Φ T1 (mkF m 9 #[.val (.ref a1), .val (.int 0)] [(.int 3), (.int 0)])
  refine o_icN X1 B d6_9 (XT.ii_ge_f (by decide : ((0 : Int32) < (3 : Int32)))) ?_
  refine o_aloadN X1 B d6_12 rfl rfl ?_
  refine o_iloadN X1 B d6_13 rfl ?_
  refine o_cF (argsL := [(.int 0)]) (rest := []) X1 B hZ hown (wd_61 hw) (wd_62 hw) (wd_63 hw) (wd_64 hw) (wd_65 hw) (wd_66 hw) (wd_67 hw) (wd_40 hw) (wd_68 hw) (wd_9 hw) (by decide) E_a1 0 (rmCh1 l Z a0 hw [] a1 gz rf vb kb (6 : Int32) ([(own_h0 c0), (own_h8 c0), (own_h0 c1), (own_h8 c1), (own_h0 c2), (own_h8 c2)]) (0 : Int32) h0 n0 Z0 O0 S_COMPACT_STRINGS hgz S_SIOOBE_FORMATTER hrf S__assertionsDisabled S_HI_BYTE_SHIFT S_LO_BYTE_SHIFT E_a1 F_coder_a1 F_value_a1 V_vb ⟨by decide, by decide⟩ ⟨by decide, by decide⟩ ⟨by decide, by decide⟩) (by decide) (by decide) (lenOf pd_16 rfl) rfl rfl rfl d6_14 hs1 (by decide) (by decide) rfl ?_
  rintro _ T3 _ X3 ⟨rfl, N3q, hs3⟩
  have N3 := Fr.app N1 N3q
  show own_G p e below Φ T3 (mkF m 19 #[.val (.ref a1), .val (.int 0)] [(.int (own_c16 ([(own_h0 c0), (own_h8 c0), (own_h0 c1), (own_h8 c1), (own_h0 c2), (own_h8 c2)]) (0 : Int32)))])
  have hq4 : (own_c16 ([(own_h0 c0), (own_h8 c0), (own_h0 c1), (own_h8 c1), (own_h0 c2), (own_h8 c2)]) (0 : Int32)) = c0 := own_r16 hr0
  rw [hq4]
  show own_G p e below Φ T3 (mkF m 19 #[.val (.ref a1), .val (.int 0)] [(.int c0)])
  refine o_cS (argsL := [(.int c0)]) (rest := []) X3 B hZ hown (wd_86 hw) (wd_87 hw) (wd_88 hw) (wd_31 hw) (by decide) 0 (rmWs2 l Z a0 hw [] c0 h0 n0 Z0 ) (by decide) (by decide) (lenOf pd_17 rfl) rfl rfl rfl d6_19 hs3 (by decide) (by decide) rfl ?_
  rintro _ T5 _ X5 ⟨rfl, N5q, hs5⟩
  have N5 := Fr.app N3 N5q
  by_cases hc22 : (own_ws c0) = (0 : Int32)
  · refine o_ifN X5 B d6_22 (XT.i0_ne_f hc22) ?_
    refine o_iconst X5 B d6_25 ?_
    rw [hΦ]
    refine own_ret X5 (v := some (.int 0)) (own_nr hret) hlk (fun fs hr => retN X5 hx (t := .boolean) hret (by simp) (hb hby d6_26) hr) ?_ (by decide) (by decide)
    rw [hs5]
    exact ⟨(by simp [own_and, hc22]), N5, rfl⟩
  · refine o_ifY X5 B 27 d6_22 (XT.i0_ne_t hc22) rfl ?_
    refine o_iinc (L' := #[.val (.ref a1), .val (.int 1)]) X5 B d6_27 rfl rfl ?_
    refine o_goto X5 B 2 d6_30 rfl ?_
    refine o_iloadN X5 B d6_2 rfl ?_
    refine o_aloadN X5 B d6_3 rfl rfl ?_
    refine o_cF (argsL := []) (rest := [(.int 1)]) X5 B hZ hown (wd_33 hw) (wd_34 hw) (wd_35 hw) (wd_36 hw) (wd_37 hw) (wd_38 hw) (wd_39 hw) (wd_40 hw) (wd_41 hw) (wd_9 hw) (by decide) E_a1 1 (rmLng1 l Z a0 hw [] a1 gz vb kb (6 : Int32) ([(own_h0 c0), (own_h8 c0), (own_h0 c1), (own_h8 c1), (own_h0 c2), (own_h8 c2)]) h0 n0 Z0 O0 S_COMPACT_STRINGS hgz E_a1 F_coder_a1 F_value_a1 V_vb) (by decide) (by decide) (lenOf pd_15 rfl) rfl rfl rfl d6_4 hs5 (by decide) (by decide) rfl ?_
    rintro _ T6 _ X6 ⟨rfl, N6q, hs6⟩
    have N6 := Fr.app N5 N6q
    show own_G p e below Φ T6 (mkF m 9 #[.val (.ref a1), .val (.int 1)] [(.int ((6 : Int32) >>> ((1 : Int32) &&& 31))), (.int 1)])
    have hn7 : ((6 : Int32) >>> ((1 : Int32) &&& 31)) = (3 : Int32) := by decide
    rw [hn7]
    show own_G p e below Φ T6 (mkF m 9 #[.val (.ref a1), .val (.int 1)] [(.int 3), (.int 1)])
    refine o_icN X6 B d6_9 (XT.ii_ge_f (by decide : ((1 : Int32) < (3 : Int32)))) ?_
    refine o_aloadN X6 B d6_12 rfl rfl ?_
    refine o_iloadN X6 B d6_13 rfl ?_
    refine o_cF (argsL := [(.int 1)]) (rest := []) X6 B hZ hown (wd_61 hw) (wd_62 hw) (wd_63 hw) (wd_64 hw) (wd_65 hw) (wd_66 hw) (wd_67 hw) (wd_40 hw) (wd_68 hw) (wd_9 hw) (by decide) E_a1 0 (rmCh1 l Z a0 hw [] a1 gz rf vb kb (6 : Int32) ([(own_h0 c0), (own_h8 c0), (own_h0 c1), (own_h8 c1), (own_h0 c2), (own_h8 c2)]) (1 : Int32) h0 n0 Z0 O0 S_COMPACT_STRINGS hgz S_SIOOBE_FORMATTER hrf S__assertionsDisabled S_HI_BYTE_SHIFT S_LO_BYTE_SHIFT E_a1 F_coder_a1 F_value_a1 V_vb ⟨by decide, by decide⟩ ⟨by decide, by decide⟩ ⟨by decide, by decide⟩) (by decide) (by decide) (lenOf pd_16 rfl) rfl rfl rfl d6_14 hs6 (by decide) (by decide) rfl ?_
    rintro _ T8 _ X8 ⟨rfl, N8q, hs8⟩
    have N8 := Fr.app N6 N8q
    show own_G p e below Φ T8 (mkF m 19 #[.val (.ref a1), .val (.int 1)] [(.int (own_c16 ([(own_h0 c0), (own_h8 c0), (own_h0 c1), (own_h8 c1), (own_h0 c2), (own_h8 c2)]) (1 : Int32)))])
    have hq9 : (own_c16 ([(own_h0 c0), (own_h8 c0), (own_h0 c1), (own_h8 c1), (own_h0 c2), (own_h8 c2)]) (1 : Int32)) = c1 := own_r16 hr1
    rw [hq9]
    show own_G p e below Φ T8 (mkF m 19 #[.val (.ref a1), .val (.int 1)] [(.int c1)])
    refine o_cS (argsL := [(.int c1)]) (rest := []) X8 B hZ hown (wd_86 hw) (wd_87 hw) (wd_88 hw) (wd_31 hw) (by decide) 0 (rmWs2 l Z a0 hw [] c1 h0 n0 Z0 ) (by decide) (by decide) (lenOf pd_17 rfl) rfl rfl rfl d6_19 hs8 (by decide) (by decide) rfl ?_
    rintro _ T10 _ X10 ⟨rfl, N10q, hs10⟩
    have N10 := Fr.app N8 N10q
    by_cases hc22_1 : (own_ws c1) = (0 : Int32)
    · refine o_ifN X10 B d6_22 (XT.i0_ne_f hc22_1) ?_
      refine o_iconst X10 B d6_25 ?_
      rw [hΦ]
      refine own_ret X10 (v := some (.int 0)) (own_nr hret) hlk (fun fs hr => retN X10 hx (t := .boolean) hret (by simp) (hb hby d6_26) hr) ?_ (by decide) (by decide)
      rw [hs10]
      exact ⟨(by simp [own_and, hc22, hc22_1]), N10, rfl⟩
    · refine o_ifY X10 B 27 d6_22 (XT.i0_ne_t hc22_1) rfl ?_
      refine o_iinc (L' := #[.val (.ref a1), .val (.int 2)]) X10 B d6_27 rfl rfl ?_
      refine o_goto X10 B 2 d6_30 rfl ?_
      refine o_iloadN X10 B d6_2 rfl ?_
      refine o_aloadN X10 B d6_3 rfl rfl ?_
      refine o_cF (argsL := []) (rest := [(.int 2)]) X10 B hZ hown (wd_33 hw) (wd_34 hw) (wd_35 hw) (wd_36 hw) (wd_37 hw) (wd_38 hw) (wd_39 hw) (wd_40 hw) (wd_41 hw) (wd_9 hw) (by decide) E_a1 1 (rmLng1 l Z a0 hw [] a1 gz vb kb (6 : Int32) ([(own_h0 c0), (own_h8 c0), (own_h0 c1), (own_h8 c1), (own_h0 c2), (own_h8 c2)]) h0 n0 Z0 O0 S_COMPACT_STRINGS hgz E_a1 F_coder_a1 F_value_a1 V_vb) (by decide) (by decide) (lenOf pd_15 rfl) rfl rfl rfl d6_4 hs10 (by decide) (by decide) rfl ?_
      rintro _ T11 _ X11 ⟨rfl, N11q, hs11⟩
      have N11 := Fr.app N10 N11q
      show own_G p e below Φ T11 (mkF m 9 #[.val (.ref a1), .val (.int 2)] [(.int ((6 : Int32) >>> ((1 : Int32) &&& 31))), (.int 2)])
      have hn12 : ((6 : Int32) >>> ((1 : Int32) &&& 31)) = (3 : Int32) := by decide
      rw [hn12]
      show own_G p e below Φ T11 (mkF m 9 #[.val (.ref a1), .val (.int 2)] [(.int 3), (.int 2)])
      refine o_icN X11 B d6_9 (XT.ii_ge_f (by decide : ((2 : Int32) < (3 : Int32)))) ?_
      refine o_aloadN X11 B d6_12 rfl rfl ?_
      refine o_iloadN X11 B d6_13 rfl ?_
      refine o_cF (argsL := [(.int 2)]) (rest := []) X11 B hZ hown (wd_61 hw) (wd_62 hw) (wd_63 hw) (wd_64 hw) (wd_65 hw) (wd_66 hw) (wd_67 hw) (wd_40 hw) (wd_68 hw) (wd_9 hw) (by decide) E_a1 0 (rmCh1 l Z a0 hw [] a1 gz rf vb kb (6 : Int32) ([(own_h0 c0), (own_h8 c0), (own_h0 c1), (own_h8 c1), (own_h0 c2), (own_h8 c2)]) (2 : Int32) h0 n0 Z0 O0 S_COMPACT_STRINGS hgz S_SIOOBE_FORMATTER hrf S__assertionsDisabled S_HI_BYTE_SHIFT S_LO_BYTE_SHIFT E_a1 F_coder_a1 F_value_a1 V_vb ⟨by decide, by decide⟩ ⟨by decide, by decide⟩ ⟨by decide, by decide⟩) (by decide) (by decide) (lenOf pd_16 rfl) rfl rfl rfl d6_14 hs11 (by decide) (by decide) rfl ?_
      rintro _ T13 _ X13 ⟨rfl, N13q, hs13⟩
      have N13 := Fr.app N11 N13q
      show own_G p e below Φ T13 (mkF m 19 #[.val (.ref a1), .val (.int 2)] [(.int (own_c16 ([(own_h0 c0), (own_h8 c0), (own_h0 c1), (own_h8 c1), (own_h0 c2), (own_h8 c2)]) (2 : Int32)))])
      have hq14 : (own_c16 ([(own_h0 c0), (own_h8 c0), (own_h0 c1), (own_h8 c1), (own_h0 c2), (own_h8 c2)]) (2 : Int32)) = c2 := own_r16 hr2
      rw [hq14]
      show own_G p e below Φ T13 (mkF m 19 #[.val (.ref a1), .val (.int 2)] [(.int c2)])
      refine o_cS (argsL := [(.int c2)]) (rest := []) X13 B hZ hown (wd_86 hw) (wd_87 hw) (wd_88 hw) (wd_31 hw) (by decide) 0 (rmWs2 l Z a0 hw [] c2 h0 n0 Z0 ) (by decide) (by decide) (lenOf pd_17 rfl) rfl rfl rfl d6_19 hs13 (by decide) (by decide) rfl ?_
      rintro _ T15 _ X15 ⟨rfl, N15q, hs15⟩
      have N15 := Fr.app N13 N15q
      by_cases hc22_2 : (own_ws c2) = (0 : Int32)
      · refine o_ifN X15 B d6_22 (XT.i0_ne_f hc22_2) ?_
        refine o_iconst X15 B d6_25 ?_
        rw [hΦ]
        refine own_ret X15 (v := some (.int 0)) (own_nr hret) hlk (fun fs hr => retN X15 hx (t := .boolean) hret (by simp) (hb hby d6_26) hr) ?_ (by decide) (by decide)
        rw [hs15]
        exact ⟨(by simp [own_and, hc22, hc22_1, hc22_2]), N15, rfl⟩
      · refine o_ifY X15 B 27 d6_22 (XT.i0_ne_t hc22_2) rfl ?_
        refine o_iinc (L' := #[.val (.ref a1), .val (.int 3)]) X15 B d6_27 rfl rfl ?_
        refine o_goto X15 B 2 d6_30 rfl ?_
        refine o_iloadN X15 B d6_2 rfl ?_
        refine o_aloadN X15 B d6_3 rfl rfl ?_
        refine o_cF (argsL := []) (rest := [(.int 3)]) X15 B hZ hown (wd_33 hw) (wd_34 hw) (wd_35 hw) (wd_36 hw) (wd_37 hw) (wd_38 hw) (wd_39 hw) (wd_40 hw) (wd_41 hw) (wd_9 hw) (by decide) E_a1 1 (rmLng1 l Z a0 hw [] a1 gz vb kb (6 : Int32) ([(own_h0 c0), (own_h8 c0), (own_h0 c1), (own_h8 c1), (own_h0 c2), (own_h8 c2)]) h0 n0 Z0 O0 S_COMPACT_STRINGS hgz E_a1 F_coder_a1 F_value_a1 V_vb) (by decide) (by decide) (lenOf pd_15 rfl) rfl rfl rfl d6_4 hs15 (by decide) (by decide) rfl ?_
        rintro _ T16 _ X16 ⟨rfl, N16q, hs16⟩
        have N16 := Fr.app N15 N16q
        show own_G p e below Φ T16 (mkF m 9 #[.val (.ref a1), .val (.int 3)] [(.int ((6 : Int32) >>> ((1 : Int32) &&& 31))), (.int 3)])
        have hn17 : ((6 : Int32) >>> ((1 : Int32) &&& 31)) = (3 : Int32) := by decide
        rw [hn17]
        show own_G p e below Φ T16 (mkF m 9 #[.val (.ref a1), .val (.int 3)] [(.int 3), (.int 3)])
        refine o_icY X16 B 33 d6_9 (XT.ii_ge_t (by decide : ¬ ((3 : Int32) < (3 : Int32)))) rfl ?_
        refine o_iconst X16 B d6_33 ?_
        rw [hΦ]
        refine own_ret X16 (v := some (.int 1)) (own_nr hret) hlk (fun fs hr => retN X16 hx (t := .boolean) hret (by simp) (hb hby d6_34) hr) ?_ (by decide) (by decide)
        rw [hs16]
        exact ⟨(by simp [own_and, hc22, hc22_1, hc22_2]), N16, rfl⟩
theorem ef_rmSeq_40 (m : MethodId) (a1 : Addr) : entryFrame m #[(.ref a1)] 2 = mkF m 0 #[.val (.ref a1), .unset] [] := by first | (simp [entryFrame, mkF, argsToLocals, Value.category]; done) | rfl
def Q_rmSeq_40 (Z : State) (a1 : Addr) (gz : Int32) (rf : Value) (vb : Addr) (kb : ClassId) (c0 : Int32) (c1 : Int32) (c2 : Int32) (c3 : Int32) (h0 : Heap) (n0 : Nat) (v : Option Value) (h : Heap) (L : List Loc) : Prop := v = some (.int (own_and (own_ws c0) (own_and (own_ws c1) (own_and (own_ws c2) (own_and (own_ws c3) (1 : Int32)))))) ∧ Fr n0 L ∧ h = h0
set_option maxRecDepth 65536 in
set_option maxHeartbeats 40000000 in
theorem rmSeq_40 (l : Launch) (Z : State) (a0 : Array Value) (hw : own_H Z a0) (ws : List Jvm.Cond) (a1 : Addr) (gz : Int32) (rf : Value) (vb : Addr) (kb : ClassId) (c0 : Int32) (c1 : Int32) (c2 : Int32) (c3 : Int32) (h0 : Heap) (n0 : Nat) (Z0 : n0 ≤ h0.size) (O0 : Old Z n0 h0) (S_COMPACT_STRINGS : Sta Z Z.heap "java/lang/String" "COMPACT_STRINGS" "Z" (.int gz)) (hgz : ¬ gz = (0 : Int32)) (S_SIOOBE_FORMATTER : Sta Z Z.heap "jdk/internal/util/Preconditions" "SIOOBE_FORMATTER" "Ljava/util/function/BiFunction;" rf) (hrf : rf.isRef = true) (E_a1 : Exa Z h0 a1 "java/lang/String") (F_coder_a1 : Fld Z h0 a1 "java/lang/String" "coder" "B" (.int 0)) (F_value_a1 : Fld Z h0 a1 "java/lang/String" "value" "[B" (.ref vb)) (V_vb : Arv Z h0 vb kb .byte (4 : Int32) [(.int (own_lo c0)), (.int (own_lo c1)), (.int (own_lo c2)), (.int (own_lo c3))] (.int 0)) (hr0 : ¬ c0 < 0 ∧ ¬ (65535 : Int32) < c0) (hr1 : ¬ c1 < 0 ∧ ¬ (65535 : Int32) < c1) (hr2 : ¬ c2 < 0 ∧ ¬ (65535 : Int32) < c2) (hr3 : ¬ c3 < 0 ∧ ¬ (65535 : Int32) < c3) (hl0 : ¬ (255 : Int32) < c0) (hl1 : ¬ (255 : Int32) < c1) (hl2 : ¬ (255 : Int32) < c2) (hl3 : ¬ (255 : Int32) < c3) :
    own_Met l (⟨"com/example/edgewarden/edgewarden/xacml/XacmlSyntax", "isWhiteSpace", "(Ljava/lang/CharSequence;)Z"⟩ : MethodName) prog_187_method_22_code 2 (some .boolean) ws (own_rm 4 0 0 53) Z h0 #[(.ref a1)] (Q_rmSeq_40 Z a1 gz rf vb kb c0 c1 c2 c3 h0 n0) := by
  refine own_met (plainFor_of_name pn_1) (fun m => ef_rmSeq_40 m a1) ?_
  intro p e s m below meth c s₁ Φ hΦ X0 hx hby hml hown hnm hret hlk hZ e0
  have N0 := Fr.nil n0
  have B : own_B p c _ _ := ⟨hx, hby, hml⟩
  show own_G p e below Φ s₁ (mkF m 0 #[.val (.ref a1), .unset] [])
  refine o_iconst X0 B d6_0 ?_
  refine o_istoreN (L' := #[.val (.ref a1), .val (.int 0)]) X0 B d6_1 rfl ?_
  refine o_iloadN X0 B d6_2 rfl ?_
  refine o_aloadN X0 B d6_3 rfl rfl ?_
  refine o_cF (argsL := []) (rest := [(.int 0)]) X0 B hZ hown (wd_33 hw) (wd_34 hw) (wd_35 hw) (wd_36 hw) (wd_37 hw) (wd_38 hw) (wd_39 hw) (wd_40 hw) (wd_41 hw) (wd_9 hw) (by decide) E_a1 1 (rmLng0 l Z a0 hw [] a1 gz vb kb (4 : Int32) ([(own_lo c0), (own_lo c1), (own_lo c2), (own_lo c3)]) h0 n0 Z0 O0 S_COMPACT_STRINGS hgz E_a1 F_coder_a1 F_value_a1 V_vb) (by decide) (by decide) (lenOf pd_15 rfl) rfl rfl rfl d6_4 e0 (by decide) (by decide) rfl ?_
  rintro _ T1 _ X1 ⟨rfl, N1q, hs1⟩
  have N1 := Fr.app N0 N1q
  show own_G p e below Φ T1 (mkF m 9 #[.val (.ref a1), .val (.int 0)] [(.int ((4 : Int32) >>> ((0 : Int32) &&& 31))), (.int 0)])
  have hn2 : ((4 : Int32) >>> ((0 : Int32) &&& 31)) = (4 : Int32) := by decide
  rw [hn2]
  show own_G p e below Φ T1 (mkF m 9 #[.val (.ref a1), .val (.int 0)] [(.int 4), (.int 0)])
  refine o_icN X1 B d6_9 (XT.ii_ge_f (by decide : ((0 : Int32) < (4 : Int32)))) ?_
  refine o_aloadN X1 B d6_12 rfl rfl ?_
  refine o_iloadN X1 B d6_13 rfl ?_
  refine o_cF (argsL := [(.int 0)]) (rest := []) X1 B hZ hown (wd_61 hw) (wd_62 hw) (wd_63 hw) (wd_64 hw) (wd_65 hw) (wd_66 hw) (wd_67 hw) (wd_40 hw) (wd_68 hw) (wd_9 hw) (by decide) E_a1 0 (rmCh0 l Z a0 hw [] a1 gz rf vb kb (4 : Int32) ([(own_lo c0), (own_lo c1), (own_lo c2), (own_lo c3)]) (0 : Int32) h0 n0 Z0 O0 S_COMPACT_STRINGS hgz S_SIOOBE_FORMATTER hrf E_a1 F_coder_a1 F_value_a1 V_vb ⟨by decide, by decide⟩) (by decide) (by decide) (lenOf pd_16 rfl) rfl rfl rfl d6_14 hs1 (by decide) (by decide) rfl ?_
  rintro _ T3 _ X3 ⟨rfl, N3q, hs3⟩
  have N3 := Fr.app N1 N3q
  show own_G p e below Φ T3 (mkF m 19 #[.val (.ref a1), .val (.int 0)] [(.int (own_c8 ([(own_lo c0), (own_lo c1), (own_lo c2), (own_lo c3)]) (0 : Int32)))])
  have hq4 : (own_c8 ([(own_lo c0), (own_lo c1), (own_lo c2), (own_lo c3)]) (0 : Int32)) = c0 := own_r8 ⟨hr0.1, hl0⟩
  rw [hq4]
  show own_G p e below Φ T3 (mkF m 19 #[.val (.ref a1), .val (.int 0)] [(.int c0)])
  refine o_cS (argsL := [(.int c0)]) (rest := []) X3 B hZ hown (wd_86 hw) (wd_87 hw) (wd_88 hw) (wd_31 hw) (by decide) 0 (rmWs2 l Z a0 hw [] c0 h0 n0 Z0 ) (by decide) (by decide) (lenOf pd_17 rfl) rfl rfl rfl d6_19 hs3 (by decide) (by decide) rfl ?_
  rintro _ T5 _ X5 ⟨rfl, N5q, hs5⟩
  have N5 := Fr.app N3 N5q
  by_cases hc22 : (own_ws c0) = (0 : Int32)
  · refine o_ifN X5 B d6_22 (XT.i0_ne_f hc22) ?_
    refine o_iconst X5 B d6_25 ?_
    rw [hΦ]
    refine own_ret X5 (v := some (.int 0)) (own_nr hret) hlk (fun fs hr => retN X5 hx (t := .boolean) hret (by simp) (hb hby d6_26) hr) ?_ (by decide) (by decide)
    rw [hs5]
    exact ⟨(by simp [own_and, hc22]), N5, rfl⟩
  · refine o_ifY X5 B 27 d6_22 (XT.i0_ne_t hc22) rfl ?_
    refine o_iinc (L' := #[.val (.ref a1), .val (.int 1)]) X5 B d6_27 rfl rfl ?_
    refine o_goto X5 B 2 d6_30 rfl ?_
    refine o_iloadN X5 B d6_2 rfl ?_
    refine o_aloadN X5 B d6_3 rfl rfl ?_
    refine o_cF (argsL := []) (rest := [(.int 1)]) X5 B hZ hown (wd_33 hw) (wd_34 hw) (wd_35 hw) (wd_36 hw) (wd_37 hw) (wd_38 hw) (wd_39 hw) (wd_40 hw) (wd_41 hw) (wd_9 hw) (by decide) E_a1 1 (rmLng0 l Z a0 hw [] a1 gz vb kb (4 : Int32) ([(own_lo c0), (own_lo c1), (own_lo c2), (own_lo c3)]) h0 n0 Z0 O0 S_COMPACT_STRINGS hgz E_a1 F_coder_a1 F_value_a1 V_vb) (by decide) (by decide) (lenOf pd_15 rfl) rfl rfl rfl d6_4 hs5 (by decide) (by decide) rfl ?_
    rintro _ T6 _ X6 ⟨rfl, N6q, hs6⟩
    have N6 := Fr.app N5 N6q
    show own_G p e below Φ T6 (mkF m 9 #[.val (.ref a1), .val (.int 1)] [(.int ((4 : Int32) >>> ((0 : Int32) &&& 31))), (.int 1)])
    have hn7 : ((4 : Int32) >>> ((0 : Int32) &&& 31)) = (4 : Int32) := by decide
    rw [hn7]
    show own_G p e below Φ T6 (mkF m 9 #[.val (.ref a1), .val (.int 1)] [(.int 4), (.int 1)])
    refine o_icN X6 B d6_9 (XT.ii_ge_f (by decide : ((1 : Int32) < (4 : Int32)))) ?_
    refine o_aloadN X6 B d6_12 rfl rfl ?_
    refine o_iloadN X6 B d6_13 rfl ?_
    refine o_cF (argsL := [(.int 1)]) (rest := []) X6 B hZ hown (wd_61 hw) (wd_62 hw) (wd_63 hw) (wd_64 hw) (wd_65 hw) (wd_66 hw) (wd_67 hw) (wd_40 hw) (wd_68 hw) (wd_9 hw) (by decide) E_a1 0 (rmCh0 l Z a0 hw [] a1 gz rf vb kb (4 : Int32) ([(own_lo c0), (own_lo c1), (own_lo c2), (own_lo c3)]) (1 : Int32) h0 n0 Z0 O0 S_COMPACT_STRINGS hgz S_SIOOBE_FORMATTER hrf E_a1 F_coder_a1 F_value_a1 V_vb ⟨by decide, by decide⟩) (by decide) (by decide) (lenOf pd_16 rfl) rfl rfl rfl d6_14 hs6 (by decide) (by decide) rfl ?_
    rintro _ T8 _ X8 ⟨rfl, N8q, hs8⟩
    have N8 := Fr.app N6 N8q
    show own_G p e below Φ T8 (mkF m 19 #[.val (.ref a1), .val (.int 1)] [(.int (own_c8 ([(own_lo c0), (own_lo c1), (own_lo c2), (own_lo c3)]) (1 : Int32)))])
    have hq9 : (own_c8 ([(own_lo c0), (own_lo c1), (own_lo c2), (own_lo c3)]) (1 : Int32)) = c1 := own_r8 ⟨hr1.1, hl1⟩
    rw [hq9]
    show own_G p e below Φ T8 (mkF m 19 #[.val (.ref a1), .val (.int 1)] [(.int c1)])
    refine o_cS (argsL := [(.int c1)]) (rest := []) X8 B hZ hown (wd_86 hw) (wd_87 hw) (wd_88 hw) (wd_31 hw) (by decide) 0 (rmWs2 l Z a0 hw [] c1 h0 n0 Z0 ) (by decide) (by decide) (lenOf pd_17 rfl) rfl rfl rfl d6_19 hs8 (by decide) (by decide) rfl ?_
    rintro _ T10 _ X10 ⟨rfl, N10q, hs10⟩
    have N10 := Fr.app N8 N10q
    by_cases hc22_1 : (own_ws c1) = (0 : Int32)
    · refine o_ifN X10 B d6_22 (XT.i0_ne_f hc22_1) ?_
      refine o_iconst X10 B d6_25 ?_
      rw [hΦ]
      refine own_ret X10 (v := some (.int 0)) (own_nr hret) hlk (fun fs hr => retN X10 hx (t := .boolean) hret (by simp) (hb hby d6_26) hr) ?_ (by decide) (by decide)
      rw [hs10]
      exact ⟨(by simp [own_and, hc22, hc22_1]), N10, rfl⟩
    · refine o_ifY X10 B 27 d6_22 (XT.i0_ne_t hc22_1) rfl ?_
      refine o_iinc (L' := #[.val (.ref a1), .val (.int 2)]) X10 B d6_27 rfl rfl ?_
      refine o_goto X10 B 2 d6_30 rfl ?_
      refine o_iloadN X10 B d6_2 rfl ?_
      refine o_aloadN X10 B d6_3 rfl rfl ?_
      refine o_cF (argsL := []) (rest := [(.int 2)]) X10 B hZ hown (wd_33 hw) (wd_34 hw) (wd_35 hw) (wd_36 hw) (wd_37 hw) (wd_38 hw) (wd_39 hw) (wd_40 hw) (wd_41 hw) (wd_9 hw) (by decide) E_a1 1 (rmLng0 l Z a0 hw [] a1 gz vb kb (4 : Int32) ([(own_lo c0), (own_lo c1), (own_lo c2), (own_lo c3)]) h0 n0 Z0 O0 S_COMPACT_STRINGS hgz E_a1 F_coder_a1 F_value_a1 V_vb) (by decide) (by decide) (lenOf pd_15 rfl) rfl rfl rfl d6_4 hs10 (by decide) (by decide) rfl ?_
      rintro _ T11 _ X11 ⟨rfl, N11q, hs11⟩
      have N11 := Fr.app N10 N11q
      show own_G p e below Φ T11 (mkF m 9 #[.val (.ref a1), .val (.int 2)] [(.int ((4 : Int32) >>> ((0 : Int32) &&& 31))), (.int 2)])
      have hn12 : ((4 : Int32) >>> ((0 : Int32) &&& 31)) = (4 : Int32) := by decide
      rw [hn12]
      show own_G p e below Φ T11 (mkF m 9 #[.val (.ref a1), .val (.int 2)] [(.int 4), (.int 2)])
      refine o_icN X11 B d6_9 (XT.ii_ge_f (by decide : ((2 : Int32) < (4 : Int32)))) ?_
      refine o_aloadN X11 B d6_12 rfl rfl ?_
      refine o_iloadN X11 B d6_13 rfl ?_
      refine o_cF (argsL := [(.int 2)]) (rest := []) X11 B hZ hown (wd_61 hw) (wd_62 hw) (wd_63 hw) (wd_64 hw) (wd_65 hw) (wd_66 hw) (wd_67 hw) (wd_40 hw) (wd_68 hw) (wd_9 hw) (by decide) E_a1 0 (rmCh0 l Z a0 hw [] a1 gz rf vb kb (4 : Int32) ([(own_lo c0), (own_lo c1), (own_lo c2), (own_lo c3)]) (2 : Int32) h0 n0 Z0 O0 S_COMPACT_STRINGS hgz S_SIOOBE_FORMATTER hrf E_a1 F_coder_a1 F_value_a1 V_vb ⟨by decide, by decide⟩) (by decide) (by decide) (lenOf pd_16 rfl) rfl rfl rfl d6_14 hs11 (by decide) (by decide) rfl ?_
      rintro _ T13 _ X13 ⟨rfl, N13q, hs13⟩
      have N13 := Fr.app N11 N13q
      show own_G p e below Φ T13 (mkF m 19 #[.val (.ref a1), .val (.int 2)] [(.int (own_c8 ([(own_lo c0), (own_lo c1), (own_lo c2), (own_lo c3)]) (2 : Int32)))])
      have hq14 : (own_c8 ([(own_lo c0), (own_lo c1), (own_lo c2), (own_lo c3)]) (2 : Int32)) = c2 := own_r8 ⟨hr2.1, hl2⟩
      rw [hq14]
      show own_G p e below Φ T13 (mkF m 19 #[.val (.ref a1), .val (.int 2)] [(.int c2)])
      refine o_cS (argsL := [(.int c2)]) (rest := []) X13 B hZ hown (wd_86 hw) (wd_87 hw) (wd_88 hw) (wd_31 hw) (by decide) 0 (rmWs2 l Z a0 hw [] c2 h0 n0 Z0 ) (by decide) (by decide) (lenOf pd_17 rfl) rfl rfl rfl d6_19 hs13 (by decide) (by decide) rfl ?_
      rintro _ T15 _ X15 ⟨rfl, N15q, hs15⟩
      have N15 := Fr.app N13 N15q
      by_cases hc22_2 : (own_ws c2) = (0 : Int32)
      · refine o_ifN X15 B d6_22 (XT.i0_ne_f hc22_2) ?_
        refine o_iconst X15 B d6_25 ?_
        rw [hΦ]
        refine own_ret X15 (v := some (.int 0)) (own_nr hret) hlk (fun fs hr => retN X15 hx (t := .boolean) hret (by simp) (hb hby d6_26) hr) ?_ (by decide) (by decide)
        rw [hs15]
        exact ⟨(by simp [own_and, hc22, hc22_1, hc22_2]), N15, rfl⟩
      · refine o_ifY X15 B 27 d6_22 (XT.i0_ne_t hc22_2) rfl ?_
        refine o_iinc (L' := #[.val (.ref a1), .val (.int 3)]) X15 B d6_27 rfl rfl ?_
        refine o_goto X15 B 2 d6_30 rfl ?_
        refine o_iloadN X15 B d6_2 rfl ?_
        refine o_aloadN X15 B d6_3 rfl rfl ?_
        refine o_cF (argsL := []) (rest := [(.int 3)]) X15 B hZ hown (wd_33 hw) (wd_34 hw) (wd_35 hw) (wd_36 hw) (wd_37 hw) (wd_38 hw) (wd_39 hw) (wd_40 hw) (wd_41 hw) (wd_9 hw) (by decide) E_a1 1 (rmLng0 l Z a0 hw [] a1 gz vb kb (4 : Int32) ([(own_lo c0), (own_lo c1), (own_lo c2), (own_lo c3)]) h0 n0 Z0 O0 S_COMPACT_STRINGS hgz E_a1 F_coder_a1 F_value_a1 V_vb) (by decide) (by decide) (lenOf pd_15 rfl) rfl rfl rfl d6_4 hs15 (by decide) (by decide) rfl ?_
        rintro _ T16 _ X16 ⟨rfl, N16q, hs16⟩
        have N16 := Fr.app N15 N16q
        show own_G p e below Φ T16 (mkF m 9 #[.val (.ref a1), .val (.int 3)] [(.int ((4 : Int32) >>> ((0 : Int32) &&& 31))), (.int 3)])
        have hn17 : ((4 : Int32) >>> ((0 : Int32) &&& 31)) = (4 : Int32) := by decide
        rw [hn17]
        show own_G p e below Φ T16 (mkF m 9 #[.val (.ref a1), .val (.int 3)] [(.int 4), (.int 3)])
        refine o_icN X16 B d6_9 (XT.ii_ge_f (by decide : ((3 : Int32) < (4 : Int32)))) ?_
        refine o_aloadN X16 B d6_12 rfl rfl ?_
        refine o_iloadN X16 B d6_13 rfl ?_
        refine o_cF (argsL := [(.int 3)]) (rest := []) X16 B hZ hown (wd_61 hw) (wd_62 hw) (wd_63 hw) (wd_64 hw) (wd_65 hw) (wd_66 hw) (wd_67 hw) (wd_40 hw) (wd_68 hw) (wd_9 hw) (by decide) E_a1 0 (rmCh0 l Z a0 hw [] a1 gz rf vb kb (4 : Int32) ([(own_lo c0), (own_lo c1), (own_lo c2), (own_lo c3)]) (3 : Int32) h0 n0 Z0 O0 S_COMPACT_STRINGS hgz S_SIOOBE_FORMATTER hrf E_a1 F_coder_a1 F_value_a1 V_vb ⟨by decide, by decide⟩) (by decide) (by decide) (lenOf pd_16 rfl) rfl rfl rfl d6_14 hs16 (by decide) (by decide) rfl ?_
        rintro _ T18 _ X18 ⟨rfl, N18q, hs18⟩
        have N18 := Fr.app N16 N18q
        show own_G p e below Φ T18 (mkF m 19 #[.val (.ref a1), .val (.int 3)] [(.int (own_c8 ([(own_lo c0), (own_lo c1), (own_lo c2), (own_lo c3)]) (3 : Int32)))])
        have hq19 : (own_c8 ([(own_lo c0), (own_lo c1), (own_lo c2), (own_lo c3)]) (3 : Int32)) = c3 := own_r8 ⟨hr3.1, hl3⟩
        rw [hq19]
        show own_G p e below Φ T18 (mkF m 19 #[.val (.ref a1), .val (.int 3)] [(.int c3)])
        refine o_cS (argsL := [(.int c3)]) (rest := []) X18 B hZ hown (wd_86 hw) (wd_87 hw) (wd_88 hw) (wd_31 hw) (by decide) 0 (rmWs2 l Z a0 hw [] c3 h0 n0 Z0 ) (by decide) (by decide) (lenOf pd_17 rfl) rfl rfl rfl d6_19 hs18 (by decide) (by decide) rfl ?_
        rintro _ T20 _ X20 ⟨rfl, N20q, hs20⟩
        have N20 := Fr.app N18 N20q
        by_cases hc22_3 : (own_ws c3) = (0 : Int32)
        · refine o_ifN X20 B d6_22 (XT.i0_ne_f hc22_3) ?_
          refine o_iconst X20 B d6_25 ?_
          rw [hΦ]
          refine own_ret X20 (v := some (.int 0)) (own_nr hret) hlk (fun fs hr => retN X20 hx (t := .boolean) hret (by simp) (hb hby d6_26) hr) ?_ (by decide) (by decide)
          rw [hs20]
          exact ⟨(by simp [own_and, hc22, hc22_1, hc22_2, hc22_3]), N20, rfl⟩
        · refine o_ifY X20 B 27 d6_22 (XT.i0_ne_t hc22_3) rfl ?_
          refine o_iinc (L' := #[.val (.ref a1), .val (.int 4)]) X20 B d6_27 rfl rfl ?_
          refine o_goto X20 B 2 d6_30 rfl ?_
          refine o_iloadN X20 B d6_2 rfl ?_
          refine o_aloadN X20 B d6_3 rfl rfl ?_
          refine o_cF (argsL := []) (rest := [(.int 4)]) X20 B hZ hown (wd_33 hw) (wd_34 hw) (wd_35 hw) (wd_36 hw) (wd_37 hw) (wd_38 hw) (wd_39 hw) (wd_40 hw) (wd_41 hw) (wd_9 hw) (by decide) E_a1 1 (rmLng0 l Z a0 hw [] a1 gz vb kb (4 : Int32) ([(own_lo c0), (own_lo c1), (own_lo c2), (own_lo c3)]) h0 n0 Z0 O0 S_COMPACT_STRINGS hgz E_a1 F_coder_a1 F_value_a1 V_vb) (by decide) (by decide) (lenOf pd_15 rfl) rfl rfl rfl d6_4 hs20 (by decide) (by decide) rfl ?_
          rintro _ T21 _ X21 ⟨rfl, N21q, hs21⟩
          have N21 := Fr.app N20 N21q
          show own_G p e below Φ T21 (mkF m 9 #[.val (.ref a1), .val (.int 4)] [(.int ((4 : Int32) >>> ((0 : Int32) &&& 31))), (.int 4)])
          have hn22 : ((4 : Int32) >>> ((0 : Int32) &&& 31)) = (4 : Int32) := by decide
          rw [hn22]
          show own_G p e below Φ T21 (mkF m 9 #[.val (.ref a1), .val (.int 4)] [(.int 4), (.int 4)])
          refine o_icY X21 B 33 d6_9 (XT.ii_ge_t (by decide : ¬ ((4 : Int32) < (4 : Int32)))) rfl ?_
          refine o_iconst X21 B d6_33 ?_
          rw [hΦ]
          refine own_ret X21 (v := some (.int 1)) (own_nr hret) hlk (fun fs hr => retN X21 hx (t := .boolean) hret (by simp) (hb hby d6_34) hr) ?_ (by decide) (by decide)
          rw [hs21]
          exact ⟨(by simp [own_and, hc22, hc22_1, hc22_2, hc22_3]), N21, rfl⟩
theorem ef_rmSeq_41 (m : MethodId) (a1 : Addr) : entryFrame m #[(.ref a1)] 2 = mkF m 0 #[.val (.ref a1), .unset] [] := by first | (simp [entryFrame, mkF, argsToLocals, Value.category]; done) | rfl
def Q_rmSeq_41 (Z : State) (a1 : Addr) (gz : Int32) (rf : Value) (vb : Addr) (kb : ClassId) (c0 : Int32) (c1 : Int32) (c2 : Int32) (c3 : Int32) (h0 : Heap) (n0 : Nat) (v : Option Value) (h : Heap) (L : List Loc) : Prop := v = some (.int (own_and (own_ws c0) (own_and (own_ws c1) (own_and (own_ws c2) (own_and (own_ws c3) (1 : Int32)))))) ∧ Fr n0 L ∧ h = h0
set_option maxRecDepth 65536 in
set_option maxHeartbeats 40000000 in
theorem rmSeq_41 (l : Launch) (Z : State) (a0 : Array Value) (hw : own_H Z a0) (ws : List Jvm.Cond) (a1 : Addr) (gz : Int32) (rf : Value) (vb : Addr) (kb : ClassId) (c0 : Int32) (c1 : Int32) (c2 : Int32) (c3 : Int32) (h0 : Heap) (n0 : Nat) (Z0 : n0 ≤ h0.size) (O0 : Old Z n0 h0) (S_COMPACT_STRINGS : Sta Z Z.heap "java/lang/String" "COMPACT_STRINGS" "Z" (.int gz)) (hgz : ¬ gz = (0 : Int32)) (S_SIOOBE_FORMATTER : Sta Z Z.heap "jdk/internal/util/Preconditions" "SIOOBE_FORMATTER" "Ljava/util/function/BiFunction;" rf) (hrf : rf.isRef = true) (S__assertionsDisabled : Sta Z Z.heap "java/lang/StringUTF16" "$assertionsDisabled" "Z" (.int 1)) (S_HI_BYTE_SHIFT : Sta Z Z.heap "java/lang/StringUTF16" "HI_BYTE_SHIFT" "I" (.int 0)) (S_LO_BYTE_SHIFT : Sta Z Z.heap "java/lang/StringUTF16" "LO_BYTE_SHIFT" "I" (.int 8)) (E_a1 : Exa Z h0 a1 "java/lang/String") (F_coder_a1 : Fld Z h0 a1 "java/lang/String" "coder" "B" (.int 1)) (F_value_a1 : Fld Z h0 a1 "java/lang/String" "value" "[B" (.ref vb)) (V_vb : Arv Z h0 vb kb .byte (8 : Int32) [(.int (own_h0 c0)), (.int (own_h8 c0)), (.int (own_h0 c1)), (.int (own_h8 c1)), (.int (own_h0 c2)), (.int (own_h8 c2)), (.int (own_h0 c3)), (.int (own_h8 c3))] (.int 0)) (hr0 : ¬ c0 < 0 ∧ ¬ (65535 : Int32) < c0) (hr1 : ¬ c1 < 0 ∧ ¬ (65535 : Int32) < c1) (hr2 : ¬ c2 < 0 ∧ ¬ (65535 : Int32) < c2) (hr3 : ¬ c3 < 0 ∧ ¬ (65535 : Int32) < c3) :
    own_Met l (⟨"com/example/edgewarden/edgewarden/xacml/XacmlSyntax", "isWhiteSpace", "(Ljava/lang/CharSequence;)Z"⟩ : MethodName) prog_187_method_22_code 2 (some .boolean) ws (own_rm 5 0 0 66) Z h0 #[(.ref a1)] (Q_rmSeq_41 Z a1 gz rf vb kb c0 c1 c2 c3 h0 n0) := by
  refine own_met (plainFor_of_name pn_1) (fun m => ef_rmSeq_41 m a1) ?_
  intro p e s m below meth c s₁ Φ hΦ X0 hx hby hml hown hnm hret hlk hZ e0
  have N0 := Fr.nil n0
  have B : own_B p c _ _ := ⟨hx, hby, hml⟩
  show own_G p e below Φ s₁ (mkF m 0 #[.val (.ref a1), .unset] [])
  refine o_iconst X0 B d6_0 ?_
  refine o_istoreN (L' := #[.val (.ref a1), .val (.int 0)]) X0 B d6_1 rfl ?_
  refine o_iloadN X0 B d6_2 rfl ?_
  refine o_aloadN X0 B d6_3 rfl rfl ?_
  refine o_cF (argsL := []) (rest := [(.int 0)]) X0 B hZ hown (wd_33 hw) (wd_34 hw) (wd_35 hw) (wd_36 hw) (wd_37 hw) (wd_38 hw) (wd_39 hw) (wd_40 hw) (wd_41 hw) (wd_9 hw) (by decide) E_a1 1 (rmLng1 l Z a0 hw [] a1 gz vb kb (8 : Int32) ([(own_h0 c0), (own_h8 c0), (own_h0 c1), (own_h8 c1), (own_h0 c2), (own_h8 c2), (own_h0 c3), (own_h8 c3)]) h0 n0 Z0 O0 S_COMPACT_STRINGS hgz E_a1 F_coder_a1 F_value_a1 V_vb) (by decide) (by decide) (lenOf pd_15 rfl) rfl rfl rfl d6_4 e0 (by decide) (by decide) rfl ?_
  rintro _ T1 _ X1 ⟨rfl, N1q, hs1⟩
  have N1 := Fr.app N0 N1q
  show own_G p e below Φ T1 (mkF m 9 #[.val (.ref a1), .val (.int 0)] [(.int ((8 : Int32) >>> ((1 : Int32) &&& 31))), (.int 0)])
  have hn2 : ((8 : Int32) >>> ((1 : Int32) &&& 31)) = (4 : Int32) := by decide
  rw [hn2]
  show own_G p e below Φ T1 (mkF m 9 #[.val (.ref a1), .val (.int 0)] [(.int 4), (.int 0)])
  refine o_icN X1 B d6_9 (XT.ii_ge_f (by decide : ((0 : Int32) < (4 : Int32)))) ?_
  refine o_aloadN X1 B d6_12 rfl rfl ?_
  refine o_iloadN X1 B d6_13 rfl ?_
  refine o_cF (argsL := [(.int 0)]) (rest := []) X1 B hZ hown (wd_61 hw) (wd_62 hw) (wd_63 hw) (wd_64 hw) (wd_65 hw) (wd_66 hw) (wd_67 hw) (wd_40 hw) (wd_68 hw) (wd_9 hw) (by decide) E_a1 0 (rmCh1 l Z a0 hw [] a1 gz rf vb kb (8 : Int32) ([(own_h0 c0), (own_h8 c0), (own_h0 c1), (own_h8 c1), (own_h0 c2), (own_h8 c2), (own_h0 c3), (own_h8 c3)]) (0 : Int32) h0 n0 Z0 O0 S_COMPACT_STRINGS hgz S_SIOOBE_FORMATTER hrf S__assertionsDisabled S_HI_BYTE_SHIFT S_LO_BYTE_SHIFT E_a1 F_coder_a1 F_value_a1 V_vb ⟨by decide, by decide⟩ ⟨by decide, by decide⟩ ⟨by decide, by decide⟩) (by decide) (by decide) (lenOf pd_16 rfl) rfl rfl rfl d6_14 hs1 (by decide) (by decide) rfl ?_
  rintro _ T3 _ X3 ⟨rfl, N3q, hs3⟩
  have N3 := Fr.app N1 N3q
  show own_G p e below Φ T3 (mkF m 19 #[.val (.ref a1), .val (.int 0)] [(.int (own_c16 ([(own_h0 c0), (own_h8 c0), (own_h0 c1), (own_h8 c1), (own_h0 c2), (own_h8 c2), (own_h0 c3), (own_h8 c3)]) (0 : Int32)))])
  have hq4 : (own_c16 ([(own_h0 c0), (own_h8 c0), (own_h0 c1), (own_h8 c1), (own_h0 c2), (own_h8 c2), (own_h0 c3), (own_h8 c3)]) (0 : Int32)) = c0 := own_r16 hr0
  rw [hq4]
  show own_G p e below Φ T3 (mkF m 19 #[.val (.ref a1), .val (.int 0)] [(.int c0)])
  refine o_cS (argsL := [(.int c0)]) (rest := []) X3 B hZ hown (wd_86 hw) (wd_87 hw) (wd_88 hw) (wd_31 hw) (by decide) 0 (rmWs2 l Z a0 hw [] c0 h0 n0 Z0 ) (by decide) (by decide) (lenOf pd_17 rfl) rfl rfl rfl d6_19 hs3 (by decide) (by decide) rfl ?_
  rintro _ T5 _ X5 ⟨rfl, N5q, hs5⟩
  have N5 := Fr.app N3 N5q
  by_cases hc22 : (own_ws c0) = (0 : Int32)
  · refine o_ifN X5 B d6_22 (XT.i0_ne_f hc22) ?_
    refine o_iconst X5 B d6_25 ?_
    rw [hΦ]
    refine own_ret X5 (v := some (.int 0)) (own_nr hret) hlk (fun fs hr => retN X5 hx (t := .boolean) hret (by simp) (hb hby d6_26) hr) ?_ (by decide) (by decide)
    rw [hs5]
    exact ⟨(by simp [own_and, hc22]), N5, rfl⟩
  · refine o_ifY X5 B 27 d6_22 (XT.i0_ne_t hc22) rfl ?_
    refine o_iinc (L' := #[.val (.ref a1), .val (.int 1)]) X5 B d6_27 rfl rfl ?_
    refine o_goto X5 B 2 d6_30 rfl ?_
    refine o_iloadN X5 B d6_2 rfl ?_
    refine o_aloadN X5 B d6_3 rfl rfl ?_
    refine o_cF (argsL := []) (rest := [(.int 1)]) X5 B hZ hown (wd_33 hw) (wd_34 hw) (wd_35 hw) (wd_36 hw) (wd_37 hw) (wd_38 hw) (wd_39 hw) (wd_40 hw) (wd_41 hw) (wd_9 hw) (by decide) E_a1 1 (rmLng1 l Z a0 hw [] a1 gz vb kb (8 : Int32) ([(own_h0 c0), (own_h8 c0), (own_h0 c1), (own_h8 c1), (own_h0 c2), (own_h8 c2), (own_h0 c3), (own_h8 c3)]) h0 n0 Z0 O0 S_COMPACT_STRINGS hgz E_a1 F_coder_a1 F_value_a1 V_vb) (by decide) (by decide) (lenOf pd_15 rfl) rfl rfl rfl d6_4 hs5 (by decide) (by decide) rfl ?_
    rintro _ T6 _ X6 ⟨rfl, N6q, hs6⟩
    have N6 := Fr.app N5 N6q
    show own_G p e below Φ T6 (mkF m 9 #[.val (.ref a1), .val (.int 1)] [(.int ((8 : Int32) >>> ((1 : Int32) &&& 31))), (.int 1)])
    have hn7 : ((8 : Int32) >>> ((1 : Int32) &&& 31)) = (4 : Int32) := by decide
    rw [hn7]
    show own_G p e below Φ T6 (mkF m 9 #[.val (.ref a1), .val (.int 1)] [(.int 4), (.int 1)])
    refine o_icN X6 B d6_9 (XT.ii_ge_f (by decide : ((1 : Int32) < (4 : Int32)))) ?_
    refine o_aloadN X6 B d6_12 rfl rfl ?_
    refine o_iloadN X6 B d6_13 rfl ?_
    refine o_cF (argsL := [(.int 1)]) (rest := []) X6 B hZ hown (wd_61 hw) (wd_62 hw) (wd_63 hw) (wd_64 hw) (wd_65 hw) (wd_66 hw) (wd_67 hw) (wd_40 hw) (wd_68 hw) (wd_9 hw) (by decide) E_a1 0 (rmCh1 l Z a0 hw [] a1 gz rf vb kb (8 : Int32) ([(own_h0 c0), (own_h8 c0), (own_h0 c1), (own_h8 c1), (own_h0 c2), (own_h8 c2), (own_h0 c3), (own_h8 c3)]) (1 : Int32) h0 n0 Z0 O0 S_COMPACT_STRINGS hgz S_SIOOBE_FORMATTER hrf S__assertionsDisabled S_HI_BYTE_SHIFT S_LO_BYTE_SHIFT E_a1 F_coder_a1 F_value_a1 V_vb ⟨by decide, by decide⟩ ⟨by decide, by decide⟩ ⟨by decide, by decide⟩) (by decide) (by decide) (lenOf pd_16 rfl) rfl rfl rfl d6_14 hs6 (by decide) (by decide) rfl ?_
    rintro _ T8 _ X8 ⟨rfl, N8q, hs8⟩
    have N8 := Fr.app N6 N8q
    show own_G p e below Φ T8 (mkF m 19 #[.val (.ref a1), .val (.int 1)] [(.int (own_c16 ([(own_h0 c0), (own_h8 c0), (own_h0 c1), (own_h8 c1), (own_h0 c2), (own_h8 c2), (own_h0 c3), (own_h8 c3)]) (1 : Int32)))])
    have hq9 : (own_c16 ([(own_h0 c0), (own_h8 c0), (own_h0 c1), (own_h8 c1), (own_h0 c2), (own_h8 c2), (own_h0 c3), (own_h8 c3)]) (1 : Int32)) = c1 := own_r16 hr1
    rw [hq9]
    show own_G p e below Φ T8 (mkF m 19 #[.val (.ref a1), .val (.int 1)] [(.int c1)])
    refine o_cS (argsL := [(.int c1)]) (rest := []) X8 B hZ hown (wd_86 hw) (wd_87 hw) (wd_88 hw) (wd_31 hw) (by decide) 0 (rmWs2 l Z a0 hw [] c1 h0 n0 Z0 ) (by decide) (by decide) (lenOf pd_17 rfl) rfl rfl rfl d6_19 hs8 (by decide) (by decide) rfl ?_
    rintro _ T10 _ X10 ⟨rfl, N10q, hs10⟩
    have N10 := Fr.app N8 N10q
    by_cases hc22_1 : (own_ws c1) = (0 : Int32)
    · refine o_ifN X10 B d6_22 (XT.i0_ne_f hc22_1) ?_
      refine o_iconst X10 B d6_25 ?_
      rw [hΦ]
      refine own_ret X10 (v := some (.int 0)) (own_nr hret) hlk (fun fs hr => retN X10 hx (t := .boolean) hret (by simp) (hb hby d6_26) hr) ?_ (by decide) (by decide)
      rw [hs10]
      exact ⟨(by simp [own_and, hc22, hc22_1]), N10, rfl⟩
    · refine o_ifY X10 B 27 d6_22 (XT.i0_ne_t hc22_1) rfl ?_
      refine o_iinc (L' := #[.val (.ref a1), .val (.int 2)]) X10 B d6_27 rfl rfl ?_
      refine o_goto X10 B 2 d6_30 rfl ?_
      refine o_iloadN X10 B d6_2 rfl ?_
      refine o_aloadN X10 B d6_3 rfl rfl ?_
      refine o_cF (argsL := []) (rest := [(.int 2)]) X10 B hZ hown (wd_33 hw) (wd_34 hw) (wd_35 hw) (wd_36 hw) (wd_37 hw) (wd_38 hw) (wd_39 hw) (wd_40 hw) (wd_41 hw) (wd_9 hw) (by decide) E_a1 1 (rmLng1 l Z a0 hw [] a1 gz vb kb (8 : Int32) ([(own_h0 c0), (own_h8 c0), (own_h0 c1), (own_h8 c1), (own_h0 c2), (own_h8 c2), (own_h0 c3), (own_h8 c3)]) h0 n0 Z0 O0 S_COMPACT_STRINGS hgz E_a1 F_coder_a1 F_value_a1 V_vb) (by decide) (by decide) (lenOf pd_15 rfl) rfl rfl rfl d6_4 hs10 (by decide) (by decide) rfl ?_
      rintro _ T11 _ X11 ⟨rfl, N11q, hs11⟩
      have N11 := Fr.app N10 N11q
      show own_G p e below Φ T11 (mkF m 9 #[.val (.ref a1), .val (.int 2)] [(.int ((8 : Int32) >>> ((1 : Int32) &&& 31))), (.int 2)])
      have hn12 : ((8 : Int32) >>> ((1 : Int32) &&& 31)) = (4 : Int32) := by decide
      rw [hn12]
      show own_G p e below Φ T11 (mkF m 9 #[.val (.ref a1), .val (.int 2)] [(.int 4), (.int 2)])
      refine o_icN X11 B d6_9 (XT.ii_ge_f (by decide : ((2 : Int32) < (4 : Int32)))) ?_
      refine o_aloadN X11 B d6_12 rfl rfl ?_
      refine o_iloadN X11 B d6_13 rfl ?_
      refine o_cF (argsL := [(.int 2)]) (rest := []) X11 B hZ hown (wd_61 hw) (wd_62 hw) (wd_63 hw) (wd_64 hw) (wd_65 hw) (wd_66 hw) (wd_67 hw) (wd_40 hw) (wd_68 hw) (wd_9 hw) (by decide) E_a1 0 (rmCh1 l Z a0 hw [] a1 gz rf vb kb (8 : Int32) ([(own_h0 c0), (own_h8 c0), (own_h0 c1), (own_h8 c1), (own_h0 c2), (own_h8 c2), (own_h0 c3), (own_h8 c3)]) (2 : Int32) h0 n0 Z0 O0 S_COMPACT_STRINGS hgz S_SIOOBE_FORMATTER hrf S__assertionsDisabled S_HI_BYTE_SHIFT S_LO_BYTE_SHIFT E_a1 F_coder_a1 F_value_a1 V_vb ⟨by decide, by decide⟩ ⟨by decide, by decide⟩ ⟨by decide, by decide⟩) (by decide) (by decide) (lenOf pd_16 rfl) rfl rfl rfl d6_14 hs11 (by decide) (by decide) rfl ?_
      rintro _ T13 _ X13 ⟨rfl, N13q, hs13⟩
      have N13 := Fr.app N11 N13q
      show own_G p e below Φ T13 (mkF m 19 #[.val (.ref a1), .val (.int 2)] [(.int (own_c16 ([(own_h0 c0), (own_h8 c0), (own_h0 c1), (own_h8 c1), (own_h0 c2), (own_h8 c2), (own_h0 c3), (own_h8 c3)]) (2 : Int32)))])
      have hq14 : (own_c16 ([(own_h0 c0), (own_h8 c0), (own_h0 c1), (own_h8 c1), (own_h0 c2), (own_h8 c2), (own_h0 c3), (own_h8 c3)]) (2 : Int32)) = c2 := own_r16 hr2
      rw [hq14]
      show own_G p e below Φ T13 (mkF m 19 #[.val (.ref a1), .val (.int 2)] [(.int c2)])
      refine o_cS (argsL := [(.int c2)]) (rest := []) X13 B hZ hown (wd_86 hw) (wd_87 hw) (wd_88 hw) (wd_31 hw) (by decide) 0 (rmWs2 l Z a0 hw [] c2 h0 n0 Z0 ) (by decide) (by decide) (lenOf pd_17 rfl) rfl rfl rfl d6_19 hs13 (by decide) (by decide) rfl ?_
      rintro _ T15 _ X15 ⟨rfl, N15q, hs15⟩
      have N15 := Fr.app N13 N15q
      by_cases hc22_2 : (own_ws c2) = (0 : Int32)
      · refine o_ifN X15 B d6_22 (XT.i0_ne_f hc22_2) ?_
        refine o_iconst X15 B d6_25 ?_
        rw [hΦ]
        refine own_ret X15 (v := some (.int 0)) (own_nr hret) hlk (fun fs hr => retN X15 hx (t := .boolean) hret (by simp) (hb hby d6_26) hr) ?_ (by decide) (by decide)
        rw [hs15]
        exact ⟨(by simp [own_and, hc22, hc22_1, hc22_2]), N15, rfl⟩
      · refine o_ifY X15 B 27 d6_22 (XT.i0_ne_t hc22_2) rfl ?_
        refine o_iinc (L' := #[.val (.ref a1), .val (.int 3)]) X15 B d6_27 rfl rfl ?_
        refine o_goto X15 B 2 d6_30 rfl ?_
        refine o_iloadN X15 B d6_2 rfl ?_
        refine o_aloadN X15 B d6_3 rfl rfl ?_
        refine o_cF (argsL := []) (rest := [(.int 3)]) X15 B hZ hown (wd_33 hw) (wd_34 hw) (wd_35 hw) (wd_36 hw) (wd_37 hw) (wd_38 hw) (wd_39 hw) (wd_40 hw) (wd_41 hw) (wd_9 hw) (by decide) E_a1 1 (rmLng1 l Z a0 hw [] a1 gz vb kb (8 : Int32) ([(own_h0 c0), (own_h8 c0), (own_h0 c1), (own_h8 c1), (own_h0 c2), (own_h8 c2), (own_h0 c3), (own_h8 c3)]) h0 n0 Z0 O0 S_COMPACT_STRINGS hgz E_a1 F_coder_a1 F_value_a1 V_vb) (by decide) (by decide) (lenOf pd_15 rfl) rfl rfl rfl d6_4 hs15 (by decide) (by decide) rfl ?_
        rintro _ T16 _ X16 ⟨rfl, N16q, hs16⟩
        have N16 := Fr.app N15 N16q
        show own_G p e below Φ T16 (mkF m 9 #[.val (.ref a1), .val (.int 3)] [(.int ((8 : Int32) >>> ((1 : Int32) &&& 31))), (.int 3)])
        have hn17 : ((8 : Int32) >>> ((1 : Int32) &&& 31)) = (4 : Int32) := by decide
        rw [hn17]
        show own_G p e below Φ T16 (mkF m 9 #[.val (.ref a1), .val (.int 3)] [(.int 4), (.int 3)])
        refine o_icN X16 B d6_9 (XT.ii_ge_f (by decide : ((3 : Int32) < (4 : Int32)))) ?_
        refine o_aloadN X16 B d6_12 rfl rfl ?_
        refine o_iloadN X16 B d6_13 rfl ?_
        refine o_cF (argsL := [(.int 3)]) (rest := []) X16 B hZ hown (wd_61 hw) (wd_62 hw) (wd_63 hw) (wd_64 hw) (wd_65 hw) (wd_66 hw) (wd_67 hw) (wd_40 hw) (wd_68 hw) (wd_9 hw) (by decide) E_a1 0 (rmCh1 l Z a0 hw [] a1 gz rf vb kb (8 : Int32) ([(own_h0 c0), (own_h8 c0), (own_h0 c1), (own_h8 c1), (own_h0 c2), (own_h8 c2), (own_h0 c3), (own_h8 c3)]) (3 : Int32) h0 n0 Z0 O0 S_COMPACT_STRINGS hgz S_SIOOBE_FORMATTER hrf S__assertionsDisabled S_HI_BYTE_SHIFT S_LO_BYTE_SHIFT E_a1 F_coder_a1 F_value_a1 V_vb ⟨by decide, by decide⟩ ⟨by decide, by decide⟩ ⟨by decide, by decide⟩) (by decide) (by decide) (lenOf pd_16 rfl) rfl rfl rfl d6_14 hs16 (by decide) (by decide) rfl ?_
        rintro _ T18 _ X18 ⟨rfl, N18q, hs18⟩
        have N18 := Fr.app N16 N18q
        show own_G p e below Φ T18 (mkF m 19 #[.val (.ref a1), .val (.int 3)] [(.int (own_c16 ([(own_h0 c0), (own_h8 c0), (own_h0 c1), (own_h8 c1), (own_h0 c2), (own_h8 c2), (own_h0 c3), (own_h8 c3)]) (3 : Int32)))])
        have hq19 : (own_c16 ([(own_h0 c0), (own_h8 c0), (own_h0 c1), (own_h8 c1), (own_h0 c2), (own_h8 c2), (own_h0 c3), (own_h8 c3)]) (3 : Int32)) = c3 := own_r16 hr3
        rw [hq19]
        show own_G p e below Φ T18 (mkF m 19 #[.val (.ref a1), .val (.int 3)] [(.int c3)])
        refine o_cS (argsL := [(.int c3)]) (rest := []) X18 B hZ hown (wd_86 hw) (wd_87 hw) (wd_88 hw) (wd_31 hw) (by decide) 0 (rmWs2 l Z a0 hw [] c3 h0 n0 Z0 ) (by decide) (by decide) (lenOf pd_17 rfl) rfl rfl rfl d6_19 hs18 (by decide) (by decide) rfl ?_
        rintro _ T20 _ X20 ⟨rfl, N20q, hs20⟩
        have N20 := Fr.app N18 N20q
        by_cases hc22_3 : (own_ws c3) = (0 : Int32)
        · refine o_ifN X20 B d6_22 (XT.i0_ne_f hc22_3) ?_
          refine o_iconst X20 B d6_25 ?_
          rw [hΦ]
          refine own_ret X20 (v := some (.int 0)) (own_nr hret) hlk (fun fs hr => retN X20 hx (t := .boolean) hret (by simp) (hb hby d6_26) hr) ?_ (by decide) (by decide)
          rw [hs20]
          exact ⟨(by simp [own_and, hc22, hc22_1, hc22_2, hc22_3]), N20, rfl⟩
        · refine o_ifY X20 B 27 d6_22 (XT.i0_ne_t hc22_3) rfl ?_
          refine o_iinc (L' := #[.val (.ref a1), .val (.int 4)]) X20 B d6_27 rfl rfl ?_
          refine o_goto X20 B 2 d6_30 rfl ?_
          refine o_iloadN X20 B d6_2 rfl ?_
          refine o_aloadN X20 B d6_3 rfl rfl ?_
          refine o_cF (argsL := []) (rest := [(.int 4)]) X20 B hZ hown (wd_33 hw) (wd_34 hw) (wd_35 hw) (wd_36 hw) (wd_37 hw) (wd_38 hw) (wd_39 hw) (wd_40 hw) (wd_41 hw) (wd_9 hw) (by decide) E_a1 1 (rmLng1 l Z a0 hw [] a1 gz vb kb (8 : Int32) ([(own_h0 c0), (own_h8 c0), (own_h0 c1), (own_h8 c1), (own_h0 c2), (own_h8 c2), (own_h0 c3), (own_h8 c3)]) h0 n0 Z0 O0 S_COMPACT_STRINGS hgz E_a1 F_coder_a1 F_value_a1 V_vb) (by decide) (by decide) (lenOf pd_15 rfl) rfl rfl rfl d6_4 hs20 (by decide) (by decide) rfl ?_
          rintro _ T21 _ X21 ⟨rfl, N21q, hs21⟩
          have N21 := Fr.app N20 N21q
          show own_G p e below Φ T21 (mkF m 9 #[.val (.ref a1), .val (.int 4)] [(.int ((8 : Int32) >>> ((1 : Int32) &&& 31))), (.int 4)])
          have hn22 : ((8 : Int32) >>> ((1 : Int32) &&& 31)) = (4 : Int32) := by decide
          rw [hn22]
          show own_G p e below Φ T21 (mkF m 9 #[.val (.ref a1), .val (.int 4)] [(.int 4), (.int 4)])
          refine o_icY X21 B 33 d6_9 (XT.ii_ge_t (by decide : ¬ ((4 : Int32) < (4 : Int32)))) rfl ?_
          refine o_iconst X21 B d6_33 ?_
          rw [hΦ]
          refine own_ret X21 (v := some (.int 1)) (own_nr hret) hlk (fun fs hr => retN X21 hx (t := .boolean) hret (by simp) (hb hby d6_34) hr) ?_ (by decide) (by decide)
          rw [hs21]
          exact ⟨(by simp [own_and, hc22, hc22_1, hc22_2, hc22_3]), N21, rfl⟩
theorem own_e1 (xa : Int32) : (¬ (255 : Int32) < xa) ∨ ((255 : Int32) < xa) := by
  by_cases q0 : (255 : Int32) < xa <;> simp [*]
theorem own_e2 (xa xb : Int32) : (¬ (255 : Int32) < xa ∧ ¬ (255 : Int32) < xb) ∨ ((255 : Int32) < xa ∨ (255 : Int32) < xb) := by
  by_cases q0 : (255 : Int32) < xa <;> by_cases q1 : (255 : Int32) < xb <;> simp [*]
theorem own_e3 (xa xb xc : Int32) : (¬ (255 : Int32) < xa ∧ ¬ (255 : Int32) < xb ∧ ¬ (255 : Int32) < xc) ∨ ((255 : Int32) < xa ∨ (255 : Int32) < xb ∨ (255 : Int32) < xc) := by
  by_cases q0 : (255 : Int32) < xa <;> by_cases q1 : (255 : Int32) < xb <;> by_cases q2 : (255 : Int32) < xc <;> simp [*]
theorem own_e4 (xa xb xc xd : Int32) : (¬ (255 : Int32) < xa ∧ ¬ (255 : Int32) < xb ∧ ¬ (255 : Int32) < xc ∧ ¬ (255 : Int32) < xd) ∨ ((255 : Int32) < xa ∨ (255 : Int32) < xb ∨ (255 : Int32) < xc ∨ (255 : Int32) < xd) := by
  by_cases q0 : (255 : Int32) < xa <;> by_cases q1 : (255 : Int32) < xb <;> by_cases q2 : (255 : Int32) < xc <;> by_cases q3 : (255 : Int32) < xd <;> simp [*]
theorem wd_0 {Z : State} {a0 : Array Value} (hw : own_H Z a0) : ((Jvm.Cond.methodLink "com/example/edgewarden/edgewarden/xacml/XacmlSyntaxIsWhiteSpacePinLaw" (13 : Nat) ({ cls := "com/example/edgewarden/edgewarden/xacml/XacmlSyntaxIsWhiteSpacePinLaw", name := "pick", desc := "(I)C" } : Jvm.MethodName)) : Jvm.Cond).before a0 Z = true := hw _ (List.mem_of_getElem? (i := 0) rfl)
theorem wd_3 {Z : State} {a0 : Array Value} (hw : own_H Z a0) : ((Jvm.Cond.code ({ cls := "com/example/edgewarden/edgewarden/xacml/XacmlSyntaxIsWhiteSpacePinLaw", name := "pick", desc := "(I)C" } : Jvm.MethodName) method_2_code (2 : Nat) (Option.some Jvm.ClassFile.FieldType.char)) : Jvm.Cond).before a0 Z = true := hw _ (List.mem_of_getElem? (i := 3) rfl)
theorem wd_2 {Z : State} {a0 : Array Value} (hw : own_H Z a0) : ((Jvm.Cond.initialized "com/example/edgewarden/edgewarden/xacml/XacmlSyntaxIsWhiteSpacePinLaw") : Jvm.Cond).before a0 Z = true := hw _ (List.mem_of_getElem? (i := 2) rfl)
theorem wd_1 {Z : State} {a0 : Array Value} (hw : own_H Z a0) : ((Jvm.Cond.static ({ cls := "com/example/edgewarden/edgewarden/xacml/XacmlSyntaxIsWhiteSpacePinLaw", name := "pick", desc := "(I)C" } : Jvm.MethodName)) : Jvm.Cond).before a0 Z = true := hw _ (List.mem_of_getElem? (i := 1) rfl)
theorem wd_4 {Z : State} {a0 : Array Value} (hw : own_H Z a0) : ((Jvm.Cond.methodLink "com/example/edgewarden/edgewarden/xacml/XacmlSyntaxIsWhiteSpacePinLaw" (19 : Nat) ({ cls := "com/example/edgewarden/edgewarden/xacml/XacmlSyntaxIsWhiteSpacePinLaw", name := "text", desc := "(ICCCC)Ljava/lang/String;" } : Jvm.MethodName)) : Jvm.Cond).before a0 Z = true := hw _ (List.mem_of_getElem? (i := 4) rfl)
theorem wd_6 {Z : State} {a0 : Array Value} (hw : own_H Z a0) : ((Jvm.Cond.code ({ cls := "com/example/edgewarden/edgewarden/xacml/XacmlSyntaxIsWhiteSpacePinLaw", name := "text", desc := "(ICCCC)Ljava/lang/String;" } : Jvm.MethodName) method_4_code (5 : Nat) (Option.some (Jvm.ClassFile.FieldType.object "java/lang/String"))) : Jvm.Cond).before a0 Z = true := hw _ (List.mem_of_getElem? (i := 6) rfl)
theorem pd_18 : parseMethodDescriptor "(ICCCC)Ljava/lang/String;" = some ⟨[.int, .char, .char, .char, .char], some (.object "java/lang/String")⟩ := by decide +kernel
theorem wd_5 {Z : State} {a0 : Array Value} (hw : own_H Z a0) : ((Jvm.Cond.static ({ cls := "com/example/edgewarden/edgewarden/xacml/XacmlSyntaxIsWhiteSpacePinLaw", name := "text", desc := "(ICCCC)Ljava/lang/String;" } : Jvm.MethodName)) : Jvm.Cond).before a0 Z = true := hw _ (List.mem_of_getElem? (i := 5) rfl)
theorem wd_29 {Z : State} {a0 : Array Value} (hw : own_H Z a0) : ((Jvm.Cond.methodLink "com/example/edgewarden/edgewarden/xacml/XacmlSyntaxIsWhiteSpacePinLaw" (27 : Nat) ({ cls := "com/example/edgewarden/edgewarden/xacml/XacmlSyntax", name := "isWhiteSpace", desc := "(Ljava/lang/CharSequence;)Z" } : Jvm.MethodName)) : Jvm.Cond).before a0 Z = true := hw _ (List.mem_of_getElem? (i := 29) rfl)
theorem wd_32 {Z : State} {a0 : Array Value} (hw : own_H Z a0) : ((Jvm.Cond.code ({ cls := "com/example/edgewarden/edgewarden/xacml/XacmlSyntax", name := "isWhiteSpace", desc := "(Ljava/lang/CharSequence;)Z" } : Jvm.MethodName) prog_187_method_22_code (2 : Nat) (Option.some Jvm.ClassFile.FieldType.boolean)) : Jvm.Cond).before a0 Z = true := hw _ (List.mem_of_getElem? (i := 32) rfl)
theorem pd_19 : parseMethodDescriptor "(Ljava/lang/CharSequence;)Z" = some ⟨[(.object "java/lang/CharSequence")], some .boolean⟩ := by decide +kernel
theorem wd_30 {Z : State} {a0 : Array Value} (hw : own_H Z a0) : ((Jvm.Cond.static ({ cls := "com/example/edgewarden/edgewarden/xacml/XacmlSyntax", name := "isWhiteSpace", desc := "(Ljava/lang/CharSequence;)Z" } : Jvm.MethodName)) : Jvm.Cond).before a0 Z = true := hw _ (List.mem_of_getElem? (i := 30) rfl)
theorem wd_58 {Z : State} {a0 : Array Value} (hw : own_H Z a0) : ((Jvm.Cond.methodLink "com/example/edgewarden/edgewarden/xacml/XacmlSyntaxIsWhiteSpacePinLaw" (23 : Nat) ({ cls := "com/example/edgewarden/edgewarden/xacml/XacmlSyntaxIsWhiteSpacePinLaw", name := "ws", desc := "(C)Z" } : Jvm.MethodName)) : Jvm.Cond).before a0 Z = true := hw _ (List.mem_of_getElem? (i := 58) rfl)
theorem wd_60 {Z : State} {a0 : Array Value} (hw : own_H Z a0) : ((Jvm.Cond.code ({ cls := "com/example/edgewarden/edgewarden/xacml/XacmlSyntaxIsWhiteSpacePinLaw", name := "ws", desc := "(C)Z" } : Jvm.MethodName) method_3_code (1 : Nat) (Option.some Jvm.ClassFile.FieldType.boolean)) : Jvm.Cond).before a0 Z = true := hw _ (List.mem_of_getElem? (i := 60) rfl)
theorem wd_59 {Z : State} {a0 : Array Value} (hw : own_H Z a0) : ((Jvm.Cond.static ({ cls := "com/example/edgewarden/edgewarden/xacml/XacmlSyntaxIsWhiteSpacePinLaw", name := "ws", desc := "(C)Z" } : Jvm.MethodName)) : Jvm.Cond).before a0 Z = true := hw _ (List.mem_of_getElem? (i := 59) rfl)
theorem ef_rm0 (m : MethodId) (p0 : Int32) (p1 : Int32) (p2 : Int32) (p3 : Int32) (p4 : Int32) : entryFrame m #[(.int p0), (.int p1), (.int p2), (.int p3), (.int p4)] maxLocals = mkF m 0 #[.val (.int p0), .val (.int p1), .val (.int p2), .val (.int p3), .val (.int p4), .unset, .unset, .unset, .unset, .unset, .unset, .unset] [] := by first | (simp [entryFrame, mkF, argsToLocals, Value.category, maxLocals]; done) | rfl
def Q_rm0 (Z : State) (p0 : Int32) (p1 : Int32) (p2 : Int32) (p3 : Int32) (p4 : Int32) (gz : Int32) (rf : Value) (h0 : Heap) (n0 : Nat) (v : Option Value) (h : Heap) (L : List Loc) : Prop := v = some (.int 1) ∧ Fr n0 L
set_option maxRecDepth 65536 in
set_option maxHeartbeats 40000000 in
theorem rm0 (l : Launch) (Z : State) (a0 : Array Value) (hw : own_H Z a0) (ws : List Jvm.Cond) (p0 : Int32) (p1 : Int32) (p2 : Int32) (p3 : Int32) (p4 : Int32) (gz : Int32) (rf : Value) (h0 : Heap) (n0 : Nat) (Z0 : n0 ≤ h0.size) (O0 : Old Z n0 h0) (S_COMPACT_STRINGS : Sta Z Z.heap "java/lang/String" "COMPACT_STRINGS" "Z" (.int gz)) (hgz : ¬ gz = (0 : Int32)) (S_SIOOBE_FORMATTER : Sta Z Z.heap "jdk/internal/util/Preconditions" "SIOOBE_FORMATTER" "Ljava/util/function/BiFunction;" rf) (hrf : rf.isRef = true) (S__assertionsDisabled : Sta Z Z.heap "java/lang/StringUTF16" "$assertionsDisabled" "Z" (.int 1)) (S_HI_BYTE_SHIFT : Sta Z Z.heap "java/lang/StringUTF16" "HI_BYTE_SHIFT" "I" (.int 0)) (S_LO_BYTE_SHIFT : Sta Z Z.heap "java/lang/StringUTF16" "LO_BYTE_SHIFT" "I" (.int 8)) (hch : Jvm.Lit.constHeld Z "java/lang/String" 7) (hcw : Jvm.Lit.compactW.before a0 Z = true) :
    MetFree l x (head1 (Jvm.Cond.code x code maxLocals ret :: ws) room_1) (fun a U => a = #[(.int p0), (.int p1), (.int p2), (.int p3), (.int p4)] ∧ Z.Warmed39 U.vm ∧ U.heap = h0 ∧ IB Z U.vm []) (fun _ _ _ _ _ => True) (fun _ U o U' => ∃ v L, o = .returned v ∧ Q_rm0 Z p0 p1 p2 p3 p4 gz rf h0 n0 v U'.heap L ∧ ReturnedEndW U o U' L room_1.cells room_1.slots) := by
  refine MetFree.of_bodySF (plainFor_of_name pn_0) hisR ?_
  intro p e s m args below meth c s₁ Bd hml0 hP hK
  obtain ⟨rfl, hZ, hh, hI⟩ := hP
  have hx := Bd.exec
  have hby := Bd.bytes
  have hml : c.maxLocals = 12 := hml0
  have B : own_B p c _ _ := ⟨hx, hby, hml⟩
  have hown : s.vm.findClass "com/example/edgewarden/edgewarden/xacml/XacmlSyntaxIsWhiteSpacePinLaw" = some m.cls := findClass_of_methodNamed Bd.named
  have hnm := (name_of_methodNamed Bd.named Bd.method).1
  have X0 : Stand p l e room_1 (s.setVm s.vm) m #[(.int p0), (.int p1), (.int p2), (.int p3), (.int p4)] below meth c s₁ [] 0 0 := Stand.of_body Bd
  have e0 : s₁.heap = h0 := by rw [← hh, Bd.state]; rfl
  have N0 := Fr.nil n0
  have hS0 : s.Since s.vm 0 := (State.WarmedH.refl s).since 0
  have hk0 : 0 ≤ h0.size := Nat.zero_le _
  replace hZ : Z.Warmed39 (s.setVm s.vm).vm := hZ
  replace hown : (s.setVm s.vm).vm.findClass "com/example/edgewarden/edgewarden/xacml/XacmlSyntaxIsWhiteSpacePinLaw" = some m.cls := hown
  suffices G0 : own_G p e below (own_EW s below (Q_rm0 Z p0 p1 p2 p3 p4 gz rf h0 n0) room_1.cells room_1.slots) s₁ (mkF m 0 #[.val (.int p0), .val (.int p1), .val (.int p2), .val (.int p3), .val (.int p4), .unset, .unset, .unset, .unset, .unset, .unset, .unset] []) by
    obtain ⟨zt, zst, zo, zq1, zq2, zq3⟩ := G0
    exact ⟨zt, zo, castTop (ef_rm0 m p0 p1 p2 p3 p4) zst, zq1, zq2, zq3⟩
  obtain ⟨Φ, hΦ⟩ : ∃ Φ, Φ = own_EW s below (Q_rm0 Z p0 p1 p2 p3 p4 gz rf h0 n0) room_1.cells room_1.slots := ⟨_, rfl⟩
  rw [← hΦ]
  show own_G p e below Φ s₁ (mkF m 0 #[.val (.int p0), .val (.int p1), .val (.int p2), .val (.int p3), .val (.int p4), .unset, .unset, .unset, .unset, .unset, .unset, .unset] [])
  refine o_iloadN X0 B at_0 rfl ?_
  refine o_bipush X0 B at_1 ?_
  refine own_go (fun _ => XS.iand X0.here hx rfl (hb hby at_3) rfl) ?_
  refine o_iconst X0 B at_4 ?_
  refine own_go (fun _ => iremM X0 hx rfl (hb hby at_5) rfl (by decide)) ?_
  show own_G p e below Φ s₁ (mkF m 6 #[.val (.int p0), .val (.int p1), .val (.int p2), .val (.int p3), .val (.int p4), .unset, .unset, .unset, .unset, .unset, .unset, .unset] [(.int ((p0 &&& (7 : Int32)) % (5 : Int32)))])
  refine o_istore (L' := #[.val (.int p0), .val (.int p1), .val (.int p2), .val (.int p3), .val (.int p4), .val (.int ((p0 &&& (7 : Int32)) % (5 : Int32))), .unset, .unset, .unset, .unset, .unset, .unset]) X0 B at_6 rfl ?_
  show own_G p e below Φ s₁ (mkF m 8 #[.val (.int p0), .val (.int p1), .val (.int p2), .val (.int p3), .val (.int p4), .val (.int ((p0 &&& (7 : Int32)) % (5 : Int32))), .unset, .unset, .unset, .unset, .unset, .unset] [])
  generalize hx5_6 : ((p0 &&& (7 : Int32)) % (5 : Int32)) = x5_6
  refine o_iloadN X0 B at_8 rfl ?_
  refine o_cS (argsL := [(.int p1)]) (rest := []) X0 B hZ hown (wd_0 hw) (wd_1 hw) (wd_3 hw) (wd_2 hw) (by decide) 0 (rmPick l Z a0 hw [] p1 h0 n0 Z0 ) (by decide) (by decide) (lenOf pd_16 rfl) rfl rfl rfl at_9 e0 (by decide) (by decide) rfl ?_
  rintro _ T1 _ X1 ⟨rfl, N1q, hs1⟩
  have N1 := Fr.app N0 N1q
  refine o_istore (L' := #[.val (.int p0), .val (.int p1), .val (.int p2), .val (.int p3), .val (.int p4), .val (.int x5_6), .val (.int (own_pick p1)), .unset, .unset, .unset, .unset, .unset]) X1 B at_12 rfl ?_
  show own_G p e below Φ T1 (mkF m 14 #[.val (.int p0), .val (.int p1), .val (.int p2), .val (.int p3), .val (.int p4), .val (.int x5_6), .val (.int (own_pick p1)), .unset, .unset, .unset, .unset, .unset] [])
  generalize hx6_12 : (own_pick p1) = x6_12
  refine o_iloadN X1 B at_14 rfl ?_
  refine o_cS (argsL := [(.int p2)]) (rest := []) X1 B hZ hown (wd_0 hw) (wd_1 hw) (wd_3 hw) (wd_2 hw) (by decide) 0 (rmPick l Z a0 hw [] p2 h0 n0 Z0 ) (by decide) (by decide) (lenOf pd_16 rfl) rfl rfl rfl at_15 hs1 (by decide) (by decide) rfl ?_
  rintro _ T2 _ X2 ⟨rfl, N2q, hs2⟩
  have N2 := Fr.app N1 N2q
  refine o_istore (L' := #[.val (.int p0), .val (.int p1), .val (.int p2), .val (.int p3), .val (.int p4), .val (.int x5_6), .val (.int x6_12), .val (.int (own_pick p2)), .unset, .unset, .unset, .unset]) X2 B at_18 rfl ?_
  show own_G p e below Φ T2 (mkF m 20 #[.val (.int p0), .val (.int p1), .val (.int p2), .val (.int p3), .val (.int p4), .val (.int x5_6), .val (.int x6_12), .val (.int (own_pick p2)), .unset, .unset, .unset, .unset] [])
  generalize hx7_18 : (own_pick p2) = x7_18
  refine o_iloadN X2 B at_20 rfl ?_
  show own_G p e below Φ T2 (mkF m 21 #[.val (.int p0), .val (.int p1), .val (.int p2), .val (.int p3), .val (.int p4), .val (.int x5_6), .val (.int x6_12), .val (.int x7_18), .unset, .unset, .unset, .unset] [(.int p3)])
  refine o_cS (argsL := [(.int p3)]) (rest := []) X2 B hZ hown (wd_0 hw) (wd_1 hw) (wd_3 hw) (wd_2 hw) (by decide) 0 (rmPick l Z a0 hw [] p3 h0 n0 Z0 ) (by decide) (by decide) (lenOf pd_16 rfl) rfl rfl rfl at_21 hs2 (by decide) (by decide) rfl ?_
  rintro _ T3 _ X3 ⟨rfl, N3q, hs3⟩
  have N3 := Fr.app N2 N3q
  refine o_istore (L' := #[.val (.int p0), .val (.int p1), .val (.int p2), .val (.int p3), .val (.int p4), .val (.int x5_6), .val (.int x6_12), .val (.int x7_18), .val (.int (own_pick p3)), .unset, .unset, .unset]) X3 B at_24 rfl ?_
  show own_G p e below Φ T3 (mkF m 26 #[.val (.int p0), .val (.int p1), .val (.int p2), .val (.int p3), .val (.int p4), .val (.int x5_6), .val (.int x6_12), .val (.int x7_18), .val (.int (own_pick p3)), .unset, .unset, .unset] [])
  generalize hx8_24 : (own_pick p3) = x8_24
  refine o_iload X3 B at_26 rfl ?_
  refine o_cS (argsL := [(.int p4)]) (rest := []) X3 B hZ hown (wd_0 hw) (wd_1 hw) (wd_3 hw) (wd_2 hw) (by decide) 0 (rmPick l Z a0 hw [] p4 h0 n0 Z0 ) (by decide) (by decide) (lenOf pd_16 rfl) rfl rfl rfl at_28 hs3 (by decide) (by decide) rfl ?_
  rintro _ T4 _ X4 ⟨rfl, N4q, hs4⟩
  have N4 := Fr.app N3 N4q
  refine o_istore (L' := #[.val (.int p0), .val (.int p1), .val (.int p2), .val (.int p3), .val (.int p4), .val (.int x5_6), .val (.int x6_12), .val (.int x7_18), .val (.int x8_24), .val (.int (own_pick p4)), .unset, .unset]) X4 B at_31 rfl ?_
  show own_G p e below Φ T4 (mkF m 33 #[.val (.int p0), .val (.int p1), .val (.int p2), .val (.int p3), .val (.int p4), .val (.int x5_6), .val (.int x6_12), .val (.int x7_18), .val (.int x8_24), .val (.int (own_pick p4)), .unset, .unset] [])
  generalize hx9_31 : (own_pick p4) = x9_31
  have hr0 : ¬ x6_12 < 0 ∧ ¬ (65535 : Int32) < x6_12 := hx6_12 ▸ own_pick_rng _
  have hr1 : ¬ x7_18 < 0 ∧ ¬ (65535 : Int32) < x7_18 := hx7_18 ▸ own_pick_rng _
  have hr2 : ¬ x8_24 < 0 ∧ ¬ (65535 : Int32) < x8_24 := hx8_24 ▸ own_pick_rng _
  have hr3 : ¬ x9_31 < 0 ∧ ¬ (65535 : Int32) < x9_31 := hx9_31 ▸ own_pick_rng _
  show own_G p e below Φ T4 (mkF m 33 #[.val (.int p0), .val (.int p1), .val (.int p2), .val (.int p3), .val (.int p4), .val (.int x5_6), .val (.int x6_12), .val (.int x7_18), .val (.int x8_24), .val (.int x9_31), .unset, .unset] [])
  rcases (own_n5 hx5_6) with rfl | rfl | rfl | rfl | rfl
  · refine o_iload X4 B at_33 rfl ?_
    refine o_iload X4 B at_35 rfl ?_
    refine o_iload X4 B at_37 rfl ?_
    show own_G p e below Φ T4 (mkF m 39 #[.val (.int p0), .val (.int p1), .val (.int p2), .val (.int p3), .val (.int p4), .val (.int 0), .val (.int x6_12), .val (.int x7_18), .val (.int x8_24), .val (.int x9_31), .unset, .unset] [(.int x7_18), (.int x6_12), (.int 0)])
    refine o_iload X4 B at_39 rfl ?_
    refine o_iload X4 B at_41 rfl ?_
    obtain ⟨_, _, ⟨T5, zL5, zk5, zn5⟩, -, X5, hS5q, hg5, ⟨Lc5, hQ5, zl5, zy5, zz5⟩, st5⟩ := callSS X4 hx (y := (⟨"com/example/edgewarden/edgewarden/xacml/XacmlSyntaxIsWhiteSpacePinLaw", "text", "(ICCCC)Ljava/lang/String;"⟩ : MethodName)) hown (mvT hZ (wd_4 hw)) (mvT hZ (wd_5 hw)) (mvT hZ (wd_2 hw)) (mvT hZ (wd_6 hw)) (by decide) (own_backI (W := 0) (rmTx_z l Z a0 hw [] x6_12 x7_18 x8_24 x9_31 h0 n0 Z0 O0 hch hcw) hZ hI (wd_6 hw) (wd_2 hw) (by decide) (by decide)) (g := (mkF m 43 #[.val (.int p0), .val (.int p1), .val (.int p2), .val (.int p3), .val (.int p4), .val (.int 0), .val (.int x6_12), .val (.int x7_18), .val (.int x8_24), .val (.int x9_31), .unset, .unset] [(.int x9_31), (.int x8_24), (.int x7_18), (.int x6_12), (.int 0)])) rfl (by rw [hml]; rfl) (argsL := [(.int 0), (.int x6_12), (.int x7_18), (.int x8_24), (.int x9_31)]) (rest := []) (lenOf pd_18 rfl) rfl (by show 2 * 0 + _ ≤ _; exact Nat.le_of_eq rfl) (hb hby at_43) (fun _ _ => ⟨rfl, hs4, (by decide : 0 + 4 ≤ _), (by decide : 0 + 8 ≤ _)⟩)
    dsimp only [Pt.U, Pt.locs, Pt.cells, Pt.slots] at X5 zl5 zy5 zz5 st5 hQ5 hS5q hg5
    obtain ⟨X5, hS5, hZ, hown⟩ := rebS hS0 (by rw [hs4]; exact hk0 : _ ≤ T4.heap.size) X5 hS5q hg5 hZ hown
    subst zl5 zy5 zz5
    obtain ⟨so_5, ns_so_5, vb_5, kb_5, rfl, N5q, Kq5, p5_0, p5_1, p5_2, p5_3⟩ := hQ5
    have N5 := Fr.app N4 N5q
    refine own_on st5 ?_
    have g_so_5 : n0 ≤ so_5 := Nat.le_trans Z0 ns_so_5
    have Zp5 : n0 ≤ T5.heap.size := Nat.le_trans Z0 Kq5.1
    have O6 := O0.keep Kq5 all0
    refine o_astore (L' := #[.val (.int p0), .val (.int p1), .val (.int p2), .val (.int p3), .val (.int p4), .val (.int 0), .val (.int x6_12), .val (.int x7_18), .val (.int x8_24), .val (.int x9_31), .val (.ref so_5), .unset]) X5 B at_46 rfl rfl ?_
    refine o_iload X5 B at_48 rfl ?_
    refine o_iconst X5 B at_50 ?_
    refine o_icY X5 B 62 at_51 (XT.ii_lt_t (by decide : ((0 : Int32) < (1 : Int32)))) rfl ?_
    refine o_iload X5 B at_62 rfl ?_
    show own_G p e below Φ T5 (mkF m 64 #[.val (.int p0), .val (.int p1), .val (.int p2), .val (.int p3), .val (.int p4), .val (.int 0), .val (.int x6_12), .val (.int x7_18), .val (.int x8_24), .val (.int x9_31), .val (.ref so_5), .unset] [(.int 0)])
    refine o_iconst X5 B at_64 ?_
    refine o_icY X5 B 76 at_65 (XT.ii_lt_t (by decide : ((0 : Int32) < (2 : Int32)))) rfl ?_
    refine o_iload X5 B at_76 rfl ?_
    refine o_iconst X5 B at_78 ?_
    refine o_icY X5 B 90 at_79 (XT.ii_lt_t (by decide : ((0 : Int32) < (3 : Int32)))) rfl ?_
    refine o_iload X5 B at_90 rfl ?_
    refine o_iconst X5 B at_92 ?_
    refine o_icY X5 B 104 at_93 (XT.ii_lt_t (by decide : ((0 : Int32) < (4 : Int32)))) rfl ?_
    show own_G p e below Φ T5 (mkF m 104 #[.val (.int p0), .val (.int p1), .val (.int p2), .val (.int p3), .val (.int p4), .val (.int 0), .val (.int x6_12), .val (.int x7_18), .val (.int x8_24), .val (.int x9_31), .val (.ref so_5), .unset] [])
    refine o_iconst X5 B at_104 ?_
    refine o_goto X5 B 109 at_105 rfl ?_
    refine o_istore (L' := #[.val (.int p0), .val (.int p1), .val (.int p2), .val (.int p3), .val (.int p4), .val (.int 0), .val (.int x6_12), .val (.int x7_18), .val (.int x8_24), .val (.int x9_31), .val (.ref so_5), .val (.int 1)]) X5 B at_109 rfl ?_
    refine o_aload X5 B at_111 rfl rfl ?_
    refine o_cS (argsL := [(.ref so_5)]) (rest := []) X5 B hZ hown (wd_29 hw) (wd_30 hw) (wd_32 hw) (wd_31 hw) (by decide) 0 (rmSeq_00 l Z a0 hw [] so_5 gz rf vb_5 kb_5 T5.heap n0 Zp5 O6 S_COMPACT_STRINGS hgz S_SIOOBE_FORMATTER hrf p5_0 p5_2 p5_1 p5_3) (by decide) (by decide) (lenOf pd_19 rfl) rfl rfl rfl at_113 rfl (by decide) (by decide) rfl ?_
    rintro _ T7 _ X7 ⟨rfl, N7q, hs7⟩
    have N7 := Fr.app N5 N7q
    refine o_iload X7 B at_116 rfl ?_
    refine o_icN X7 B at_118 (XT.ii_ne_f (by decide : ((1 : Int32) = (1 : Int32)))) ?_
    refine o_iconst X7 B at_121 ?_
    show own_G p e below Φ T7 (mkF m 122 #[.val (.int p0), .val (.int p1), .val (.int p2), .val (.int p3), .val (.int p4), .val (.int 0), .val (.int x6_12), .val (.int x7_18), .val (.int x8_24), .val (.int x9_31), .val (.ref so_5), .val (.int 1)] [(.int 1)])
    refine o_goto X7 B 126 at_122 rfl ?_
    rw [hΦ]
    refine own_retW X7 hS5 (by rw [hs7]; exact (Nat.le_refl _)) (v := some (.int 1)) (fun h => by rw [Bd.returns] at h; cases h) (BodyLoose.notSynchronized Bd) (fun fs hr => retN X7 hx (t := .boolean) Bd.returns (by simp) (hb hby at_126) hr) ?_ (by decide) (by decide)
    rw [hs7]
    exact ⟨rfl, N7⟩
  · refine o_iload X4 B at_33 rfl ?_
    show own_G p e below Φ T4 (mkF m 35 #[.val (.int p0), .val (.int p1), .val (.int p2), .val (.int p3), .val (.int p4), .val (.int 1), .val (.int x6_12), .val (.int x7_18), .val (.int x8_24), .val (.int x9_31), .unset, .unset] [(.int 1)])
    rcases own_e1 x6_12 with hl0 | hex
    · show own_G p e below Φ T4 (mkF m 35 #[.val (.int p0), .val (.int p1), .val (.int p2), .val (.int p3), .val (.int p4), .val (.int 1), .val (.int x6_12), .val (.int x7_18), .val (.int x8_24), .val (.int x9_31), .unset, .unset] [(.int 1)])
      refine o_iload X4 B at_35 rfl ?_
      refine o_iload X4 B at_37 rfl ?_
      refine o_iload X4 B at_39 rfl ?_
      refine o_iload X4 B at_41 rfl ?_
      refine o_cS (argsL := [(.int 1), (.int x6_12), (.int x7_18), (.int x8_24), (.int x9_31)]) (rest := []) X4 B hZ hown (wd_4 hw) (wd_5 hw) (wd_6 hw) (wd_2 hw) (by decide) 0 (rmTx_10 l Z a0 hw [] x6_12 x7_18 x8_24 x9_31 gz h0 n0 Z0 O0 S_COMPACT_STRINGS hgz hr0 hl0) (by decide) (by decide) (lenOf pd_18 rfl) rfl rfl rfl at_43 hs4 (by decide) (by decide) rfl ?_
      rintro _ T8 _ X8 ⟨so_8, ns_so_8, vb_8, ns_vb_8, kb_8, rfl, N8q, Kq8, p8_0, p8_1, p8_2, p8_3⟩
      have N8 := Fr.app N4 N8q
      have g_so_8 : n0 ≤ so_8 := Nat.le_trans Z0 ns_so_8
      have g_vb_8 : n0 ≤ vb_8 := Nat.le_trans Z0 ns_vb_8
      have Zp8 : n0 ≤ T8.heap.size := Nat.le_trans Z0 Kq8.1
      have hk8 := Nat.le_trans hk0 Kq8.1
      have O9 := O0.keep Kq8 all0
      refine o_astore (L' := #[.val (.int p0), .val (.int p1), .val (.int p2), .val (.int p3), .val (.int p4), .val (.int 1), .val (.int x6_12), .val (.int x7_18), .val (.int x8_24), .val (.int x9_31), .val (.ref so_8), .unset]) X8 B at_46 rfl rfl ?_
      refine o_iload X8 B at_48 rfl ?_
      refine o_iconst X8 B at_50 ?_
      show own_G p e below Φ T8 (mkF m 51 #[.val (.int p0), .val (.int p1), .val (.int p2), .val (.int p3), .val (.int p4), .val (.int 1), .val (.int x6_12), .val (.int x7_18), .val (.int x8_24), .val (.int x9_31), .val (.ref so_8), .unset] [(.int 1), (.int 1)])
      refine o_icN X8 B at_51 (XT.ii_lt_f (by decide : ¬ ((1 : Int32) < (1 : Int32)))) ?_
      refine o_iload X8 B at_54 rfl ?_
      refine o_cS (argsL := [(.int x6_12)]) (rest := []) X8 B hZ hown (wd_58 hw) (wd_59 hw) (wd_60 hw) (wd_2 hw) (by decide) 0 (rmWs l Z a0 hw [] x6_12 T8.heap n0 Zp8 ) (by decide) (by decide) (lenOf pd_17 rfl) rfl rfl rfl at_56 rfl (by decide) (by decide) rfl ?_
      rintro _ T10 _ X10 ⟨rfl, N10q, hs10⟩
      have N10 := Fr.app N8 N10q
      have hJ109_11 : ∀ (T' : State) (l' : List Loc), own_AlL X10 T' l' 3 6 → Fr n0 l' → T'.heap = T8.heap → ∀ (z11 : Int32), (z11 = (own_and (own_ws x6_12) (1 : Int32))) → own_G p e below Φ T' (mkF m 109 #[.val (.int p0), .val (.int p1), .val (.int p2), .val (.int p3), .val (.int p4), .val (.int 1), .val (.int x6_12), .val (.int x7_18), .val (.int x8_24), .val (.int x9_31), .val (.ref so_8), .unset] [(.int z11)]) := by
        intro T11 l11 X11' N11 e11 z11 h_z11
        have X11 : Stand _ _ _ _ _ _ _ _ _ _ T11 _ _ _ := X11'
        refine o_istore (L' := #[.val (.int p0), .val (.int p1), .val (.int p2), .val (.int p3), .val (.int p4), .val (.int 1), .val (.int x6_12), .val (.int x7_18), .val (.int x8_24), .val (.int x9_31), .val (.ref so_8), .val (.int z11)]) X11 B at_109 rfl ?_
        refine o_aload X11 B at_111 rfl rfl ?_
        refine o_cS (argsL := [(.ref so_8)]) (rest := []) X11 B hZ hown (wd_29 hw) (wd_30 hw) (wd_32 hw) (wd_31 hw) (by decide) 0 (rmSeq_10 l Z a0 hw [] so_8 gz rf vb_8 kb_8 x6_12 T8.heap n0 Zp8 O9 S_COMPACT_STRINGS hgz S_SIOOBE_FORMATTER hrf p8_0 p8_2 p8_1 p8_3 hr0 hl0) (by decide) (by decide) (lenOf pd_19 rfl) rfl rfl rfl at_113 e11 (by decide) (by decide) rfl ?_
        rintro _ T12 _ X12 ⟨rfl, N12q, hs12⟩
        have N12 := Fr.app N11 N12q
        refine o_iload X12 B at_116 rfl ?_
        show own_G p e below Φ T12 (mkF m 118 #[.val (.int p0), .val (.int p1), .val (.int p2), .val (.int p3), .val (.int p4), .val (.int 1), .val (.int x6_12), .val (.int x7_18), .val (.int x8_24), .val (.int x9_31), .val (.ref so_8), .val (.int z11)] [(.int z11), (.int (own_and (own_ws x6_12) (1 : Int32)))])
        refine o_icN X12 B at_118 (XT.ii_ne_f h_z11.symm) ?_
        refine o_iconst X12 B at_121 ?_
        refine o_goto X12 B 126 at_122 rfl ?_
        rw [hΦ]
        refine own_retW X12 hS0 (by rw [hs12]; exact hk8) (v := some (.int 1)) (fun h => by rw [Bd.returns] at h; cases h) (BodyLoose.notSynchronized Bd) (fun fs hr => retN X12 hx (t := .boolean) Bd.returns (by simp) (hb hby at_126) hr) ?_ (by decide) (by decide)
        rw [hs12]
        exact ⟨rfl, N12⟩
      by_cases hc59 : (own_ws x6_12) = (0 : Int32)
      · refine o_ifY X10 B 108 at_59 (XT.i0_eq_t hc59) rfl ?_
        refine o_iconst X10 B at_108 ?_
        exact hJ109_11 _ _ X10 N10 hs10 _ (by simp [own_and, hc59])
      · refine o_ifN X10 B at_59 (XT.i0_eq_f hc59) ?_
        refine o_iload X10 B at_62 rfl ?_
        refine o_iconst X10 B at_64 ?_
        refine o_icY X10 B 76 at_65 (XT.ii_lt_t (by decide : ((1 : Int32) < (2 : Int32)))) rfl ?_
        refine o_iload X10 B at_76 rfl ?_
        show own_G p e below Φ T10 (mkF m 78 #[.val (.int p0), .val (.int p1), .val (.int p2), .val (.int p3), .val (.int p4), .val (.int 1), .val (.int x6_12), .val (.int x7_18), .val (.int x8_24), .val (.int x9_31), .val (.ref so_8), .unset] [(.int 1)])
        refine o_iconst X10 B at_78 ?_
        refine o_icY X10 B 90 at_79 (XT.ii_lt_t (by decide : ((1 : Int32) < (3 : Int32)))) rfl ?_
        refine o_iload X10 B at_90 rfl ?_
        refine o_iconst X10 B at_92 ?_
        refine o_icY X10 B 104 at_93 (XT.ii_lt_t (by decide : ((1 : Int32) < (4 : Int32)))) rfl ?_
        refine o_iconst X10 B at_104 ?_
        refine o_goto X10 B 109 at_105 rfl ?_
        exact hJ109_11 _ _ X10 N10 hs10 _ (by simp [own_and, hc59])
    · show own_G p e below Φ T4 (mkF m 35 #[.val (.int p0), .val (.int p1), .val (.int p2), .val (.int p3), .val (.int p4), .val (.int 1), .val (.int x6_12), .val (.int x7_18), .val (.int x8_24), .val (.int x9_31), .unset, .unset] [(.int 1)])
      refine o_iload X4 B at_35 rfl ?_
      refine o_iload X4 B at_37 rfl ?_
      refine o_iload X4 B at_39 rfl ?_
      refine o_iload X4 B at_41 rfl ?_
      refine o_cS (argsL := [(.int 1), (.int x6_12), (.int x7_18), (.int x8_24), (.int x9_31)]) (rest := []) X4 B hZ hown (wd_4 hw) (wd_5 hw) (wd_6 hw) (wd_2 hw) (by decide) 0 (rmTx_11 l Z a0 hw [] x6_12 x7_18 x8_24 x9_31 gz h0 n0 Z0 O0 S_COMPACT_STRINGS hgz S__assertionsDisabled S_HI_BYTE_SHIFT S_LO_BYTE_SHIFT hr0 hex) (by decide) (by decide) (lenOf pd_18 rfl) rfl rfl rfl at_43 hs4 (by decide) (by decide) rfl ?_
      rintro _ T13 _ X13 ⟨so_13, ns_so_13, vb_13, ns_vb_13, kb_13, rfl, N13q, Kq13, p13_0, p13_1, p13_2, p13_3⟩
      have N13 := Fr.app N4 N13q
      have g_so_13 : n0 ≤ so_13 := Nat.le_trans Z0 ns_so_13
      have g_vb_13 : n0 ≤ vb_13 := Nat.le_trans Z0 ns_vb_13
      have Zp13 : n0 ≤ T13.heap.size := Nat.le_trans Z0 Kq13.1
      have hk13 := Nat.le_trans hk0 Kq13.1
      have O14 := O0.keep Kq13 all0
      refine o_astore (L' := #[.val (.int p0), .val (.int p1), .val (.int p2), .val (.int p3), .val (.int p4), .val (.int 1), .val (.int x6_12), .val (.int x7_18), .val (.int x8_24), .val (.int x9_31), .val (.ref so_13), .unset]) X13 B at_46 rfl rfl ?_
      refine o_iload X13 B at_48 rfl ?_
      refine o_iconst X13 B at_50 ?_
      show own_G p e below Φ T13 (mkF m 51 #[.val (.int p0), .val (.int p1), .val (.int p2), .val (.int p3), .val (.int p4), .val (.int 1), .val (.int x6_12), .val (.int x7_18), .val (.int x8_24), .val (.int x9_31), .val (.ref so_13), .unset] [(.int 1), (.int 1)])
      refine o_icN X13 B at_51 (XT.ii_lt_f (by decide : ¬ ((1 : Int32) < (1 : Int32)))) ?_
      refine o_iload X13 B at_54 rfl ?_
      refine o_cS (argsL := [(.int x6_12)]) (rest := []) X13 B hZ hown (wd_58 hw) (wd_59 hw) (wd_60 hw) (wd_2 hw) (by decide) 0 (rmWs l Z a0 hw [] x6_12 T13.heap n0 Zp13 ) (by decide) (by decide) (lenOf pd_17 rfl) rfl rfl rfl at_56 rfl (by decide) (by decide) rfl ?_
      rintro _ T15 _ X15 ⟨rfl, N15q, hs15⟩
      have N15 := Fr.app N13 N15q
      have hJ109_16 : ∀ (T' : State) (l' : List Loc), own_AlL X15 T' l' 4 8 → Fr n0 l' → T'.heap = T13.heap → ∀ (z11 : Int32), (z11 = (own_and (own_ws x6_12) (1 : Int32))) → own_G p e below Φ T' (mkF m 109 #[.val (.int p0), .val (.int p1), .val (.int p2), .val (.int p3), .val (.int p4), .val (.int 1), .val (.int x6_12), .val (.int x7_18), .val (.int x8_24), .val (.int x9_31), .val (.ref so_13), .unset] [(.int z11)]) := by
        intro T16 l16 X16' N16 e16 z11 h_z11
        have X16 : Stand _ _ _ _ _ _ _ _ _ _ T16 _ _ _ := X16'
        refine o_istore (L' := #[.val (.int p0), .val (.int p1), .val (.int p2), .val (.int p3), .val (.int p4), .val (.int 1), .val (.int x6_12), .val (.int x7_18), .val (.int x8_24), .val (.int x9_31), .val (.ref so_13), .val (.int z11)]) X16 B at_109 rfl ?_
        refine o_aload X16 B at_111 rfl rfl ?_
        refine o_cS (argsL := [(.ref so_13)]) (rest := []) X16 B hZ hown (wd_29 hw) (wd_30 hw) (wd_32 hw) (wd_31 hw) (by decide) 0 (rmSeq_11 l Z a0 hw [] so_13 gz rf vb_13 kb_13 x6_12 T13.heap n0 Zp13 O14 S_COMPACT_STRINGS hgz S_SIOOBE_FORMATTER hrf S__assertionsDisabled S_HI_BYTE_SHIFT S_LO_BYTE_SHIFT p13_0 p13_2 p13_1 p13_3 hr0) (by decide) (by decide) (lenOf pd_19 rfl) rfl rfl rfl at_113 e16 (by decide) (by decide) rfl ?_
        rintro _ T17 _ X17 ⟨rfl, N17q, hs17⟩
        have N17 := Fr.app N16 N17q
        refine o_iload X17 B at_116 rfl ?_
        show own_G p e below Φ T17 (mkF m 118 #[.val (.int p0), .val (.int p1), .val (.int p2), .val (.int p3), .val (.int p4), .val (.int 1), .val (.int x6_12), .val (.int x7_18), .val (.int x8_24), .val (.int x9_31), .val (.ref so_13), .val (.int z11)] [(.int z11), (.int (own_and (own_ws x6_12) (1 : Int32)))])
        refine o_icN X17 B at_118 (XT.ii_ne_f h_z11.symm) ?_
        refine o_iconst X17 B at_121 ?_
        refine o_goto X17 B 126 at_122 rfl ?_
        rw [hΦ]
        refine own_retW X17 hS0 (by rw [hs17]; exact hk13) (v := some (.int 1)) (fun h => by rw [Bd.returns] at h; cases h) (BodyLoose.notSynchronized Bd) (fun fs hr => retN X17 hx (t := .boolean) Bd.returns (by simp) (hb hby at_126) hr) ?_ (by decide) (by decide)
        rw [hs17]
        exact ⟨rfl, N17⟩
      by_cases hc59 : (own_ws x6_12) = (0 : Int32)
      · refine o_ifY X15 B 108 at_59 (XT.i0_eq_t hc59) rfl ?_
        refine o_iconst X15 B at_108 ?_
        exact hJ109_16 _ _ X15 N15 hs15 _ (by simp [own_and, hc59])
      · refine o_ifN X15 B at_59 (XT.i0_eq_f hc59) ?_
        refine o_iload X15 B at_62 rfl ?_
        refine o_iconst X15 B at_64 ?_
        refine o_icY X15 B 76 at_65 (XT.ii_lt_t (by decide : ((1 : Int32) < (2 : Int32)))) rfl ?_
        refine o_iload X15 B at_76 rfl ?_
        show own_G p e below Φ T15 (mkF m 78 #[.val (.int p0), .val (.int p1), .val (.int p2), .val (.int p3), .val (.int p4), .val (.int 1), .val (.int x6_12), .val (.int x7_18), .val (.int x8_24), .val (.int x9_31), .val (.ref so_13), .unset] [(.int 1)])
        refine o_iconst X15 B at_78 ?_
        refine o_icY X15 B 90 at_79 (XT.ii_lt_t (by decide : ((1 : Int32) < (3 : Int32)))) rfl ?_
        refine o_iload X15 B at_90 rfl ?_
        refine o_iconst X15 B at_92 ?_
        refine o_icY X15 B 104 at_93 (XT.ii_lt_t (by decide : ((1 : Int32) < (4 : Int32)))) rfl ?_
        refine o_iconst X15 B at_104 ?_
        refine o_goto X15 B 109 at_105 rfl ?_
        exact hJ109_16 _ _ X15 N15 hs15 _ (by simp [own_and, hc59])
  · refine o_iload X4 B at_33 rfl ?_
    show own_G p e below Φ T4 (mkF m 35 #[.val (.int p0), .val (.int p1), .val (.int p2), .val (.int p3), .val (.int p4), .val (.int 2), .val (.int x6_12), .val (.int x7_18), .val (.int x8_24), .val (.int x9_31), .unset, .unset] [(.int 2)])
    rcases own_e2 x6_12 x7_18 with ⟨hl0, hl1⟩ | hex
    · show own_G p e below Φ T4 (mkF m 35 #[.val (.int p0), .val (.int p1), .val (.int p2), .val (.int p3), .val (.int p4), .val (.int 2), .val (.int x6_12), .val (.int x7_18), .val (.int x8_24), .val (.int x9_31), .unset, .unset] [(.int 2)])
      refine o_iload X4 B at_35 rfl ?_
      refine o_iload X4 B at_37 rfl ?_
      refine o_iload X4 B at_39 rfl ?_
      refine o_iload X4 B at_41 rfl ?_
      refine o_cS (argsL := [(.int 2), (.int x6_12), (.int x7_18), (.int x8_24), (.int x9_31)]) (rest := []) X4 B hZ hown (wd_4 hw) (wd_5 hw) (wd_6 hw) (wd_2 hw) (by decide) 0 (rmTx_20 l Z a0 hw [] x6_12 x7_18 x8_24 x9_31 gz h0 n0 Z0 O0 S_COMPACT_STRINGS hgz hr0 hr1 hl0 hl1) (by decide) (by decide) (lenOf pd_18 rfl) rfl rfl rfl at_43 hs4 (by decide) (by decide) rfl ?_
      rintro _ T18 _ X18 ⟨so_18, ns_so_18, vb_18, ns_vb_18, kb_18, rfl, N18q, Kq18, p18_0, p18_1, p18_2, p18_3⟩
      have N18 := Fr.app N4 N18q
      have g_so_18 : n0 ≤ so_18 := Nat.le_trans Z0 ns_so_18
      have g_vb_18 : n0 ≤ vb_18 := Nat.le_trans Z0 ns_vb_18
      have Zp18 : n0 ≤ T18.heap.size := Nat.le_trans Z0 Kq18.1
      have hk18 := Nat.le_trans hk0 Kq18.1
      have O19 := O0.keep Kq18 all0
      refine o_astore (L' := #[.val (.int p0), .val (.int p1), .val (.int p2), .val (.int p3), .val (.int p4), .val (.int 2), .val (.int x6_12), .val (.int x7_18), .val (.int x8_24), .val (.int x9_31), .val (.ref so_18), .unset]) X18 B at_46 rfl rfl ?_
      refine o_iload X18 B at_48 rfl ?_
      refine o_iconst X18 B at_50 ?_
      show own_G p e below Φ T18 (mkF m 51 #[.val (.int p0), .val (.int p1), .val (.int p2), .val (.int p3), .val (.int p4), .val (.int 2), .val (.int x6_12), .val (.int x7_18), .val (.int x8_24), .val (.int x9_31), .val (.ref so_18), .unset] [(.int 1), (.int 2)])
      refine o_icN X18 B at_51 (XT.ii_lt_f (by decide : ¬ ((2 : Int32) < (1 : Int32)))) ?_
      refine o_iload X18 B at_54 rfl ?_
      refine o_cS (argsL := [(.int x6_12)]) (rest := []) X18 B hZ hown (wd_58 hw) (wd_59 hw) (wd_60 hw) (wd_2 hw) (by decide) 0 (rmWs l Z a0 hw [] x6_12 T18.heap n0 Zp18 ) (by decide) (by decide) (lenOf pd_17 rfl) rfl rfl rfl at_56 rfl (by decide) (by decide) rfl ?_
      rintro _ T20 _ X20 ⟨rfl, N20q, hs20⟩
      have N20 := Fr.app N18 N20q
      have hJ109_21 : ∀ (T' : State) (l' : List Loc), own_AlL X20 T' l' 3 8 → Fr n0 l' → T'.heap = T18.heap → ∀ (z11 : Int32), (z11 = (own_and (own_ws x6_12) (own_and (own_ws x7_18) (1 : Int32)))) → own_G p e below Φ T' (mkF m 109 #[.val (.int p0), .val (.int p1), .val (.int p2), .val (.int p3), .val (.int p4), .val (.int 2), .val (.int x6_12), .val (.int x7_18), .val (.int x8_24), .val (.int x9_31), .val (.ref so_18), .unset] [(.int z11)]) := by
        intro T21 l21 X21' N21 e21 z11 h_z11
        have X21 : Stand _ _ _ _ _ _ _ _ _ _ T21 _ _ _ := X21'
        refine o_istore (L' := #[.val (.int p0), .val (.int p1), .val (.int p2), .val (.int p3), .val (.int p4), .val (.int 2), .val (.int x6_12), .val (.int x7_18), .val (.int x8_24), .val (.int x9_31), .val (.ref so_18), .val (.int z11)]) X21 B at_109 rfl ?_
        refine o_aload X21 B at_111 rfl rfl ?_
        refine o_cS (argsL := [(.ref so_18)]) (rest := []) X21 B hZ hown (wd_29 hw) (wd_30 hw) (wd_32 hw) (wd_31 hw) (by decide) 0 (rmSeq_20 l Z a0 hw [] so_18 gz rf vb_18 kb_18 x6_12 x7_18 T18.heap n0 Zp18 O19 S_COMPACT_STRINGS hgz S_SIOOBE_FORMATTER hrf p18_0 p18_2 p18_1 p18_3 hr0 hr1 hl0 hl1) (by decide) (by decide) (lenOf pd_19 rfl) rfl rfl rfl at_113 e21 (by decide) (by decide) rfl ?_
        rintro _ T22 _ X22 ⟨rfl, N22q, hs22⟩
        have N22 := Fr.app N21 N22q
        refine o_iload X22 B at_116 rfl ?_
        show own_G p e below Φ T22 (mkF m 118 #[.val (.int p0), .val (.int p1), .val (.int p2), .val (.int p3), .val (.int p4), .val (.int 2), .val (.int x6_12), .val (.int x7_18), .val (.int x8_24), .val (.int x9_31), .val (.ref so_18), .val (.int z11)] [(.int z11), (.int (own_and (own_ws x6_12) (own_and (own_ws x7_18) (1 : Int32))))])
        refine o_icN X22 B at_118 (XT.ii_ne_f h_z11.symm) ?_
        refine o_iconst X22 B at_121 ?_
        refine o_goto X22 B 126 at_122 rfl ?_
        rw [hΦ]
        refine own_retW X22 hS0 (by rw [hs22]; exact hk18) (v := some (.int 1)) (fun h => by rw [Bd.returns] at h; cases h) (BodyLoose.notSynchronized Bd) (fun fs hr => retN X22 hx (t := .boolean) Bd.returns (by simp) (hb hby at_126) hr) ?_ (by decide) (by decide)
        rw [hs22]
        exact ⟨rfl, N22⟩
      by_cases hc59 : (own_ws x6_12) = (0 : Int32)
      · refine o_ifY X20 B 108 at_59 (XT.i0_eq_t hc59) rfl ?_
        refine o_iconst X20 B at_108 ?_
        exact hJ109_21 _ _ X20 N20 hs20 _ (by simp [own_and, hc59])
      · refine o_ifN X20 B at_59 (XT.i0_eq_f hc59) ?_
        refine o_iload X20 B at_62 rfl ?_
        refine o_iconst X20 B at_64 ?_
        refine o_icN X20 B at_65 (XT.ii_lt_f (by decide : ¬ ((2 : Int32) < (2 : Int32)))) ?_
        refine o_iload X20 B at_68 rfl ?_
        show own_G p e below Φ T20 (mkF m 70 #[.val (.int p0), .val (.int p1), .val (.int p2), .val (.int p3), .val (.int p4), .val (.int 2), .val (.int x6_12), .val (.int x7_18), .val (.int x8_24), .val (.int x9_31), .val (.ref so_18), .unset] [(.int x7_18)])
        refine o_cS (argsL := [(.int x7_18)]) (rest := []) X20 B hZ hown (wd_58 hw) (wd_59 hw) (wd_60 hw) (wd_2 hw) (by decide) 0 (rmWs l Z a0 hw [] x7_18 T18.heap n0 Zp18 ) (by decide) (by decide) (lenOf pd_17 rfl) rfl rfl rfl at_70 hs20 (by decide) (by decide) rfl ?_
        rintro _ T23 _ X23 ⟨rfl, N23q, hs23⟩
        have N23 := Fr.app N20 N23q
        by_cases hc73 : (own_ws x7_18) = (0 : Int32)
        · refine o_ifY X23 B 108 at_73 (XT.i0_eq_t hc73) rfl ?_
          refine o_iconst X23 B at_108 ?_
          exact hJ109_21 _ _ X23 N23 hs23 _ (by simp [own_and, hc59, hc73])
        · refine o_ifN X23 B at_73 (XT.i0_eq_f hc73) ?_
          refine o_iload X23 B at_76 rfl ?_
          refine o_iconst X23 B at_78 ?_
          refine o_icY X23 B 90 at_79 (XT.ii_lt_t (by decide : ((2 : Int32) < (3 : Int32)))) rfl ?_
          refine o_iload X23 B at_90 rfl ?_
          refine o_iconst X23 B at_92 ?_
          refine o_icY X23 B 104 at_93 (XT.ii_lt_t (by decide : ((2 : Int32) < (4 : Int32)))) rfl ?_
          show own_G p e below Φ T23 (mkF m 104 #[.val (.int p0), .val (.int p1), .val (.int p2), .val (.int p3), .val (.int p4), .val (.int 2), .val (.int x6_12), .val (.int x7_18), .val (.int x8_24), .val (.int x9_31), .val (.ref so_18), .unset] [])
          refine o_iconst X23 B at_104 ?_
          refine o_goto X23 B 109 at_105 rfl ?_
          exact hJ109_21 _ _ X23 N23 hs23 _ (by simp [own_and, hc59, hc73])
    · show own_G p e below Φ T4 (mkF m 35 #[.val (.int p0), .val (.int p1), .val (.int p2), .val (.int p3), .val (.int p4), .val (.int 2), .val (.int x6_12), .val (.int x7_18), .val (.int x8_24), .val (.int x9_31), .unset, .unset] [(.int 2)])
      refine o_iload X4 B at_35 rfl ?_
      refine o_iload X4 B at_37 rfl ?_
      refine o_iload X4 B at_39 rfl ?_
      refine o_iload X4 B at_41 rfl ?_
      refine o_cS (argsL := [(.int 2), (.int x6_12), (.int x7_18), (.int x8_24), (.int x9_31)]) (rest := []) X4 B hZ hown (wd_4 hw) (wd_5 hw) (wd_6 hw) (wd_2 hw) (by decide) 0 (rmTx_21 l Z a0 hw [] x6_12 x7_18 x8_24 x9_31 gz h0 n0 Z0 O0 S_COMPACT_STRINGS hgz S__assertionsDisabled S_HI_BYTE_SHIFT S_LO_BYTE_SHIFT hr0 hr1 hex) (by decide) (by decide) (lenOf pd_18 rfl) rfl rfl rfl at_43 hs4 (by decide) (by decide) rfl ?_
      rintro _ T24 _ X24 ⟨so_24, ns_so_24, vb_24, ns_vb_24, kb_24, rfl, N24q, Kq24, p24_0, p24_1, p24_2, p24_3⟩
      have N24 := Fr.app N4 N24q
      have g_so_24 : n0 ≤ so_24 := Nat.le_trans Z0 ns_so_24
      have g_vb_24 : n0 ≤ vb_24 := Nat.le_trans Z0 ns_vb_24
      have Zp24 : n0 ≤ T24.heap.size := Nat.le_trans Z0 Kq24.1
      have hk24 := Nat.le_trans hk0 Kq24.1
      have O25 := O0.keep Kq24 all0
      refine o_astore (L' := #[.val (.int p0), .val (.int p1), .val (.int p2), .val (.int p3), .val (.int p4), .val (.int 2), .val (.int x6_12), .val (.int x7_18), .val (.int x8_24), .val (.int x9_31), .val (.ref so_24), .unset]) X24 B at_46 rfl rfl ?_
      refine o_iload X24 B at_48 rfl ?_
      refine o_iconst X24 B at_50 ?_
      show own_G p e below Φ T24 (mkF m 51 #[.val (.int p0), .val (.int p1), .val (.int p2), .val (.int p3), .val (.int p4), .val (.int 2), .val (.int x6_12), .val (.int x7_18), .val (.int x8_24), .val (.int x9_31), .val (.ref so_24), .unset] [(.int 1), (.int 2)])
      refine o_icN X24 B at_51 (XT.ii_lt_f (by decide : ¬ ((2 : Int32) < (1 : Int32)))) ?_
      refine o_iload X24 B at_54 rfl ?_
      refine o_cS (argsL := [(.int x6_12)]) (rest := []) X24 B hZ hown (wd_58 hw) (wd_59 hw) (wd_60 hw) (wd_2 hw) (by decide) 0 (rmWs l Z a0 hw [] x6_12 T24.heap n0 Zp24 ) (by decide) (by decide) (lenOf pd_17 rfl) rfl rfl rfl at_56 rfl (by decide) (by decide) rfl ?_
      rintro _ T26 _ X26 ⟨rfl, N26q, hs26⟩
      have N26 := Fr.app N24 N26q
      have hJ109_27 : ∀ (T' : State) (l' : List Loc), own_AlL X26 T' l' 4 12 → Fr n0 l' → T'.heap = T24.heap → ∀ (z11 : Int32), (z11 = (own_and (own_ws x6_12) (own_and (own_ws x7_18) (1 : Int32)))) → own_G p e below Φ T' (mkF m 109 #[.val (.int p0), .val (.int p1), .val (.int p2), .val (.int p3), .val (.int p4), .val (.int 2), .val (.int x6_12), .val (.int x7_18), .val (.int x8_24), .val (.int x9_31), .val (.ref so_24), .unset] [(.int z11)]) := by
        intro T27 l27 X27' N27 e27 z11 h_z11
        have X27 : Stand _ _ _ _ _ _ _ _ _ _ T27 _ _ _ := X27'
        refine o_istore (L' := #[.val (.int p0), .val (.int p1), .val (.int p2), .val (.int p3), .val (.int p4), .val (.int 2), .val (.int x6_12), .val (.int x7_18), .val (.int x8_24), .val (.int x9_31), .val (.ref so_24), .val (.int z11)]) X27 B at_109 rfl ?_
        refine o_aload X27 B at_111 rfl rfl ?_
        refine o_cS (argsL := [(.ref so_24)]) (rest := []) X27 B hZ hown (wd_29 hw) (wd_30 hw) (wd_32 hw) (wd_31 hw) (by decide) 0 (rmSeq_21 l Z a0 hw [] so_24 gz rf vb_24 kb_24 x6_12 x7_18 T24.heap n0 Zp24 O25 S_COMPACT_STRINGS hgz S_SIOOBE_FORMATTER hrf S__assertionsDisabled S_HI_BYTE_SHIFT S_LO_BYTE_SHIFT p24_0 p24_2 p24_1 p24_3 hr0 hr1) (by decide) (by decide) (lenOf pd_19 rfl) rfl rfl rfl at_113 e27 (by decide) (by decide) rfl ?_
        rintro _ T28 _ X28 ⟨rfl, N28q, hs28⟩
        have N28 := Fr.app N27 N28q
        refine o_iload X28 B at_116 rfl ?_
        show own_G p e below Φ T28 (mkF m 118 #[.val (.int p0), .val (.int p1), .val (.int p2), .val (.int p3), .val (.int p4), .val (.int 2), .val (.int x6_12), .val (.int x7_18), .val (.int x8_24), .val (.int x9_31), .val (.ref so_24), .val (.int z11)] [(.int z11), (.int (own_and (own_ws x6_12) (own_and (own_ws x7_18) (1 : Int32))))])
        refine o_icN X28 B at_118 (XT.ii_ne_f h_z11.symm) ?_
        refine o_iconst X28 B at_121 ?_
        refine o_goto X28 B 126 at_122 rfl ?_
        rw [hΦ]
        refine own_retW X28 hS0 (by rw [hs28]; exact hk24) (v := some (.int 1)) (fun h => by rw [Bd.returns] at h; cases h) (BodyLoose.notSynchronized Bd) (fun fs hr => retN X28 hx (t := .boolean) Bd.returns (by simp) (hb hby at_126) hr) ?_ (by decide) (by decide)
        rw [hs28]
        exact ⟨rfl, N28⟩
      by_cases hc59 : (own_ws x6_12) = (0 : Int32)
      · refine o_ifY X26 B 108 at_59 (XT.i0_eq_t hc59) rfl ?_
        refine o_iconst X26 B at_108 ?_
        exact hJ109_27 _ _ X26 N26 hs26 _ (by simp [own_and, hc59])
      · refine o_ifN X26 B at_59 (XT.i0_eq_f hc59) ?_
        refine o_iload X26 B at_62 rfl ?_
        refine o_iconst X26 B at_64 ?_
        refine o_icN X26 B at_65 (XT.ii_lt_f (by decide : ¬ ((2 : Int32) < (2 : Int32)))) ?_
        refine o_iload X26 B at_68 rfl ?_
        show own_G p e below Φ T26 (mkF m 70 #[.val (.int p0), .val (.int p1), .val (.int p2), .val (.int p3), .val (.int p4), .val (.int 2), .val (.int x6_12), .val (.int x7_18), .val (.int x8_24), .val (.int x9_31), .val (.ref so_24), .unset] [(.int x7_18)])
        refine o_cS (argsL := [(.int x7_18)]) (rest := []) X26 B hZ hown (wd_58 hw) (wd_59 hw) (wd_60 hw) (wd_2 hw) (by decide) 0 (rmWs l Z a0 hw [] x7_18 T24.heap n0 Zp24 ) (by decide) (by decide) (lenOf pd_17 rfl) rfl rfl rfl at_70 hs26 (by decide) (by decide) rfl ?_
        rintro _ T29 _ X29 ⟨rfl, N29q, hs29⟩
        have N29 := Fr.app N26 N29q
        by_cases hc73 : (own_ws x7_18) = (0 : Int32)
        · refine o_ifY X29 B 108 at_73 (XT.i0_eq_t hc73) rfl ?_
          refine o_iconst X29 B at_108 ?_
          exact hJ109_27 _ _ X29 N29 hs29 _ (by simp [own_and, hc59, hc73])
        · refine o_ifN X29 B at_73 (XT.i0_eq_f hc73) ?_
          refine o_iload X29 B at_76 rfl ?_
          refine o_iconst X29 B at_78 ?_
          refine o_icY X29 B 90 at_79 (XT.ii_lt_t (by decide : ((2 : Int32) < (3 : Int32)))) rfl ?_
          refine o_iload X29 B at_90 rfl ?_
          refine o_iconst X29 B at_92 ?_
          refine o_icY X29 B 104 at_93 (XT.ii_lt_t (by decide : ((2 : Int32) < (4 : Int32)))) rfl ?_
          show own_G p e below Φ T29 (mkF m 104 #[.val (.int p0), .val (.int p1), .val (.int p2), .val (.int p3), .val (.int p4), .val (.int 2), .val (.int x6_12), .val (.int x7_18), .val (.int x8_24), .val (.int x9_31), .val (.ref so_24), .unset] [])
          refine o_iconst X29 B at_104 ?_
          refine o_goto X29 B 109 at_105 rfl ?_
          exact hJ109_27 _ _ X29 N29 hs29 _ (by simp [own_and, hc59, hc73])
  · refine o_iload X4 B at_33 rfl ?_
    show own_G p e below Φ T4 (mkF m 35 #[.val (.int p0), .val (.int p1), .val (.int p2), .val (.int p3), .val (.int p4), .val (.int 3), .val (.int x6_12), .val (.int x7_18), .val (.int x8_24), .val (.int x9_31), .unset, .unset] [(.int 3)])
    rcases own_e3 x6_12 x7_18 x8_24 with ⟨hl0, hl1, hl2⟩ | hex
    · show own_G p e below Φ T4 (mkF m 35 #[.val (.int p0), .val (.int p1), .val (.int p2), .val (.int p3), .val (.int p4), .val (.int 3), .val (.int x6_12), .val (.int x7_18), .val (.int x8_24), .val (.int x9_31), .unset, .unset] [(.int 3)])
      refine o_iload X4 B at_35 rfl ?_
      refine o_iload X4 B at_37 rfl ?_
      refine o_iload X4 B at_39 rfl ?_
      refine o_iload X4 B at_41 rfl ?_
      refine o_cS (argsL := [(.int 3), (.int x6_12), (.int x7_18), (.int x8_24), (.int x9_31)]) (rest := []) X4 B hZ hown (wd_4 hw) (wd_5 hw) (wd_6 hw) (wd_2 hw) (by decide) 0 (rmTx_30 l Z a0 hw [] x6_12 x7_18 x8_24 x9_31 gz h0 n0 Z0 O0 S_COMPACT_STRINGS hgz hr0 hr1 hr2 hl0 hl1 hl2) (by decide) (by decide) (lenOf pd_18 rfl) rfl rfl rfl at_43 hs4 (by decide) (by decide) rfl ?_
      rintro _ T30 _ X30 ⟨so_30, ns_so_30, vb_30, ns_vb_30, kb_30, rfl, N30q, Kq30, p30_0, p30_1, p30_2, p30_3⟩
      have N30 := Fr.app N4 N30q
      have g_so_30 : n0 ≤ so_30 := Nat.le_trans Z0 ns_so_30
      have g_vb_30 : n0 ≤ vb_30 := Nat.le_trans Z0 ns_vb_30
      have Zp30 : n0 ≤ T30.heap.size := Nat.le_trans Z0 Kq30.1
      have hk30 := Nat.le_trans hk0 Kq30.1
      have O31 := O0.keep Kq30 all0
      refine o_astore (L' := #[.val (.int p0), .val (.int p1), .val (.int p2), .val (.int p3), .val (.int p4), .val (.int 3), .val (.int x6_12), .val (.int x7_18), .val (.int x8_24), .val (.int x9_31), .val (.ref so_30), .unset]) X30 B at_46 rfl rfl ?_
      refine o_iload X30 B at_48 rfl ?_
      refine o_iconst X30 B at_50 ?_
      show own_G p e below Φ T30 (mkF m 51 #[.val (.int p0), .val (.int p1), .val (.int p2), .val (.int p3), .val (.int p4), .val (.int 3), .val (.int x6_12), .val (.int x7_18), .val (.int x8_24), .val (.int x9_31), .val (.ref so_30), .unset] [(.int 1), (.int 3)])
      refine o_icN X30 B at_51 (XT.ii_lt_f (by decide : ¬ ((3 : Int32) < (1 : Int32)))) ?_
      refine o_iload X30 B at_54 rfl ?_
      refine o_cS (argsL := [(.int x6_12)]) (rest := []) X30 B hZ hown (wd_58 hw) (wd_59 hw) (wd_60 hw) (wd_2 hw) (by decide) 0 (rmWs l Z a0 hw [] x6_12 T30.heap n0 Zp30 ) (by decide) (by decide) (lenOf pd_17 rfl) rfl rfl rfl at_56 rfl (by decide) (by decide) rfl ?_
      rintro _ T32 _ X32 ⟨rfl, N32q, hs32⟩
      have N32 := Fr.app N30 N32q
      have hJ109_33 : ∀ (T' : State) (l' : List Loc), own_AlL X32 T' l' 3 10 → Fr n0 l' → T'.heap = T30.heap → ∀ (z11 : Int32), (z11 = (own_and (own_ws x6_12) (own_and (own_ws x7_18) (own_and (own_ws x8_24) (1 : Int32))))) → own_G p e below Φ T' (mkF m 109 #[.val (.int p0), .val (.int p1), .val (.int p2), .val (.int p3), .val (.int p4), .val (.int 3), .val (.int x6_12), .val (.int x7_18), .val (.int x8_24), .val (.int x9_31), .val (.ref so_30), .unset] [(.int z11)]) := by
        intro T33 l33 X33' N33 e33 z11 h_z11
        have X33 : Stand _ _ _ _ _ _ _ _ _ _ T33 _ _ _ := X33'
        refine o_istore (L' := #[.val (.int p0), .val (.int p1), .val (.int p2), .val (.int p3), .val (.int p4), .val (.int 3), .val (.int x6_12), .val (.int x7_18), .val (.int x8_24), .val (.int x9_31), .val (.ref so_30), .val (.int z11)]) X33 B at_109 rfl ?_
        refine o_aload X33 B at_111 rfl rfl ?_
        refine o_cS (argsL := [(.ref so_30)]) (rest := []) X33 B hZ hown (wd_29 hw) (wd_30 hw) (wd_32 hw) (wd_31 hw) (by decide) 0 (rmSeq_30 l Z a0 hw [] so_30 gz rf vb_30 kb_30 x6_12 x7_18 x8_24 T30.heap n0 Zp30 O31 S_COMPACT_STRINGS hgz S_SIOOBE_FORMATTER hrf p30_0 p30_2 p30_1 p30_3 hr0 hr1 hr2 hl0 hl1 hl2) (by decide) (by decide) (lenOf pd_19 rfl) rfl rfl rfl at_113 e33 (by decide) (by decide) rfl ?_
        rintro _ T34 _ X34 ⟨rfl, N34q, hs34⟩
        have N34 := Fr.app N33 N34q
        refine o_iload X34 B at_116 rfl ?_
        show own_G p e below Φ T34 (mkF m 118 #[.val (.int p0), .val (.int p1), .val (.int p2), .val (.int p3), .val (.int p4), .val (.int 3), .val (.int x6_12), .val (.int x7_18), .val (.int x8_24), .val (.int x9_31), .val (.ref so_30), .val (.int z11)] [(.int z11), (.int (own_and (own_ws x6_12) (own_and (own_ws x7_18) (own_and (own_ws x8_24) (1 : Int32)))))])
        refine o_icN X34 B at_118 (XT.ii_ne_f h_z11.symm) ?_
        refine o_iconst X34 B at_121 ?_
        refine o_goto X34 B 126 at_122 rfl ?_
        rw [hΦ]
        refine own_retW X34 hS0 (by rw [hs34]; exact hk30) (v := some (.int 1)) (fun h => by rw [Bd.returns] at h; cases h) (BodyLoose.notSynchronized Bd) (fun fs hr => retN X34 hx (t := .boolean) Bd.returns (by simp) (hb hby at_126) hr) ?_ (by decide) (by decide)
        rw [hs34]
        exact ⟨rfl, N34⟩
      by_cases hc59 : (own_ws x6_12) = (0 : Int32)
      · refine o_ifY X32 B 108 at_59 (XT.i0_eq_t hc59) rfl ?_
        refine o_iconst X32 B at_108 ?_
        exact hJ109_33 _ _ X32 N32 hs32 _ (by simp [own_and, hc59])
      · refine o_ifN X32 B at_59 (XT.i0_eq_f hc59) ?_
        refine o_iload X32 B at_62 rfl ?_
        refine o_iconst X32 B at_64 ?_
        refine o_icN X32 B at_65 (XT.ii_lt_f (by decide : ¬ ((3 : Int32) < (2 : Int32)))) ?_
        refine o_iload X32 B at_68 rfl ?_
        show own_G p e below Φ T32 (mkF m 70 #[.val (.int p0), .val (.int p1), .val (.int p2), .val (.int p3), .val (.int p4), .val (.int 3), .val (.int x6_12), .val (.int x7_18), .val (.int x8_24), .val (.int x9_31), .val (.ref so_30), .unset] [(.int x7_18)])
        refine o_cS (argsL := [(.int x7_18)]) (rest := []) X32 B hZ hown (wd_58 hw) (wd_59 hw) (wd_60 hw) (wd_2 hw) (by decide) 0 (rmWs l Z a0 hw [] x7_18 T30.heap n0 Zp30 ) (by decide) (by decide) (lenOf pd_17 rfl) rfl rfl rfl at_70 hs32 (by decide) (by decide) rfl ?_
        rintro _ T35 _ X35 ⟨rfl, N35q, hs35⟩
        have N35 := Fr.app N32 N35q
        by_cases hc73 : (own_ws x7_18) = (0 : Int32)
        · refine o_ifY X35 B 108 at_73 (XT.i0_eq_t hc73) rfl ?_
          refine o_iconst X35 B at_108 ?_
          exact hJ109_33 _ _ X35 N35 hs35 _ (by simp [own_and, hc59, hc73])
        · refine o_ifN X35 B at_73 (XT.i0_eq_f hc73) ?_
          refine o_iload X35 B at_76 rfl ?_
          refine o_iconst X35 B at_78 ?_
          refine o_icN X35 B at_79 (XT.ii_lt_f (by decide : ¬ ((3 : Int32) < (3 : Int32)))) ?_
          refine o_iload X35 B at_82 rfl ?_
          refine o_cS (argsL := [(.int x8_24)]) (rest := []) X35 B hZ hown (wd_58 hw) (wd_59 hw) (wd_60 hw) (wd_2 hw) (by decide) 0 (rmWs l Z a0 hw [] x8_24 T30.heap n0 Zp30 ) (by decide) (by decide) (lenOf pd_17 rfl) rfl rfl rfl at_84 hs35 (by decide) (by decide) rfl ?_
          rintro _ T36 _ X36 ⟨rfl, N36q, hs36⟩
          have N36 := Fr.app N35 N36q
          by_cases hc87 : (own_ws x8_24) = (0 : Int32)
          · refine o_ifY X36 B 108 at_87 (XT.i0_eq_t hc87) rfl ?_
            show own_G p e below Φ T36 (mkF m 108 #[.val (.int p0), .val (.int p1), .val (.int p2), .val (.int p3), .val (.int p4), .val (.int 3), .val (.int x6_12), .val (.int x7_18), .val (.int x8_24), .val (.int x9_31), .val (.ref so_30), .unset] [])
            refine o_iconst X36 B at_108 ?_
            exact hJ109_33 _ _ X36 N36 hs36 _ (by simp [own_and, hc59, hc73, hc87])
          · refine o_ifN X36 B at_87 (XT.i0_eq_f hc87) ?_
            show own_G p e below Φ T36 (mkF m 90 #[.val (.int p0), .val (.int p1), .val (.int p2), .val (.int p3), .val (.int p4), .val (.int 3), .val (.int x6_12), .val (.int x7_18), .val (.int x8_24), .val (.int x9_31), .val (.ref so_30), .unset] [])
            refine o_iload X36 B at_90 rfl ?_
            refine o_iconst X36 B at_92 ?_
            refine o_icY X36 B 104 at_93 (XT.ii_lt_t (by decide : ((3 : Int32) < (4 : Int32)))) rfl ?_
            refine o_iconst X36 B at_104 ?_
            refine o_goto X36 B 109 at_105 rfl ?_
            exact hJ109_33 _ _ X36 N36 hs36 _ (by simp [own_and, hc59, hc73, hc87])
    · show own_G p e below Φ T4 (mkF m 35 #[.val (.int p0), .val (.int p1), .val (.int p2), .val (.int p3), .val (.int p4), .val (.int 3), .val (.int x6_12), .val (.int x7_18), .val (.int x8_24), .val (.int x9_31), .unset, .unset] [(.int 3)])
      refine o_iload X4 B at_35 rfl ?_
      refine o_iload X4 B at_37 rfl ?_
      refine o_iload X4 B at_39 rfl ?_
      refine o_iload X4 B at_41 rfl ?_
      refine o_cS (argsL := [(.int 3), (.int x6_12), (.int x7_18), (.int x8_24), (.int x9_31)]) (rest := []) X4 B hZ hown (wd_4 hw) (wd_5 hw) (wd_6 hw) (wd_2 hw) (by decide) 0 (rmTx_31 l Z a0 hw [] x6_12 x7_18 x8_24 x9_31 gz h0 n0 Z0 O0 S_COMPACT_STRINGS hgz S__assertionsDisabled S_HI_BYTE_SHIFT S_LO_BYTE_SHIFT hr0 hr1 hr2 hex) (by decide) (by decide) (lenOf pd_18 rfl) rfl rfl rfl at_43 hs4 (by decide) (by decide) rfl ?_
      rintro _ T37 _ X37 ⟨so_37, ns_so_37, vb_37, ns_vb_37, kb_37, rfl, N37q, Kq37, p37_0, p37_1, p37_2, p37_3⟩
      have N37 := Fr.app N4 N37q
      have g_so_37 : n0 ≤ so_37 := Nat.le_trans Z0 ns_so_37
      have g_vb_37 : n0 ≤ vb_37 := Nat.le_trans Z0 ns_vb_37
      have Zp37 : n0 ≤ T37.heap.size := Nat.le_trans Z0 Kq37.1
      have hk37 := Nat.le_trans hk0 Kq37.1
      have O38 := O0.keep Kq37 all0
      refine o_astore (L' := #[.val (.int p0), .val (.int p1), .val (.int p2), .val (.int p3), .val (.int p4), .val (.int 3), .val (.int x6_12), .val (.int x7_18), .val (.int x8_24), .val (.int x9_31), .val (.ref so_37), .unset]) X37 B at_46 rfl rfl ?_
      refine o_iload X37 B at_48 rfl ?_
      refine o_iconst X37 B at_50 ?_
      show own_G p e below Φ T37 (mkF m 51 #[.val (.int p0), .val (.int p1), .val (.int p2), .val (.int p3), .val (.int p4), .val (.int 3), .val (.int x6_12), .val (.int x7_18), .val (.int x8_24), .val (.int x9_31), .val (.ref so_37), .unset] [(.int 1), (.int 3)])
      refine o_icN X37 B at_51 (XT.ii_lt_f (by decide : ¬ ((3 : Int32) < (1 : Int32)))) ?_
      refine o_iload X37 B at_54 rfl ?_
      refine o_cS (argsL := [(.int x6_12)]) (rest := []) X37 B hZ hown (wd_58 hw) (wd_59 hw) (wd_60 hw) (wd_2 hw) (by decide) 0 (rmWs l Z a0 hw [] x6_12 T37.heap n0 Zp37 ) (by decide) (by decide) (lenOf pd_17 rfl) rfl rfl rfl at_56 rfl (by decide) (by decide) rfl ?_
      rintro _ T39 _ X39 ⟨rfl, N39q, hs39⟩
      have N39 := Fr.app N37 N39q
      have hJ109_40 : ∀ (T' : State) (l' : List Loc), own_AlL X39 T' l' 4 16 → Fr n0 l' → T'.heap = T37.heap → ∀ (z11 : Int32), (z11 = (own_and (own_ws x6_12) (own_and (own_ws x7_18) (own_and (own_ws x8_24) (1 : Int32))))) → own_G p e below Φ T' (mkF m 109 #[.val (.int p0), .val (.int p1), .val (.int p2), .val (.int p3), .val (.int p4), .val (.int 3), .val (.int x6_12), .val (.int x7_18), .val (.int x8_24), .val (.int x9_31), .val (.ref so_37), .unset] [(.int z11)]) := by
        intro T40 l40 X40' N40 e40 z11 h_z11
        have X40 : Stand _ _ _ _ _ _ _ _ _ _ T40 _ _ _ := X40'
        refine o_istore (L' := #[.val (.int p0), .val (.int p1), .val (.int p2), .val (.int p3), .val (.int p4), .val (.int 3), .val (.int x6_12), .val (.int x7_18), .val (.int x8_24), .val (.int x9_31), .val (.ref so_37), .val (.int z11)]) X40 B at_109 rfl ?_
        refine o_aload X40 B at_111 rfl rfl ?_
        refine o_cS (argsL := [(.ref so_37)]) (rest := []) X40 B hZ hown (wd_29 hw) (wd_30 hw) (wd_32 hw) (wd_31 hw) (by decide) 0 (rmSeq_31 l Z a0 hw [] so_37 gz rf vb_37 kb_37 x6_12 x7_18 x8_24 T37.heap n0 Zp37 O38 S_COMPACT_STRINGS hgz S_SIOOBE_FORMATTER hrf S__assertionsDisabled S_HI_BYTE_SHIFT S_LO_BYTE_SHIFT p37_0 p37_2 p37_1 p37_3 hr0 hr1 hr2) (by decide) (by decide) (lenOf pd_19 rfl) rfl rfl rfl at_113 e40 (by decide) (by decide) rfl ?_
        rintro _ T41 _ X41 ⟨rfl, N41q, hs41⟩
        have N41 := Fr.app N40 N41q
        refine o_iload X41 B at_116 rfl ?_
        show own_G p e below Φ T41 (mkF m 118 #[.val (.int p0), .val (.int p1), .val (.int p2), .val (.int p3), .val (.int p4), .val (.int 3), .val (.int x6_12), .val (.int x7_18), .val (.int x8_24), .val (.int x9_31), .val (.ref so_37), .val (.int z11)] [(.int z11), (.int (own_and (own_ws x6_12) (own_and (own_ws x7_18) (own_and (own_ws x8_24) (1 : Int32)))))])
        refine o_icN X41 B at_118 (XT.ii_ne_f h_z11.symm) ?_
        refine o_iconst X41 B at_121 ?_
        refine o_goto X41 B 126 at_122 rfl ?_
        rw [hΦ]
        refine own_retW X41 hS0 (by rw [hs41]; exact hk37) (v := some (.int 1)) (fun h => by rw [Bd.returns] at h; cases h) (BodyLoose.notSynchronized Bd) (fun fs hr => retN X41 hx (t := .boolean) Bd.returns (by simp) (hb hby at_126) hr) ?_ (by decide) (by decide)
        rw [hs41]
        exact ⟨rfl, N41⟩
      by_cases hc59 : (own_ws x6_12) = (0 : Int32)
      · refine o_ifY X39 B 108 at_59 (XT.i0_eq_t hc59) rfl ?_
        refine o_iconst X39 B at_108 ?_
        exact hJ109_40 _ _ X39 N39 hs39 _ (by simp [own_and, hc59])
      · refine o_ifN X39 B at_59 (XT.i0_eq_f hc59) ?_
        refine o_iload X39 B at_62 rfl ?_
        refine o_iconst X39 B at_64 ?_
        refine o_icN X39 B at_65 (XT.ii_lt_f (by decide : ¬ ((3 : Int32) < (2 : Int32)))) ?_
        refine o_iload X39 B at_68 rfl ?_
        show own_G p e below Φ T39 (mkF m 70 #[.val (.int p0), .val (.int p1), .val (.int p2), .val (.int p3), .val (.int p4), .val (.int 3), .val (.int x6_12), .val (.int x7_18), .val (.int x8_24), .val (.int x9_31), .val (.ref so_37), .unset] [(.int x7_18)])
        refine o_cS (argsL := [(.int x7_18)]) (rest := []) X39 B hZ hown (wd_58 hw) (wd_59 hw) (wd_60 hw) (wd_2 hw) (by decide) 0 (rmWs l Z a0 hw [] x7_18 T37.heap n0 Zp37 ) (by decide) (by decide) (lenOf pd_17 rfl) rfl rfl rfl at_70 hs39 (by decide) (by decide) rfl ?_
        rintro _ T42 _ X42 ⟨rfl, N42q, hs42⟩
        have N42 := Fr.app N39 N42q
        by_cases hc73 : (own_ws x7_18) = (0 : Int32)
        · refine o_ifY X42 B 108 at_73 (XT.i0_eq_t hc73) rfl ?_
          refine o_iconst X42 B at_108 ?_
          exact hJ109_40 _ _ X42 N42 hs42 _ (by simp [own_and, hc59, hc73])
        · refine o_ifN X42 B at_73 (XT.i0_eq_f hc73) ?_
          refine o_iload X42 B at_76 rfl ?_
          refine o_iconst X42 B at_78 ?_
          refine o_icN X42 B at_79 (XT.ii_lt_f (by decide : ¬ ((3 : Int32) < (3 : Int32)))) ?_
          refine o_iload X42 B at_82 rfl ?_
          refine o_cS (argsL := [(.int x8_24)]) (rest := []) X42 B hZ hown (wd_58 hw) (wd_59 hw) (wd_60 hw) (wd_2 hw) (by decide) 0 (rmWs l Z a0 hw [] x8_24 T37.heap n0 Zp37 ) (by decide) (by decide) (lenOf pd_17 rfl) rfl rfl rfl at_84 hs42 (by decide) (by decide) rfl ?_
          rintro _ T43 _ X43 ⟨rfl, N43q, hs43⟩
          have N43 := Fr.app N42 N43q
          by_cases hc87 : (own_ws x8_24) = (0 : Int32)
          · refine o_ifY X43 B 108 at_87 (XT.i0_eq_t hc87) rfl ?_
            show own_G p e below Φ T43 (mkF m 108 #[.val (.int p0), .val (.int p1), .val (.int p2), .val (.int p3), .val (.int p4), .val (.int 3), .val (.int x6_12), .val (.int x7_18), .val (.int x8_24), .val (.int x9_31), .val (.ref so_37), .unset] [])
            refine o_iconst X43 B at_108 ?_
            exact hJ109_40 _ _ X43 N43 hs43 _ (by simp [own_and, hc59, hc73, hc87])
          · refine o_ifN X43 B at_87 (XT.i0_eq_f hc87) ?_
            show own_G p e below Φ T43 (mkF m 90 #[.val (.int p0), .val (.int p1), .val (.int p2), .val (.int p3), .val (.int p4), .val (.int 3), .val (.int x6_12), .val (.int x7_18), .val (.int x8_24), .val (.int x9_31), .val (.ref so_37), .unset] [])
            refine o_iload X43 B at_90 rfl ?_
            refine o_iconst X43 B at_92 ?_
            refine o_icY X43 B 104 at_93 (XT.ii_lt_t (by decide : ((3 : Int32) < (4 : Int32)))) rfl ?_
            refine o_iconst X43 B at_104 ?_
            refine o_goto X43 B 109 at_105 rfl ?_
            exact hJ109_40 _ _ X43 N43 hs43 _ (by simp [own_and, hc59, hc73, hc87])
  · refine o_iload X4 B at_33 rfl ?_
    show own_G p e below Φ T4 (mkF m 35 #[.val (.int p0), .val (.int p1), .val (.int p2), .val (.int p3), .val (.int p4), .val (.int 4), .val (.int x6_12), .val (.int x7_18), .val (.int x8_24), .val (.int x9_31), .unset, .unset] [(.int 4)])
    rcases own_e4 x6_12 x7_18 x8_24 x9_31 with ⟨hl0, hl1, hl2, hl3⟩ | hex
    · show own_G p e below Φ T4 (mkF m 35 #[.val (.int p0), .val (.int p1), .val (.int p2), .val (.int p3), .val (.int p4), .val (.int 4), .val (.int x6_12), .val (.int x7_18), .val (.int x8_24), .val (.int x9_31), .unset, .unset] [(.int 4)])
      refine o_iload X4 B at_35 rfl ?_
      refine o_iload X4 B at_37 rfl ?_
      refine o_iload X4 B at_39 rfl ?_
      refine o_iload X4 B at_41 rfl ?_
      refine o_cS (argsL := [(.int 4), (.int x6_12), (.int x7_18), (.int x8_24), (.int x9_31)]) (rest := []) X4 B hZ hown (wd_4 hw) (wd_5 hw) (wd_6 hw) (wd_2 hw) (by decide) 0 (rmTx_40 l Z a0 hw [] x6_12 x7_18 x8_24 x9_31 gz h0 n0 Z0 O0 S_COMPACT_STRINGS hgz hr0 hr1 hr2 hr3 hl0 hl1 hl2 hl3) (by decide) (by decide) (lenOf pd_18 rfl) rfl rfl rfl at_43 hs4 (by decide) (by decide) rfl ?_
      rintro _ T44 _ X44 ⟨so_44, ns_so_44, vb_44, ns_vb_44, kb_44, rfl, N44q, Kq44, p44_0, p44_1, p44_2, p44_3⟩
      have N44 := Fr.app N4 N44q
      have g_so_44 : n0 ≤ so_44 := Nat.le_trans Z0 ns_so_44
      have g_vb_44 : n0 ≤ vb_44 := Nat.le_trans Z0 ns_vb_44
      have Zp44 : n0 ≤ T44.heap.size := Nat.le_trans Z0 Kq44.1
      have hk44 := Nat.le_trans hk0 Kq44.1
      have O45 := O0.keep Kq44 all0
      refine o_astore (L' := #[.val (.int p0), .val (.int p1), .val (.int p2), .val (.int p3), .val (.int p4), .val (.int 4), .val (.int x6_12), .val (.int x7_18), .val (.int x8_24), .val (.int x9_31), .val (.ref so_44), .unset]) X44 B at_46 rfl rfl ?_
      refine o_iload X44 B at_48 rfl ?_
      refine o_iconst X44 B at_50 ?_
      show own_G p e below Φ T44 (mkF m 51 #[.val (.int p0), .val (.int p1), .val (.int p2), .val (.int p3), .val (.int p4), .val (.int 4), .val (.int x6_12), .val (.int x7_18), .val (.int x8_24), .val (.int x9_31), .val (.ref so_44), .unset] [(.int 1), (.int 4)])
      refine o_icN X44 B at_51 (XT.ii_lt_f (by decide : ¬ ((4 : Int32) < (1 : Int32)))) ?_
      refine o_iload X44 B at_54 rfl ?_
      refine o_cS (argsL := [(.int x6_12)]) (rest := []) X44 B hZ hown (wd_58 hw) (wd_59 hw) (wd_60 hw) (wd_2 hw) (by decide) 0 (rmWs l Z a0 hw [] x6_12 T44.heap n0 Zp44 ) (by decide) (by decide) (lenOf pd_17 rfl) rfl rfl rfl at_56 rfl (by decide) (by decide) rfl ?_
      rintro _ T46 _ X46 ⟨rfl, N46q, hs46⟩
      have N46 := Fr.app N44 N46q
      have hJ109_47 : ∀ (T' : State) (l' : List Loc), own_AlL X46 T' l' 3 12 → Fr n0 l' → T'.heap = T44.heap → ∀ (z11 : Int32), (z11 = (own_and (own_ws x6_12) (own_and (own_ws x7_18) (own_and (own_ws x8_24) (own_and (own_ws x9_31) (1 : Int32)))))) → own_G p e below Φ T' (mkF m 109 #[.val (.int p0), .val (.int p1), .val (.int p2), .val (.int p3), .val (.int p4), .val (.int 4), .val (.int x6_12), .val (.int x7_18), .val (.int x8_24), .val (.int x9_31), .val (.ref so_44), .unset] [(.int z11)]) := by
        intro T47 l47 X47' N47 e47 z11 h_z11
        have X47 : Stand _ _ _ _ _ _ _ _ _ _ T47 _ _ _ := X47'
        refine o_istore (L' := #[.val (.int p0), .val (.int p1), .val (.int p2), .val (.int p3), .val (.int p4), .val (.int 4), .val (.int x6_12), .val (.int x7_18), .val (.int x8_24), .val (.int x9_31), .val (.ref so_44), .val (.int z11)]) X47 B at_109 rfl ?_
        refine o_aload X47 B at_111 rfl rfl ?_
        refine o_cS (argsL := [(.ref so_44)]) (rest := []) X47 B hZ hown (wd_29 hw) (wd_30 hw) (wd_32 hw) (wd_31 hw) (by decide) 0 (rmSeq_40 l Z a0 hw [] so_44 gz rf vb_44 kb_44 x6_12 x7_18 x8_24 x9_31 T44.heap n0 Zp44 O45 S_COMPACT_STRINGS hgz S_SIOOBE_FORMATTER hrf p44_0 p44_2 p44_1 p44_3 hr0 hr1 hr2 hr3 hl0 hl1 hl2 hl3) (by decide) (by decide) (lenOf pd_19 rfl) rfl rfl rfl at_113 e47 (by decide) (by decide) rfl ?_
        rintro _ T48 _ X48 ⟨rfl, N48q, hs48⟩
        have N48 := Fr.app N47 N48q
        refine o_iload X48 B at_116 rfl ?_
        show own_G p e below Φ T48 (mkF m 118 #[.val (.int p0), .val (.int p1), .val (.int p2), .val (.int p3), .val (.int p4), .val (.int 4), .val (.int x6_12), .val (.int x7_18), .val (.int x8_24), .val (.int x9_31), .val (.ref so_44), .val (.int z11)] [(.int z11), (.int (own_and (own_ws x6_12) (own_and (own_ws x7_18) (own_and (own_ws x8_24) (own_and (own_ws x9_31) (1 : Int32))))))])
        refine o_icN X48 B at_118 (XT.ii_ne_f h_z11.symm) ?_
        refine o_iconst X48 B at_121 ?_
        refine o_goto X48 B 126 at_122 rfl ?_
        rw [hΦ]
        refine own_retW X48 hS0 (by rw [hs48]; exact hk44) (v := some (.int 1)) (fun h => by rw [Bd.returns] at h; cases h) (BodyLoose.notSynchronized Bd) (fun fs hr => retN X48 hx (t := .boolean) Bd.returns (by simp) (hb hby at_126) hr) ?_ (by decide) (by decide)
        rw [hs48]
        exact ⟨rfl, N48⟩
      by_cases hc59 : (own_ws x6_12) = (0 : Int32)
      · refine o_ifY X46 B 108 at_59 (XT.i0_eq_t hc59) rfl ?_
        refine o_iconst X46 B at_108 ?_
        exact hJ109_47 _ _ X46 N46 hs46 _ (by simp [own_and, hc59])
      · refine o_ifN X46 B at_59 (XT.i0_eq_f hc59) ?_
        refine o_iload X46 B at_62 rfl ?_
        refine o_iconst X46 B at_64 ?_
        refine o_icN X46 B at_65 (XT.ii_lt_f (by decide : ¬ ((4 : Int32) < (2 : Int32)))) ?_
        refine o_iload X46 B at_68 rfl ?_
        show own_G p e below Φ T46 (mkF m 70 #[.val (.int p0), .val (.int p1), .val (.int p2), .val (.int p3), .val (.int p4), .val (.int 4), .val (.int x6_12), .val (.int x7_18), .val (.int x8_24), .val (.int x9_31), .val (.ref so_44), .unset] [(.int x7_18)])
        refine o_cS (argsL := [(.int x7_18)]) (rest := []) X46 B hZ hown (wd_58 hw) (wd_59 hw) (wd_60 hw) (wd_2 hw) (by decide) 0 (rmWs l Z a0 hw [] x7_18 T44.heap n0 Zp44 ) (by decide) (by decide) (lenOf pd_17 rfl) rfl rfl rfl at_70 hs46 (by decide) (by decide) rfl ?_
        rintro _ T49 _ X49 ⟨rfl, N49q, hs49⟩
        have N49 := Fr.app N46 N49q
        by_cases hc73 : (own_ws x7_18) = (0 : Int32)
        · refine o_ifY X49 B 108 at_73 (XT.i0_eq_t hc73) rfl ?_
          refine o_iconst X49 B at_108 ?_
          exact hJ109_47 _ _ X49 N49 hs49 _ (by simp [own_and, hc59, hc73])
        · refine o_ifN X49 B at_73 (XT.i0_eq_f hc73) ?_
          refine o_iload X49 B at_76 rfl ?_
          refine o_iconst X49 B at_78 ?_
          refine o_icN X49 B at_79 (XT.ii_lt_f (by decide : ¬ ((4 : Int32) < (3 : Int32)))) ?_
          refine o_iload X49 B at_82 rfl ?_
          refine o_cS (argsL := [(.int x8_24)]) (rest := []) X49 B hZ hown (wd_58 hw) (wd_59 hw) (wd_60 hw) (wd_2 hw) (by decide) 0 (rmWs l Z a0 hw [] x8_24 T44.heap n0 Zp44 ) (by decide) (by decide) (lenOf pd_17 rfl) rfl rfl rfl at_84 hs49 (by decide) (by decide) rfl ?_
          rintro _ T50 _ X50 ⟨rfl, N50q, hs50⟩
          have N50 := Fr.app N49 N50q
          by_cases hc87 : (own_ws x8_24) = (0 : Int32)
          · refine o_ifY X50 B 108 at_87 (XT.i0_eq_t hc87) rfl ?_
            show own_G p e below Φ T50 (mkF m 108 #[.val (.int p0), .val (.int p1), .val (.int p2), .val (.int p3), .val (.int p4), .val (.int 4), .val (.int x6_12), .val (.int x7_18), .val (.int x8_24), .val (.int x9_31), .val (.ref so_44), .unset] [])
            refine o_iconst X50 B at_108 ?_
            exact hJ109_47 _ _ X50 N50 hs50 _ (by simp [own_and, hc59, hc73, hc87])
          · refine o_ifN X50 B at_87 (XT.i0_eq_f hc87) ?_
            show own_G p e below Φ T50 (mkF m 90 #[.val (.int p0), .val (.int p1), .val (.int p2), .val (.int p3), .val (.int p4), .val (.int 4), .val (.int x6_12), .val (.int x7_18), .val (.int x8_24), .val (.int x9_31), .val (.ref so_44), .unset] [])
            refine o_iload X50 B at_90 rfl ?_
            refine o_iconst X50 B at_92 ?_
            refine o_icN X50 B at_93 (XT.ii_lt_f (by decide : ¬ ((4 : Int32) < (4 : Int32)))) ?_
            refine o_iload X50 B at_96 rfl ?_
            refine o_cS (argsL := [(.int x9_31)]) (rest := []) X50 B hZ hown (wd_58 hw) (wd_59 hw) (wd_60 hw) (wd_2 hw) (by decide) 0 (rmWs l Z a0 hw [] x9_31 T44.heap n0 Zp44 ) (by decide) (by decide) (lenOf pd_17 rfl) rfl rfl rfl at_98 hs50 (by decide) (by decide) rfl ?_
            rintro _ T51 _ X51 ⟨rfl, N51q, hs51⟩
            have N51 := Fr.app N50 N51q
            by_cases hc101 : (own_ws x9_31) = (0 : Int32)
            · refine o_ifY X51 B 108 at_101 (XT.i0_eq_t hc101) rfl ?_
              refine o_iconst X51 B at_108 ?_
              exact hJ109_47 _ _ X51 N51 hs51 _ (by simp [own_and, hc59, hc73, hc87, hc101])
            · refine o_ifN X51 B at_101 (XT.i0_eq_f hc101) ?_
              refine o_iconst X51 B at_104 ?_
              refine o_goto X51 B 109 at_105 rfl ?_
              exact hJ109_47 _ _ X51 N51 hs51 _ (by simp [own_and, hc59, hc73, hc87, hc101])
    · show own_G p e below Φ T4 (mkF m 35 #[.val (.int p0), .val (.int p1), .val (.int p2), .val (.int p3), .val (.int p4), .val (.int 4), .val (.int x6_12), .val (.int x7_18), .val (.int x8_24), .val (.int x9_31), .unset, .unset] [(.int 4)])
      refine o_iload X4 B at_35 rfl ?_
      refine o_iload X4 B at_37 rfl ?_
      refine o_iload X4 B at_39 rfl ?_
      refine o_iload X4 B at_41 rfl ?_
      refine o_cS (argsL := [(.int 4), (.int x6_12), (.int x7_18), (.int x8_24), (.int x9_31)]) (rest := []) X4 B hZ hown (wd_4 hw) (wd_5 hw) (wd_6 hw) (wd_2 hw) (by decide) 0 (rmTx_41 l Z a0 hw [] x6_12 x7_18 x8_24 x9_31 gz h0 n0 Z0 O0 S_COMPACT_STRINGS hgz S__assertionsDisabled S_HI_BYTE_SHIFT S_LO_BYTE_SHIFT hr0 hr1 hr2 hr3 hex) (by decide) (by decide) (lenOf pd_18 rfl) rfl rfl rfl at_43 hs4 (by decide) (by decide) rfl ?_
      rintro _ T52 _ X52 ⟨so_52, ns_so_52, vb_52, ns_vb_52, kb_52, rfl, N52q, Kq52, p52_0, p52_1, p52_2, p52_3⟩
      have N52 := Fr.app N4 N52q
      have g_so_52 : n0 ≤ so_52 := Nat.le_trans Z0 ns_so_52
      have g_vb_52 : n0 ≤ vb_52 := Nat.le_trans Z0 ns_vb_52
      have Zp52 : n0 ≤ T52.heap.size := Nat.le_trans Z0 Kq52.1
      have hk52 := Nat.le_trans hk0 Kq52.1
      have O53 := O0.keep Kq52 all0
      refine o_astore (L' := #[.val (.int p0), .val (.int p1), .val (.int p2), .val (.int p3), .val (.int p4), .val (.int 4), .val (.int x6_12), .val (.int x7_18), .val (.int x8_24), .val (.int x9_31), .val (.ref so_52), .unset]) X52 B at_46 rfl rfl ?_
      refine o_iload X52 B at_48 rfl ?_
      refine o_iconst X52 B at_50 ?_
      show own_G p e below Φ T52 (mkF m 51 #[.val (.int p0), .val (.int p1), .val (.int p2), .val (.int p3), .val (.int p4), .val (.int 4), .val (.int x6_12), .val (.int x7_18), .val (.int x8_24), .val (.int x9_31), .val (.ref so_52), .unset] [(.int 1), (.int 4)])
      refine o_icN X52 B at_51 (XT.ii_lt_f (by decide : ¬ ((4 : Int32) < (1 : Int32)))) ?_
      refine o_iload X52 B at_54 rfl ?_
      refine o_cS (argsL := [(.int x6_12)]) (rest := []) X52 B hZ hown (wd_58 hw) (wd_59 hw) (wd_60 hw) (wd_2 hw) (by decide) 0 (rmWs l Z a0 hw [] x6_12 T52.heap n0 Zp52 ) (by decide) (by decide) (lenOf pd_17 rfl) rfl rfl rfl at_56 rfl (by decide) (by decide) rfl ?_
      rintro _ T54 _ X54 ⟨rfl, N54q, hs54⟩
      have N54 := Fr.app N52 N54q
      have hJ109_55 : ∀ (T' : State) (l' : List Loc), own_AlL X54 T' l' 4 20 → Fr n0 l' → T'.heap = T52.heap → ∀ (z11 : Int32), (z11 = (own_and (own_ws x6_12) (own_and (own_ws x7_18) (own_and (own_ws x8_24) (own_and (own_ws x9_31) (1 : Int32)))))) → own_G p e below Φ T' (mkF m 109 #[.val (.int p0), .val (.int p1), .val (.int p2), .val (.int p3), .val (.int p4), .val (.int 4), .val (.int x6_12), .val (.int x7_18), .val (.int x8_24), .val (.int x9_31), .val (.ref so_52), .unset] [(.int z11)]) := by
        intro T55 l55 X55' N55 e55 z11 h_z11
        have X55 : Stand _ _ _ _ _ _ _ _ _ _ T55 _ _ _ := X55'
        refine o_istore (L' := #[.val (.int p0), .val (.int p1), .val (.int p2), .val (.int p3), .val (.int p4), .val (.int 4), .val (.int x6_12), .val (.int x7_18), .val (.int x8_24), .val (.int x9_31), .val (.ref so_52), .val (.int z11)]) X55 B at_109 rfl ?_
        refine o_aload X55 B at_111 rfl rfl ?_
        refine o_cS (argsL := [(.ref so_52)]) (rest := []) X55 B hZ hown (wd_29 hw) (wd_30 hw) (wd_32 hw) (wd_31 hw) (by decide) 0 (rmSeq_41 l Z a0 hw [] so_52 gz rf vb_52 kb_52 x6_12 x7_18 x8_24 x9_31 T52.heap n0 Zp52 O53 S_COMPACT_STRINGS hgz S_SIOOBE_FORMATTER hrf S__assertionsDisabled S_HI_BYTE_SHIFT S_LO_BYTE_SHIFT p52_0 p52_2 p52_1 p52_3 hr0 hr1 hr2 hr3) (by decide) (by decide) (lenOf pd_19 rfl) rfl rfl rfl at_113 e55 (by decide) (by decide) rfl ?_
        rintro _ T56 _ X56 ⟨rfl, N56q, hs56⟩
        have N56 := Fr.app N55 N56q
        refine o_iload X56 B at_116 rfl ?_
        show own_G p e below Φ T56 (mkF m 118 #[.val (.int p0), .val (.int p1), .val (.int p2), .val (.int p3), .val (.int p4), .val (.int 4), .val (.int x6_12), .val (.int x7_18), .val (.int x8_24), .val (.int x9_31), .val (.ref so_52), .val (.int z11)] [(.int z11), (.int (own_and (own_ws x6_12) (own_and (own_ws x7_18) (own_and (own_ws x8_24) (own_and (own_ws x9_31) (1 : Int32))))))])
        refine o_icN X56 B at_118 (XT.ii_ne_f h_z11.symm) ?_
        refine o_iconst X56 B at_121 ?_
        refine o_goto X56 B 126 at_122 rfl ?_
        rw [hΦ]
        refine own_retW X56 hS0 (by rw [hs56]; exact hk52) (v := some (.int 1)) (fun h => by rw [Bd.returns] at h; cases h) (BodyLoose.notSynchronized Bd) (fun fs hr => retN X56 hx (t := .boolean) Bd.returns (by simp) (hb hby at_126) hr) ?_ (by decide) (by decide)
        rw [hs56]
        exact ⟨rfl, N56⟩
      by_cases hc59 : (own_ws x6_12) = (0 : Int32)
      · refine o_ifY X54 B 108 at_59 (XT.i0_eq_t hc59) rfl ?_
        refine o_iconst X54 B at_108 ?_
        exact hJ109_55 _ _ X54 N54 hs54 _ (by simp [own_and, hc59])
      · refine o_ifN X54 B at_59 (XT.i0_eq_f hc59) ?_
        refine o_iload X54 B at_62 rfl ?_
        refine o_iconst X54 B at_64 ?_
        refine o_icN X54 B at_65 (XT.ii_lt_f (by decide : ¬ ((4 : Int32) < (2 : Int32)))) ?_
        refine o_iload X54 B at_68 rfl ?_
        show own_G p e below Φ T54 (mkF m 70 #[.val (.int p0), .val (.int p1), .val (.int p2), .val (.int p3), .val (.int p4), .val (.int 4), .val (.int x6_12), .val (.int x7_18), .val (.int x8_24), .val (.int x9_31), .val (.ref so_52), .unset] [(.int x7_18)])
        refine o_cS (argsL := [(.int x7_18)]) (rest := []) X54 B hZ hown (wd_58 hw) (wd_59 hw) (wd_60 hw) (wd_2 hw) (by decide) 0 (rmWs l Z a0 hw [] x7_18 T52.heap n0 Zp52 ) (by decide) (by decide) (lenOf pd_17 rfl) rfl rfl rfl at_70 hs54 (by decide) (by decide) rfl ?_
        rintro _ T57 _ X57 ⟨rfl, N57q, hs57⟩
        have N57 := Fr.app N54 N57q
        by_cases hc73 : (own_ws x7_18) = (0 : Int32)
        · refine o_ifY X57 B 108 at_73 (XT.i0_eq_t hc73) rfl ?_
          refine o_iconst X57 B at_108 ?_
          exact hJ109_55 _ _ X57 N57 hs57 _ (by simp [own_and, hc59, hc73])
        · refine o_ifN X57 B at_73 (XT.i0_eq_f hc73) ?_
          refine o_iload X57 B at_76 rfl ?_
          refine o_iconst X57 B at_78 ?_
          refine o_icN X57 B at_79 (XT.ii_lt_f (by decide : ¬ ((4 : Int32) < (3 : Int32)))) ?_
          refine o_iload X57 B at_82 rfl ?_
          refine o_cS (argsL := [(.int x8_24)]) (rest := []) X57 B hZ hown (wd_58 hw) (wd_59 hw) (wd_60 hw) (wd_2 hw) (by decide) 0 (rmWs l Z a0 hw [] x8_24 T52.heap n0 Zp52 ) (by decide) (by decide) (lenOf pd_17 rfl) rfl rfl rfl at_84 hs57 (by decide) (by decide) rfl ?_
          rintro _ T58 _ X58 ⟨rfl, N58q, hs58⟩
          have N58 := Fr.app N57 N58q
          by_cases hc87 : (own_ws x8_24) = (0 : Int32)
          · refine o_ifY X58 B 108 at_87 (XT.i0_eq_t hc87) rfl ?_
            show own_G p e below Φ T58 (mkF m 108 #[.val (.int p0), .val (.int p1), .val (.int p2), .val (.int p3), .val (.int p4), .val (.int 4), .val (.int x6_12), .val (.int x7_18), .val (.int x8_24), .val (.int x9_31), .val (.ref so_52), .unset] [])
            refine o_iconst X58 B at_108 ?_
            exact hJ109_55 _ _ X58 N58 hs58 _ (by simp [own_and, hc59, hc73, hc87])
          · refine o_ifN X58 B at_87 (XT.i0_eq_f hc87) ?_
            show own_G p e below Φ T58 (mkF m 90 #[.val (.int p0), .val (.int p1), .val (.int p2), .val (.int p3), .val (.int p4), .val (.int 4), .val (.int x6_12), .val (.int x7_18), .val (.int x8_24), .val (.int x9_31), .val (.ref so_52), .unset] [])
            refine o_iload X58 B at_90 rfl ?_
            refine o_iconst X58 B at_92 ?_
            refine o_icN X58 B at_93 (XT.ii_lt_f (by decide : ¬ ((4 : Int32) < (4 : Int32)))) ?_
            refine o_iload X58 B at_96 rfl ?_
            refine o_cS (argsL := [(.int x9_31)]) (rest := []) X58 B hZ hown (wd_58 hw) (wd_59 hw) (wd_60 hw) (wd_2 hw) (by decide) 0 (rmWs l Z a0 hw [] x9_31 T52.heap n0 Zp52 ) (by decide) (by decide) (lenOf pd_17 rfl) rfl rfl rfl at_98 hs58 (by decide) (by decide) rfl ?_
            rintro _ T59 _ X59 ⟨rfl, N59q, hs59⟩
            have N59 := Fr.app N58 N59q
            by_cases hc101 : (own_ws x9_31) = (0 : Int32)
            · refine o_ifY X59 B 108 at_101 (XT.i0_eq_t hc101) rfl ?_
              refine o_iconst X59 B at_108 ?_
              exact hJ109_55 _ _ X59 N59 hs59 _ (by simp [own_and, hc59, hc73, hc87, hc101])
            · refine o_ifN X59 B at_101 (XT.i0_eq_f hc101) ?_
              refine o_iconst X59 B at_104 ?_
              refine o_goto X59 B 109 at_105 rfl ?_
              exact hJ109_55 _ _ X59 N59 hs59 _ (by simp [own_and, hc59, hc73, hc87, hc101])
set_option maxRecDepth 65536 in
set_option maxHeartbeats 40000000 in
theorem comes_1 {Post : Tables → Env → Array Value → State → Outcome → State → Prop} (hpost : ∀ tb e args s v u, (limb_1_1.after args s (.returned v) u = true ∧ limb_1_2.after args s (.returned v) u = true ∧ True) → ReturnedEndW s (.returned v) u (Jvm.fieldLocs frame_1_writes args s ++ Jvm.arrayLocs frame_1_arrays args s ++ Jvm.staticLocs frame_1_statics s) 24 1152 → Post tb e args s (.returned v) u) :
    ArmFor flags0 classFile x code maxLocals ret World_1 tables_1 room_1 Calls_1 rest_1 Pre_1 Post := by
  intro l hfl _ _ p e ha hc hk s m args below hf hA hF happ hP
  obtain ⟨hcalls, hrest, hpre⟩ := hP
  obtain ⟨-, -, -, hnamed, -, -, -, hat⟩ := (Spec.applies_iff hf).mp happ
  obtain ⟨hg, hn⟩ := and_e (Cond.before_iff.mp (show (Jvm.Cond.and given_1 narrow_1).before args s = true from hpre))
  obtain ⟨g1, g2⟩ := and_e hg
  obtain ⟨g3, g4⟩ := and_e g2
  obtain ⟨g5, g6⟩ := and_e g4
  obtain ⟨g7, g8⟩ := and_e g6
  obtain ⟨g9, g10⟩ := and_e g8
  obtain ⟨w0, w1, w2, w3, w4, rfl⟩ : ∃ w0 w1 w2 w3 w4 : Value, args = #[w0, w1, w2, w3, w4] := by
    have hs : args.size = 5 := by simpa [Cond.value, given_1] using g1
    obtain ⟨L⟩ := args
    match L, hs with
    | [w0, w1, w2, w3, w4], _ => exact ⟨w0, w1, w2, w3, w4, rfl⟩
  have hw := fun d (hd : d ∈ tables_1) => atoms_spec (ws := Jvm.Cond.code x code maxLocals ret :: tables_1) hat d (List.mem_cons_of_mem _ hd)
  obtain ⟨i0, ei0⟩ := is_v g3
  obtain rfl : w0 = (.int i0) := Option.some.inj ei0
  obtain ⟨i1, ei1⟩ := is_v g5
  obtain rfl : w1 = (.int i1) := Option.some.inj ei1
  obtain ⟨i2, ei2⟩ := is_v g7
  obtain rfl : w2 = (.int i2) := Option.some.inj ei2
  obtain ⟨i3, ei3⟩ := is_v g9
  obtain rfl : w3 = (.int i3) := Option.some.inj ei3
  obtain ⟨i4, ei4⟩ := is_v g10
  obtain rfl : w4 = (.int i4) := Option.some.inj ei4
  obtain ⟨hsets, hown0⟩ := atoms_of _ (rest_1_c_eq ▸ (show rest_1_c.before _ s = true from hrest))
  have n3 := not_v (Cond.before_iff.mp (hsets _ (List.mem_of_getElem? (i := 2) rfl)))
  obtain ⟨gz, e6⟩ := is_v (Cond.before_iff.mp (hsets _ (List.mem_of_getElem? (i := 1) rfl)))
  have S1 : Sta s s.heap "java/lang/String" "COMPACT_STRINGS" "Z" (.int gz) := Sta.start e6 (Or.inl (hsets _ (List.mem_of_getElem? (i := 0) rfl)))
  have hgz : ¬ gz = (0 : Int32) := gotF (Cond.eq_ints e6 (Term.int_eval (0))) n3
  obtain ⟨rf, e7, hrf⟩ := isR_v (Cond.before_iff.mp (hsets _ (List.mem_of_getElem? (i := 8) rfl)))
  have S2 : Sta s s.heap "jdk/internal/util/Preconditions" "SIOOBE_FORMATTER" "Ljava/util/function/BiFunction;" rf := Sta.start e7 (Or.inl (hsets _ (List.mem_of_getElem? (i := 7) rfl)))
  obtain ⟨v0, a0, b0⟩ := Cond.eq_worth (Cond.before_iff.mp (hsets _ (List.mem_of_getElem? (i := 12) rfl)))
  obtain rfl : v0 = .int (1 : Int32) := Option.some.inj (b0.symm.trans (Term.int_eval (1)))
  have S3 : Sta s s.heap "java/lang/StringUTF16" "$assertionsDisabled" "Z" (.int 1) := Sta.start a0 (Or.inl (hsets _ (List.mem_of_getElem? (i := 11) rfl)))
  obtain ⟨v1, a1, b1⟩ := Cond.eq_worth (Cond.before_iff.mp (hsets _ (List.mem_of_getElem? (i := 15) rfl)))
  obtain rfl : v1 = .int (0 : Int32) := Option.some.inj (b1.symm.trans (Term.int_eval (0)))
  have S4 : Sta s s.heap "java/lang/StringUTF16" "HI_BYTE_SHIFT" "I" (.int 0) := Sta.start a1 (Or.inl (hsets _ (List.mem_of_getElem? (i := 14) rfl)))
  obtain ⟨v2, a2, b2⟩ := Cond.eq_worth (Cond.before_iff.mp (hsets _ (List.mem_of_getElem? (i := 18) rfl)))
  obtain rfl : v2 = .int (8 : Int32) := Option.some.inj (b2.symm.trans (Term.int_eval (8)))
  have S5 : Sta s s.heap "java/lang/StringUTF16" "LO_BYTE_SHIFT" "I" (.int 8) := Sta.start a2 (Or.inl (hsets _ (List.mem_of_getElem? (i := 17) rfl)))
  have hch : Jvm.Lit.constHeld s "java/lang/String" 7 := hcalls.1 ("java/lang/String", 7) (by simp [consts_1])
  have hcw : Jvm.Lit.compactW.before _ s = true := (hsets _ (List.mem_of_getElem? (i := 2) rfl))
  obtain ⟨n, o, h1, h2, h3, _, L, rfl, ⟨rfl, N⟩, hq⟩ := rm0 l s _ hw tables_1 i0 i1 i2 i3 i4 gz rf s.heap s.heap.size (Nat.le_refl _) (Old.start s) S1 hgz S2 hrf S3 S4 S5 hch hcw p e ha hc hk s m _ below hf ((Spec.applies_iff_loose hf).mp happ).1 ⟨rfl, State.Warmed39.refl s, rfl, IB.start⟩ trivial
  refine ⟨n, _, h1, h2, h3, hpost _ _ _ _ _ _ ⟨Cond.after_iff.mpr rfl, Cond.after_iff.mpr (eq_i res_at (Term.int_eval (1)) rfl), trivial⟩ ⟨hq.1, hq.2.1, hq.2.2.1, (hq.2.2.2.sift fun y hy => Or.inr (N y hy)).mono (by decide) (by decide)⟩⟩
theorem main_1_1 : Claimed_1_1 := comes_1 fun _ _ _ _ _ _ h hF => ⟨h.1, hF⟩
theorem main_1_2 : Claimed_1_2 := comes_1 fun _ _ _ _ _ _ h hF => ⟨h.2.1, hF⟩
end Jvm.Pilot.@@N@@
namespace Jvm.Pilot.@@N@@
open Jvm Jvm.ClassFile Sem Op Lib Jvm.Free Jvm.Stand Jvm.Pilot.@@N@@.Jvm.D
/-! MADE BY PROGRAM (witnessworld.py) out of the Statement's table words and the real class files: 20 classes; the members and pool entries that the words name. The judged class is class 1, her method 4. -/
namespace start1
open Jvm.ClassFile
def u (s : String) : CpInfo := .utf8 (stringToUtf16 s)
/-- a pool by its gaps: so many unusable entries, then the entry; so many at the end -/
def gap : Nat → List CpInfo → List CpInfo
  | 0, r => r
  | n + 1, r => .unusable :: gap n r
def poolList (es : List (Nat × CpInfo)) (last : Nat) : List CpInfo := es.foldr (fun e r => gap e.1 (e.2 :: r)) (gap last [])
def pool (es : List (Nat × CpInfo)) (last : Nat) : Array CpInfo := ⟨poolList es last⟩
def fileOf (pool : Array CpInfo) (this : Nat) (attrs : Array Attribute := #[]) (ms : Array MethodInfo := #[]) (fl : Nat := 33) (sup : Nat := 0) (ifs : Array Nat := #[]) (fds : Array FieldInfo := #[]) : ClassFile where
  minorVersion := 0
  majorVersion := 65
  constantPool := pool
  accessFlags := fl
  thisClass := this
  superClass := sup
  interfaces := ifs
  fields := fds
  methods := ms
  attributes := attrs
def plain (name : String) (sup : Option ClassId) : Class where
  name := name
  kind := .ordinary
  loader := none
  accessFlags := 33
  super := sup
  interfaces := #[]
  cf := none
  fields := #[]
  methods := #[]
  instanceTypes := #[]
  staticTypes := #[]
  resolved := #[]
  callSites := []
  init := .initialized
  statics := none
  mirror := none

def pool0 : Array CpInfo := pool [(5, u "<init>"), (0, u "()V"), (1, .class_ 10), (1, u "java/lang/Object")] 113

def k0c0 : Code := { maxStack := 0, maxLocals := 1, code := object_method_1_code, exceptionTable := #[], attributes := #[] }
def k0m0 : Method := { name := "<init>", desc := "()V", sig := { parameters := [], returnType := none }, accessFlags := 1, code := some k0c0 }
/-- java/lang/Object -/
def k0 : Class := { plain "java/lang/Object" none with
  accessFlags := 33
  interfaces := #[]
  cf := some (fileOf pool0 8 #[] #[{ accessFlags := 1, nameIndex := 5, descriptorIndex := 6, attributes := #[] }] 33 0 #[] #[])
  fields := #[]
  methods := #[k0m0]
  instanceTypes := #[]
  staticTypes := #[]
  resolved := Array.replicate 124 none
  statics := none }

def pool1 : Array CpInfo := pool [(2, .class_ 4), (1, u "java/lang/Object"), (0, u "<init>"), (0, u "()V"), (0, .integer 65535), (0, .class_ 9), (0, u "java/lang/String"), (0, .methodref 8 11), (0, .nameAndType 5 12), (0, u "([C)V"), (0, .methodref 14 15), (0, .class_ 16), (0, .nameAndType 17 18), (0, u "com/example/edgewarden/edgewarden/xacml/XacmlSyntaxIsWhiteSpacePinLaw"), (0, u "pick"), (0, u "(I)C"), (0, .methodref 14 20), (0, .nameAndType 21 22), (0, u "text"), (0, u "(ICCCC)Ljava/lang/String;"), (0, .methodref 14 24), (0, .nameAndType 25 26), (0, u "ws"), (0, u "(C)Z"), (0, .methodref 28 29), (0, .class_ 30), (0, .nameAndType 31 32), (0, u "com/example/edgewarden/edgewarden/xacml/XacmlSyntax"), (0, u "isWhiteSpace"), (0, u "(Ljava/lang/CharSequence;)Z"), (3, u "law"), (0, u "(IIIII)Z")] 2

def k1m0 : Method := { name := "<init>", desc := "()V", sig := { parameters := [], returnType := none }, accessFlags := 2, code := none }
def k1c1 : Code := { maxStack := 2, maxLocals := 2, code := method_2_code, exceptionTable := #[], attributes := #[] }
def k1m1 : Method := { name := "pick", desc := "(I)C", sig := { parameters := [.int], returnType := some .char }, accessFlags := 10, code := some k1c1 }
def k1c2 : Code := { maxStack := 2, maxLocals := 1, code := method_3_code, exceptionTable := #[], attributes := #[] }
def k1m2 : Method := { name := "ws", desc := "(C)Z", sig := { parameters := [.char], returnType := some .boolean }, accessFlags := 10, code := some k1c2 }
def k1c3 : Code := { maxStack := 6, maxLocals := 5, code := method_4_code, exceptionTable := #[], attributes := #[] }
def k1m3 : Method := { name := "text", desc := "(ICCCC)Ljava/lang/String;", sig := { parameters := [.int, .char, .char, .char, .char], returnType := some (.object "java/lang/String") }, accessFlags := 10, code := some k1c3 }
def k1c4 : Code := { maxStack := 5, maxLocals := 12, code := code, exceptionTable := #[], attributes := #[] }
def k1m4 : Method := { name := "law", desc := "(IIIII)Z", sig := { parameters := [.int, .int, .int, .int, .int], returnType := some .boolean }, accessFlags := 9, code := some k1c4 }
/-- com/example/edgewarden/edgewarden/xacml/XacmlSyntaxIsWhiteSpacePinLaw -/
def k1 : Class := { plain "com/example/edgewarden/edgewarden/xacml/XacmlSyntaxIsWhiteSpacePinLaw" (some 0) with
  accessFlags := 49
  interfaces := #[]
  cf := some (fileOf pool1 14 #[] #[{ accessFlags := 2, nameIndex := 5, descriptorIndex := 6, attributes := #[] }, { accessFlags := 10, nameIndex := 17, descriptorIndex := 18, attributes := #[] }, { accessFlags := 10, nameIndex := 25, descriptorIndex := 26, attributes := #[] }, { accessFlags := 10, nameIndex := 21, descriptorIndex := 22, attributes := #[] }, { accessFlags := 9, nameIndex := 36, descriptorIndex := 37, attributes := #[] }] 49 2 #[] #[])
  fields := #[]
  methods := #[k1m0, k1m1, k1m2, k1m3, k1m4]
  instanceTypes := #[]
  staticTypes := #[]
  resolved := Array.replicate 40 none
  statics := none }

def pool2 : Array CpInfo := pool [(1, .class_ 2), (0, u "java/io/Serializable"), (0, .class_ 4), (0, u "java/lang/Object")] 2

/-- java/io/Serializable -/
def k2 : Class := { plain "java/io/Serializable" (some 0) with
  accessFlags := 1537
  interfaces := #[]
  cf := some (fileOf pool2 1 #[] #[] 1537 3 #[] #[])
  fields := #[]
  methods := #[]
  instanceTypes := #[]
  staticTypes := #[]
  resolved := Array.replicate 7 none
  statics := none }

def pool3 : Array CpInfo := pool [(1, .class_ 2), (0, u "java/lang/Comparable"), (0, .class_ 4), (0, u "java/lang/Object")] 7

/-- java/lang/Comparable -/
def k3 : Class := { plain "java/lang/Comparable" (some 0) with
  accessFlags := 1537
  interfaces := #[]
  cf := some (fileOf pool3 1 #[] #[] 1537 3 #[] #[])
  fields := #[]
  methods := #[]
  instanceTypes := #[]
  staticTypes := #[]
  resolved := Array.replicate 12 none
  statics := none }

def pool4 : Array CpInfo := pool [(2, .class_ 4), (1, u "java/lang/CharSequence"), (0, u "length"), (0, u "()I"), (38, u "charAt"), (0, u "(I)C"), (0, .class_ 48), (0, u "java/lang/CharSequence$1CodePointIterator"), (10, .class_ 60), (0, u "java/lang/CharSequence$1CharIterator"), (5, .class_ 67), (0, u "java/lang/Object")] 63

def k4m0 : Method := { name := "length", desc := "()I", sig := { parameters := [], returnType := some .int }, accessFlags := 1025, code := none }
def k4m1 : Method := { name := "charAt", desc := "(I)C", sig := { parameters := [.int], returnType := some .char }, accessFlags := 1025, code := none }
/-- java/lang/CharSequence -/
def k4 : Class := { plain "java/lang/CharSequence" (some 0) with
  accessFlags := 1537
  interfaces := #[]
  cf := some (fileOf pool4 2 #[.nestMembers #[47, 59]] #[{ accessFlags := 1025, nameIndex := 5, descriptorIndex := 6, attributes := #[] }, { accessFlags := 1025, nameIndex := 45, descriptorIndex := 46, attributes := #[] }] 1537 66 #[] #[])
  fields := #[]
  methods := #[k4m0, k4m1]
  instanceTypes := #[]
  staticTypes := #[]
  resolved := Array.replicate 131 none
  statics := none }

def pool5 : Array CpInfo := pool [(1, .class_ 2), (0, u "java/lang/constant/Constable"), (0, .class_ 4), (0, u "java/lang/Object")] 6

/-- java/lang/constant/Constable -/
def k5 : Class := { plain "java/lang/constant/Constable" (some 0) with
  accessFlags := 1537
  interfaces := #[]
  cf := some (fileOf pool5 1 #[] #[] 1537 3 #[] #[])
  fields := #[]
  methods := #[]
  instanceTypes := #[]
  staticTypes := #[]
  resolved := Array.replicate 11 none
  statics := none }

def pool6 : Array CpInfo := pool [(1, .class_ 2), (0, u "java/lang/constant/ConstantDesc"), (0, .class_ 4), (0, u "java/lang/Object")] 32

/-- java/lang/constant/ConstantDesc -/
def k6 : Class := { plain "java/lang/constant/ConstantDesc" (some 0) with
  accessFlags := 1537
  interfaces := #[]
  cf := some (fileOf pool6 1 #[] #[] 1537 3 #[] #[])
  fields := #[]
  methods := #[]
  instanceTypes := #[]
  staticTypes := #[]
  resolved := Array.replicate 37 none
  statics := none }

def pool7 : Array CpInfo := pool [(1, .methodref 2 3), (0, .class_ 4), (0, .nameAndType 5 6), (0, u "java/lang/Object"), (0, u "<init>"), (0, u "()V"), (0, .string 8), (0, u ""), (0, .fieldref 10 11), (0, .class_ 12), (0, .nameAndType 13 14), (0, u "java/lang/String"), (0, u "value"), (0, u "[B"), (0, .fieldref 10 16), (0, .nameAndType 17 18), (0, u "coder"), (0, u "B"), (2, u "hash"), (0, u "I"), (2, u "hashIsZero"), (0, u "Z"), (0, .methodref 10 28), (0, .nameAndType 5 29), (0, u "([CIILjava/lang/Void;)V"), (8, .fieldref 10 39), (0, .nameAndType 40 26), (0, u "COMPACT_STRINGS"), (1, .class_ 44), (1, u "java/lang/StringUTF16"), (0, u "compress"), (1, .methodref 42 48), (0, .nameAndType 49 50), (0, u "coderFromArrayLen"), (0, u "([BI)B"), (56, .class_ 109), (1, u "java/lang/StringLatin1"), (32, u "()Z"), (34, .methodref 42 178), (0, .nameAndType 45 179), (0, u "([CII)[B"), (154, u "()I"), (0, .methodref 10 336), (0, .nameAndType 17 337), (0, u "()B"), (25, u "([BI)C"), (27, u "(II)V"), (35, u "(I)C"), (64, .methodref 10 493), (0, .nameAndType 494 142), (0, u "isLatin1"), (0, .methodref 107 496), (0, .nameAndType 497 363), (0, u "charAt"), (0, .methodref 42 496), (2, u "checkIndex"), (5, u "length"), (67, .class_ 576), (0, u "java/lang/CharSequence"), (22, u "CASE_INSENSITIVE_ORDER"), (0, u "Ljava/util/Comparator;"), (409, u "([C)V"), (42, .fieldref 1054 1055), (0, .class_ 1056), (0, .nameAndType 1057 1058), (0, u "jdk/internal/util/Preconditions"), (0, u "SIOOBE_FORMATTER"), (0, u "Ljava/util/function/BiFunction;"), (0, .methodref 1054 1060), (0, .nameAndType 501 1061), (0, u "(IILjava/util/function/BiFunction;)I"), (39, u "serialPersistentFields"), (0, u "[Ljava/io/ObjectStreamField;"), (0, .class_ 1104), (0, u "java/lang/String$CaseInsensitiveComparator"), (1, .class_ 1107), (0, u "java/io/Serializable"), (0, .class_ 1109), (0, u "java/lang/Comparable"), (0, .class_ 1111), (0, u "java/lang/constant/Constable"), (0, .class_ 1113), (0, u "java/lang/constant/ConstantDesc"), (2, u "serialVersionUID"), (0, u "J"), (3, u "REPL"), (0, u "C"), (2, u "LATIN1"), (1, u "UTF16")] 323

def k7m0 : Method := { name := "<init>", desc := "()V", sig := { parameters := [], returnType := none }, accessFlags := 1, code := none }
def k7c1 : Code := { maxStack := 5, maxLocals := 2, code := jdk_42_method_3_code, exceptionTable := #[], attributes := #[] }
def k7m1 : Method := { name := "<init>", desc := "([C)V", sig := { parameters := [(.array .char)], returnType := none }, accessFlags := 1, code := some k7c1 }
def k7c2 : Code := { maxStack := 2, maxLocals := 1, code := jdk_42_method_54_code, exceptionTable := #[], attributes := #[] }
def k7m2 : Method := { name := "length", desc := "()I", sig := { parameters := [], returnType := some .int }, accessFlags := 1, code := some k7c2 }
def k7c3 : Code := { maxStack := 2, maxLocals := 2, code := jdk_42_method_56_code, exceptionTable := #[], attributes := #[] }
def k7m3 : Method := { name := "charAt", desc := "(I)C", sig := { parameters := [.int], returnType := some .char }, accessFlags := 1, code := some k7c3 }
def k7c4 : Code := { maxStack := 4, maxLocals := 6, code := jdk_42_method_149_code, exceptionTable := #[], attributes := #[] }
def k7m4 : Method := { name := "<init>", desc := "([CIILjava/lang/Void;)V", sig := { parameters := [(.array .char), .int, .int, (.object "java/lang/Void")], returnType := none }, accessFlags := 2, code := some k7c4 }
def k7c5 : Code := { maxStack := 1, maxLocals := 1, code := jdk_42_method_152_code, exceptionTable := #[], attributes := #[] }
def k7m5 : Method := { name := "coder", desc := "()B", sig := { parameters := [], returnType := some .byte }, accessFlags := 0, code := some k7c5 }
def k7c6 : Code := { maxStack := 1, maxLocals := 1, code := jdk_42_method_154_code, exceptionTable := #[], attributes := #[] }
def k7m6 : Method := { name := "isLatin1", desc := "()Z", sig := { parameters := [], returnType := some .boolean }, accessFlags := 0, code := some k7c6 }
def k7c7 : Code := { maxStack := 3, maxLocals := 2, code := jdk_42_method_155_code, exceptionTable := #[], attributes := #[] }
def k7m7 : Method := { name := "checkIndex", desc := "(II)V", sig := { parameters := [.int, .int], returnType := none }, accessFlags := 8, code := some k7c7 }
/-- java/lang/String -/
def k7 : Class := { plain "java/lang/String" (some 0) with
  accessFlags := 49
  interfaces := #[2, 3, 4, 5, 6]
  cf := some (fileOf pool7 10 #[.nestMembers #[1103]] #[{ accessFlags := 1, nameIndex := 5, descriptorIndex := 6, attributes := #[] }, { accessFlags := 1, nameIndex := 5, descriptorIndex := 1010, attributes := #[] }, { accessFlags := 1, nameIndex := 507, descriptorIndex := 334, attributes := #[] }, { accessFlags := 1, nameIndex := 497, descriptorIndex := 427, attributes := #[] }, { accessFlags := 2, nameIndex := 5, descriptorIndex := 29, attributes := #[] }, { accessFlags := 0, nameIndex := 17, descriptorIndex := 337, attributes := #[] }, { accessFlags := 0, nameIndex := 494, descriptorIndex := 142, attributes := #[] }, { accessFlags := 8, nameIndex := 501, descriptorIndex := 391, attributes := #[] }] 49 2 #[1106, 1108, 575, 1110, 1112] #[{ accessFlags := 18, nameIndex := 13, descriptorIndex := 14, attributes := #[] }, { accessFlags := 18, nameIndex := 17, descriptorIndex := 18, attributes := #[] }, { accessFlags := 2, nameIndex := 21, descriptorIndex := 22, attributes := #[] }, { accessFlags := 2, nameIndex := 25, descriptorIndex := 26, attributes := #[] }, { accessFlags := 26, nameIndex := 1116, descriptorIndex := 1117, attributes := #[] }, { accessFlags := 24, nameIndex := 40, descriptorIndex := 26, attributes := #[] }, { accessFlags := 26, nameIndex := 1101, descriptorIndex := 1102, attributes := #[] }, { accessFlags := 26, nameIndex := 1121, descriptorIndex := 1122, attributes := #[] }, { accessFlags := 25, nameIndex := 599, descriptorIndex := 600, attributes := #[] }, { accessFlags := 24, nameIndex := 1125, descriptorIndex := 18, attributes := #[] }, { accessFlags := 24, nameIndex := 1127, descriptorIndex := 18, attributes := #[] }])
  fields := #[{ name := "value", type := (.array .byte), accessFlags := 18, slot := 0, constantValue := 0 }, { name := "coder", type := .byte, accessFlags := 18, slot := 1, constantValue := 0 }, { name := "hash", type := .int, accessFlags := 2, slot := 2, constantValue := 0 }, { name := "hashIsZero", type := .boolean, accessFlags := 2, slot := 3, constantValue := 0 }, { name := "serialVersionUID", type := .long, accessFlags := 26, slot := 0, constantValue := 0 }, { name := "COMPACT_STRINGS", type := .boolean, accessFlags := 24, slot := 1, constantValue := 0 }, { name := "serialPersistentFields", type := (.array (.object "java/io/ObjectStreamField")), accessFlags := 26, slot := 2, constantValue := 0 }, { name := "REPL", type := .char, accessFlags := 26, slot := 3, constantValue := 0 }, { name := "CASE_INSENSITIVE_ORDER", type := (.object "java/util/Comparator"), accessFlags := 25, slot := 4, constantValue := 0 }, { name := "LATIN1", type := .byte, accessFlags := 24, slot := 5, constantValue := 0 }, { name := "UTF16", type := .byte, accessFlags := 24, slot := 6, constantValue := 0 }]
  methods := #[k7m0, k7m1, k7m2, k7m3, k7m4, k7m5, k7m6, k7m7]
  instanceTypes := #[(.array .byte), .byte, .int, .boolean]
  staticTypes := #[.long, .boolean, (.array (.object "java/io/ObjectStreamField")), .char, (.object "java/util/Comparator"), .byte, .byte]
  resolved := Array.replicate 1451 none
  statics := some 0 }

def pool8 : Array CpInfo := pool [(2, .class_ 4), (1, u "java/lang/Object"), (0, u "<init>"), (0, u "()V"), (10, .class_ 19), (1, u "com/example/edgewarden/edgewarden/xacml/XacmlSyntax"), (24, u "isWhiteSpace"), (0, u "(Ljava/lang/CharSequence;)Z"), (100, .nameAndType 147 148), (0, u "length"), (0, u "()I"), (10, .nameAndType 160 161), (0, u "charAt"), (0, u "(I)C"), (5, u "(C)Z"), (12, .interfaceMethodref 181 146), (0, .class_ 182), (0, u "java/lang/CharSequence"), (0, .interfaceMethodref 181 159), (0, .methodref 17 185), (0, .nameAndType 44 167), (0, u "XACML_NS"), (0, u "Ljava/lang/String;"), (1, u "QUOTE_LIMIT"), (0, u "I")] 46

def k8m0 : Method := { name := "<init>", desc := "()V", sig := { parameters := [], returnType := none }, accessFlags := 2, code := none }
def k8c1 : Code := { maxStack := 2, maxLocals := 2, code := prog_187_method_22_code, exceptionTable := #[], attributes := #[] }
def k8m1 : Method := { name := "isWhiteSpace", desc := "(Ljava/lang/CharSequence;)Z", sig := { parameters := [(.object "java/lang/CharSequence")], returnType := some .boolean }, accessFlags := 9, code := some k8c1 }
def k8c2 : Code := { maxStack := 2, maxLocals := 1, code := prog_187_method_24_code, exceptionTable := #[], attributes := #[] }
def k8m2 : Method := { name := "isWhiteSpace", desc := "(C)Z", sig := { parameters := [.char], returnType := some .boolean }, accessFlags := 8, code := some k8c2 }
/-- com/example/edgewarden/edgewarden/xacml/XacmlSyntax -/
def k8 : Class := { plain "com/example/edgewarden/edgewarden/xacml/XacmlSyntax" (some 0) with
  accessFlags := 33
  interfaces := #[]
  cf := some (fileOf pool8 17 #[] #[{ accessFlags := 2, nameIndex := 5, descriptorIndex := 6, attributes := #[] }, { accessFlags := 9, nameIndex := 44, descriptorIndex := 45, attributes := #[] }, { accessFlags := 8, nameIndex := 44, descriptorIndex := 167, attributes := #[] }] 33 2 #[] #[{ accessFlags := 25, nameIndex := 186, descriptorIndex := 187, attributes := #[] }, { accessFlags := 26, nameIndex := 189, descriptorIndex := 190, attributes := #[] }])
  fields := #[{ name := "XACML_NS", type := (.object "java/lang/String"), accessFlags := 25, slot := 0, constantValue := 0 }, { name := "QUOTE_LIMIT", type := .int, accessFlags := 26, slot := 1, constantValue := 0 }]
  methods := #[k8m0, k8m1, k8m2]
  instanceTypes := #[]
  staticTypes := #[(.object "java/lang/String"), .int]
  resolved := Array.replicate 237 none
  statics := none }

def pool9 : Array CpInfo := pool [(3, .class_ 4), (0, u "java/lang/String"), (1, .class_ 8), (1, u "java/lang/Object"), (0, u "<init>"), (0, u "()V"), (0, .methodref 12 13), (0, .class_ 14), (0, .nameAndType 15 16), (0, u "java/lang/StringUTF16"), (0, u "newBytesLength"), (0, u "(I)I"), (3, .integer 1073741823), (23, .fieldref 12 45), (0, .nameAndType 46 47), (0, u "$assertionsDisabled"), (0, u "Z"), (0, .methodref 12 49), (0, .nameAndType 50 51), (0, u "length"), (0, u "([B)I"), (7, .fieldref 12 60), (0, .nameAndType 61 62), (0, u "HI_BYTE_SHIFT"), (0, u "I"), (0, .fieldref 12 64), (0, .nameAndType 65 62), (0, u "LO_BYTE_SHIFT"), (1, .methodref 12 68), (0, .nameAndType 69 70), (0, u "checkIndex"), (0, u "(I[B)V"), (0, .methodref 12 72), (0, .nameAndType 73 74), (0, u "getChar"), (0, u "([BI)C"), (32, .methodref 12 108), (0, .nameAndType 109 110), (0, u "newBytesFor"), (0, u "(I)[B"), (0, .methodref 12 112), (0, .nameAndType 113 114), (0, u "putChar"), (0, u "([BII)V"), (0, .methodref 12 116), (0, .nameAndType 117 118), (0, u "compress"), (0, u "([CI[BII)I"), (0, .methodref 12 120), (0, .nameAndType 121 122), (0, u "toBytes"), (0, u "([CII)[B"), (138, u "coderFromArrayLen"), (0, u "([BI)B"), (106, .class_ 371), (1, u "java/lang/StringUTF16$LinesSpliterator"), (20, u "charAt"), (21, .methodref 3 415), (0, .nameAndType 69 416), (0, u "(II)V"), (13, u "MAX_LENGTH"), (196, .class_ 628), (0, u "java/lang/StringUTF16$CodePointsSpliterator"), (0, .class_ 630), (0, u "java/lang/StringUTF16$CharsSpliterator")] 4

def k9m0 : Method := { name := "<init>", desc := "()V", sig := { parameters := [], returnType := none }, accessFlags := 0, code := none }
def k9c1 : Code := { maxStack := 1, maxLocals := 1, code := jdk_52_method_2_code, exceptionTable := #[], attributes := #[] }
def k9m1 : Method := { name := "newBytesFor", desc := "(I)[B", sig := { parameters := [.int], returnType := some (.array .byte) }, accessFlags := 9, code := some k9c1 }
def k9c2 : Code := { maxStack := 4, maxLocals := 1, code := jdk_52_method_3_code, exceptionTable := #[], attributes := #[] }
def k9m2 : Method := { name := "newBytesLength", desc := "(I)I", sig := { parameters := [.int], returnType := some .int }, accessFlags := 9, code := some k9c2 }
def k9c3 : Code := { maxStack := 4, maxLocals := 3, code := jdk_52_method_4_code, exceptionTable := #[], attributes := #[] }
def k9m3 : Method := { name := "putChar", desc := "([BII)V", sig := { parameters := [(.array .byte), .int, .int], returnType := none }, accessFlags := 8, code := some k9c3 }
def k9c4 : Code := { maxStack := 3, maxLocals := 2, code := jdk_52_method_5_code, exceptionTable := #[], attributes := #[] }
def k9m4 : Method := { name := "getChar", desc := "([BI)C", sig := { parameters := [(.array .byte), .int], returnType := some .char }, accessFlags := 8, code := some k9c4 }
def k9c5 : Code := { maxStack := 2, maxLocals := 1, code := jdk_52_method_6_code, exceptionTable := #[], attributes := #[] }
def k9m5 : Method := { name := "length", desc := "([B)I", sig := { parameters := [(.array .byte)], returnType := some .int }, accessFlags := 9, code := some k9c5 }
def k9c6 : Code := { maxStack := 4, maxLocals := 5, code := jdk_52_method_14_code, exceptionTable := #[], attributes := #[] }
def k9m6 : Method := { name := "toBytes", desc := "([CII)[B", sig := { parameters := [(.array .char), .int, .int], returnType := some (.array .byte) }, accessFlags := 9, code := some k9c6 }
def k9c7 : Code := { maxStack := 2, maxLocals := 2, code := jdk_52_method_15_code, exceptionTable := #[], attributes := #[] }
def k9m7 : Method := { name := "coderFromArrayLen", desc := "([BI)B", sig := { parameters := [(.array .byte), .int], returnType := some .byte }, accessFlags := 8, code := some k9c7 }
def k9c8 : Code := { maxStack := 5, maxLocals := 6, code := jdk_52_method_16_code, exceptionTable := #[], attributes := #[] }
def k9m8 : Method := { name := "compress", desc := "([CII)[B", sig := { parameters := [(.array .char), .int, .int], returnType := some (.array .byte) }, accessFlags := 9, code := some k9c8 }
def k9c9 : Code := { maxStack := 3, maxLocals := 7, code := jdk_52_method_21_code, exceptionTable := #[], attributes := #[] }
def k9m9 : Method := { name := "compress", desc := "([CI[BII)I", sig := { parameters := [(.array .char), .int, (.array .byte), .int, .int], returnType := some .int }, accessFlags := 9, code := some k9c9 }
def k9c10 : Code := { maxStack := 2, maxLocals := 2, code := jdk_52_method_83_code, exceptionTable := #[], attributes := #[] }
def k9m10 : Method := { name := "charAt", desc := "([BI)C", sig := { parameters := [(.array .byte), .int], returnType := some .char }, accessFlags := 9, code := some k9c10 }
def k9c11 : Code := { maxStack := 2, maxLocals := 2, code := jdk_52_method_91_code, exceptionTable := #[], attributes := #[] }
def k9m11 : Method := { name := "checkIndex", desc := "(I[B)V", sig := { parameters := [.int, (.array .byte)], returnType := none }, accessFlags := 9, code := some k9c11 }
/-- java/lang/StringUTF16 -/
def k9 : Class := { plain "java/lang/StringUTF16" (some 0) with
  accessFlags := 48
  interfaces := #[]
  cf := some (fileOf pool9 12 #[.nestMembers #[627, 629, 369]] #[{ accessFlags := 0, nameIndex := 9, descriptorIndex := 10, attributes := #[] }, { accessFlags := 9, nameIndex := 109, descriptorIndex := 110, attributes := #[] }, { accessFlags := 9, nameIndex := 15, descriptorIndex := 16, attributes := #[] }, { accessFlags := 8, nameIndex := 113, descriptorIndex := 114, attributes := #[] }, { accessFlags := 8, nameIndex := 73, descriptorIndex := 74, attributes := #[] }, { accessFlags := 9, nameIndex := 50, descriptorIndex := 51, attributes := #[] }, { accessFlags := 9, nameIndex := 121, descriptorIndex := 122, attributes := #[] }, { accessFlags := 8, nameIndex := 261, descriptorIndex := 262, attributes := #[] }, { accessFlags := 9, nameIndex := 117, descriptorIndex := 122, attributes := #[] }, { accessFlags := 9, nameIndex := 117, descriptorIndex := 118, attributes := #[] }, { accessFlags := 9, nameIndex := 392, descriptorIndex := 74, attributes := #[] }, { accessFlags := 9, nameIndex := 69, descriptorIndex := 70, attributes := #[] }] 48 6 #[] #[{ accessFlags := 26, nameIndex := 61, descriptorIndex := 62, attributes := #[] }, { accessFlags := 26, nameIndex := 65, descriptorIndex := 62, attributes := #[] }, { accessFlags := 24, nameIndex := 430, descriptorIndex := 62, attributes := #[] }, { accessFlags := 4120, nameIndex := 46, descriptorIndex := 47, attributes := #[] }])
  fields := #[{ name := "HI_BYTE_SHIFT", type := .int, accessFlags := 26, slot := 0, constantValue := 0 }, { name := "LO_BYTE_SHIFT", type := .int, accessFlags := 26, slot := 1, constantValue := 0 }, { name := "MAX_LENGTH", type := .int, accessFlags := 24, slot := 2, constantValue := 0 }, { name := "$assertionsDisabled", type := .boolean, accessFlags := 4120, slot := 3, constantValue := 0 }]
  methods := #[k9m0, k9m1, k9m2, k9m3, k9m4, k9m5, k9m6, k9m7, k9m8, k9m9, k9m10, k9m11]
  instanceTypes := #[]
  staticTypes := #[.int, .int, .int, .boolean]
  resolved := Array.replicate 635 none
  statics := some 1 }

def pool10 : Array CpInfo := pool [(1, .class_ 2), (0, u "java/lang/String"), (1, .class_ 6), (1, u "java/lang/Object"), (0, u "<init>"), (0, u "()V"), (0, .methodref 1 10), (0, .nameAndType 11 12), (0, u "checkIndex"), (0, u "(II)V"), (1, .class_ 16), (1, u "java/lang/StringLatin1"), (36, u "([BI)C"), (67, u "$assertionsDisabled"), (0, u "Z"), (98, .class_ 223), (1, u "java/lang/StringLatin1$LinesSpliterator"), (28, u "charAt"), (137, .class_ 391), (0, u "java/lang/StringLatin1$CharsSpliterator")] 3

def k10m0 : Method := { name := "<init>", desc := "()V", sig := { parameters := [], returnType := none }, accessFlags := 0, code := none }
def k10c1 : Code := { maxStack := 2, maxLocals := 2, code := jdk_43_method_2_code, exceptionTable := #[], attributes := #[] }
def k10m1 : Method := { name := "charAt", desc := "([BI)C", sig := { parameters := [(.array .byte), .int], returnType := some .char }, accessFlags := 9, code := some k10c1 }
/-- java/lang/StringLatin1 -/
def k10 : Class := { plain "java/lang/StringLatin1" (some 0) with
  accessFlags := 48
  interfaces := #[]
  cf := some (fileOf pool10 14 #[.nestMembers #[390, 221]] #[{ accessFlags := 0, nameIndex := 7, descriptorIndex := 8, attributes := #[] }, { accessFlags := 9, nameIndex := 252, descriptorIndex := 53, attributes := #[] }] 48 4 #[] #[{ accessFlags := 4120, nameIndex := 121, descriptorIndex := 122, attributes := #[] }])
  fields := #[{ name := "$assertionsDisabled", type := .boolean, accessFlags := 4120, slot := 0, constantValue := 0 }]
  methods := #[k10m0, k10m1]
  instanceTypes := #[]
  staticTypes := #[.boolean]
  resolved := Array.replicate 395 none
  statics := none }

def pool11 : Array CpInfo := pool [(2, .class_ 4), (1, u "java/lang/Object"), (0, u "<init>"), (0, u "()V"), (17, .class_ 26), (1, u "jdk/internal/util/Preconditions"), (6, u "checkIndex"), (21, .class_ 56), (0, u "jdk/internal/util/Preconditions$4"), (57, .class_ 115), (0, u "jdk/internal/util/Preconditions$1"), (7, u "SIOOBE_FORMATTER"), (0, u "Ljava/util/function/BiFunction;"), (0, .class_ 126), (0, u "jdk/internal/util/Preconditions$2"), (3, u "AIOOBE_FORMATTER"), (0, .class_ 132), (0, u "jdk/internal/util/Preconditions$3"), (3, u "IOOBE_FORMATTER"), (41, u "(IILjava/util/function/BiFunction;)I")] 15

def k11m0 : Method := { name := "<init>", desc := "()V", sig := { parameters := [], returnType := none }, accessFlags := 1, code := none }
def k11c1 : Code := { maxStack := 3, maxLocals := 3, code := jdk_41_method_11_code, exceptionTable := #[], attributes := #[] }
def k11m1 : Method := { name := "checkIndex", desc := "(IILjava/util/function/BiFunction;)I", sig := { parameters := [.int, .int, (.object "java/util/function/BiFunction")], returnType := some .int }, accessFlags := 9, code := some k11c1 }
/-- jdk/internal/util/Preconditions -/
def k11 : Class := { plain "jdk/internal/util/Preconditions" (some 0) with
  accessFlags := 33
  interfaces := #[]
  cf := some (fileOf pool11 24 #[.nestMembers #[55, 131, 125, 114]] #[{ accessFlags := 1, nameIndex := 5, descriptorIndex := 6, attributes := #[] }, { accessFlags := 9, nameIndex := 33, descriptorIndex := 178, attributes := #[] }] 33 2 #[] #[{ accessFlags := 25, nameIndex := 123, descriptorIndex := 124, attributes := #[] }, { accessFlags := 25, nameIndex := 130, descriptorIndex := 124, attributes := #[] }, { accessFlags := 25, nameIndex := 136, descriptorIndex := 124, attributes := #[] }])
  fields := #[{ name := "SIOOBE_FORMATTER", type := (.object "java/util/function/BiFunction"), accessFlags := 25, slot := 0, constantValue := 0 }, { name := "AIOOBE_FORMATTER", type := (.object "java/util/function/BiFunction"), accessFlags := 25, slot := 1, constantValue := 0 }, { name := "IOOBE_FORMATTER", type := (.object "java/util/function/BiFunction"), accessFlags := 25, slot := 2, constantValue := 0 }]
  methods := #[k11m0, k11m1]
  instanceTypes := #[]
  staticTypes := #[(.object "java/util/function/BiFunction"), (.object "java/util/function/BiFunction"), (.object "java/util/function/BiFunction")]
  resolved := Array.replicate 194 none
  statics := some 2 }

def pool12 : Array CpInfo := pool [(9, u "<init>"), (6, .class_ 18), (1, u "java/lang/Object"), (0, u "()V"), (1, .class_ 23), (1, u "jdk/internal/util/ArraysSupport"), (0, u "LOG2_ARRAY_LONG_INDEX_SCALE"), (0, u "I"), (2, u "U"), (0, u "Ljdk/internal/misc/Unsafe;"), (8, u "BIG_ENDIAN"), (0, u "Z"), (8, u "LOG2_BYTE_BIT_SIZE"), (4, u "LOG2_ARRAY_INT_INDEX_SCALE"), (54, u "JLA"), (0, u "Ljdk/internal/access/JavaLangAccess;"), (11, u "LOG2_ARRAY_BOOLEAN_INDEX_SCALE"), (9, u "LOG2_ARRAY_BYTE_INDEX_SCALE"), (5, u "LOG2_ARRAY_CHAR_INDEX_SCALE"), (5, u "LOG2_ARRAY_SHORT_INDEX_SCALE"), (18, u "LOG2_ARRAY_FLOAT_INDEX_SCALE"), (24, u "LOG2_ARRAY_DOUBLE_INDEX_SCALE"), (89, u "T_BOOLEAN"), (2, u "T_CHAR"), (1, u "T_FLOAT"), (1, u "T_DOUBLE"), (1, u "T_BYTE"), (1, u "T_SHORT"), (1, u "T_INT"), (1, u "T_LONG"), (1, u "SOFT_MAX_ARRAY_LENGTH")] 83

def k12m0 : Method := { name := "<init>", desc := "()V", sig := { parameters := [], returnType := none }, accessFlags := 2, code := none }
/-- jdk/internal/util/ArraysSupport -/
def k12 : Class := { plain "jdk/internal/util/ArraysSupport" (some 0) with
  accessFlags := 33
  interfaces := #[]
  cf := some (fileOf pool12 21 #[] #[{ accessFlags := 2, nameIndex := 9, descriptorIndex := 19, attributes := #[] }] 33 16 #[] #[{ accessFlags := 24, nameIndex := 28, descriptorIndex := 29, attributes := #[] }, { accessFlags := 26, nameIndex := 38, descriptorIndex := 39, attributes := #[] }, { accessFlags := 25, nameIndex := 121, descriptorIndex := 25, attributes := #[] }, { accessFlags := 25, nameIndex := 131, descriptorIndex := 25, attributes := #[] }, { accessFlags := 25, nameIndex := 137, descriptorIndex := 25, attributes := #[] }, { accessFlags := 25, nameIndex := 143, descriptorIndex := 25, attributes := #[] }, { accessFlags := 25, nameIndex := 53, descriptorIndex := 25, attributes := #[] }, { accessFlags := 25, nameIndex := 24, descriptorIndex := 25, attributes := #[] }, { accessFlags := 25, nameIndex := 162, descriptorIndex := 25, attributes := #[] }, { accessFlags := 25, nameIndex := 187, descriptorIndex := 25, attributes := #[] }, { accessFlags := 26, nameIndex := 48, descriptorIndex := 25, attributes := #[] }, { accessFlags := 25, nameIndex := 277, descriptorIndex := 25, attributes := #[] }, { accessFlags := 25, nameIndex := 280, descriptorIndex := 25, attributes := #[] }, { accessFlags := 25, nameIndex := 282, descriptorIndex := 25, attributes := #[] }, { accessFlags := 25, nameIndex := 284, descriptorIndex := 25, attributes := #[] }, { accessFlags := 25, nameIndex := 286, descriptorIndex := 25, attributes := #[] }, { accessFlags := 25, nameIndex := 288, descriptorIndex := 25, attributes := #[] }, { accessFlags := 25, nameIndex := 290, descriptorIndex := 25, attributes := #[] }, { accessFlags := 25, nameIndex := 292, descriptorIndex := 25, attributes := #[] }, { accessFlags := 26, nameIndex := 108, descriptorIndex := 109, attributes := #[] }, { accessFlags := 25, nameIndex := 294, descriptorIndex := 25, attributes := #[] }])
  fields := #[{ name := "U", type := (.object "jdk/internal/misc/Unsafe"), accessFlags := 24, slot := 0, constantValue := 0 }, { name := "BIG_ENDIAN", type := .boolean, accessFlags := 26, slot := 1, constantValue := 0 }, { name := "LOG2_ARRAY_BOOLEAN_INDEX_SCALE", type := .int, accessFlags := 25, slot := 2, constantValue := 0 }, { name := "LOG2_ARRAY_BYTE_INDEX_SCALE", type := .int, accessFlags := 25, slot := 3, constantValue := 0 }, { name := "LOG2_ARRAY_CHAR_INDEX_SCALE", type := .int, accessFlags := 25, slot := 4, constantValue := 0 }, { name := "LOG2_ARRAY_SHORT_INDEX_SCALE", type := .int, accessFlags := 25, slot := 5, constantValue := 0 }, { name := "LOG2_ARRAY_INT_INDEX_SCALE", type := .int, accessFlags := 25, slot := 6, constantValue := 0 }, { name := "LOG2_ARRAY_LONG_INDEX_SCALE", type := .int, accessFlags := 25, slot := 7, constantValue := 0 }, { name := "LOG2_ARRAY_FLOAT_INDEX_SCALE", type := .int, accessFlags := 25, slot := 8, constantValue := 0 }, { name := "LOG2_ARRAY_DOUBLE_INDEX_SCALE", type := .int, accessFlags := 25, slot := 9, constantValue := 0 }, { name := "LOG2_BYTE_BIT_SIZE", type := .int, accessFlags := 26, slot := 10, constantValue := 0 }, { name := "T_BOOLEAN", type := .int, accessFlags := 25, slot := 11, constantValue := 0 }, { name := "T_CHAR", type := .int, accessFlags := 25, slot := 12, constantValue := 0 }, { name := "T_FLOAT", type := .int, accessFlags := 25, slot := 13, constantValue := 0 }, { name := "T_DOUBLE", type := .int, accessFlags := 25, slot := 14, constantValue := 0 }, { name := "T_BYTE", type := .int, accessFlags := 25, slot := 15, constantValue := 0 }, { name := "T_SHORT", type := .int, accessFlags := 25, slot := 16, constantValue := 0 }, { name := "T_INT", type := .int, accessFlags := 25, slot := 17, constantValue := 0 }, { name := "T_LONG", type := .int, accessFlags := 25, slot := 18, constantValue := 0 }, { name := "JLA", type := (.object "jdk/internal/access/JavaLangAccess"), accessFlags := 26, slot := 19, constantValue := 0 }, { name := "SOFT_MAX_ARRAY_LENGTH", type := .int, accessFlags := 25, slot := 20, constantValue := 0 }]
  methods := #[k12m0]
  instanceTypes := #[]
  staticTypes := #[(.object "jdk/internal/misc/Unsafe"), .boolean, .int, .int, .int, .int, .int, .int, .int, .int, .int, .int, .int, .int, .int, .int, .int, .int, .int, (.object "jdk/internal/access/JavaLangAccess"), .int]
  resolved := Array.replicate 378 none
  statics := none }

def pool13 : Array CpInfo := pool [(1, u "java/lang/Cloneable"), (0, .class_ 1), (0, u "java/lang/Object"), (0, .class_ 3)] 3

/-- java/lang/Cloneable -/
def k13 : Class := { plain "java/lang/Cloneable" (some 0) with
  accessFlags := 1537
  interfaces := #[]
  cf := some (fileOf pool13 2 #[] #[] 1537 4 #[] #[])
  fields := #[]
  methods := #[]
  instanceTypes := #[]
  staticTypes := #[]
  resolved := Array.replicate 8 none
  statics := none }

/-- the primitive byte -/
def k14 : Class := { plain "byte" none with kind := .primitive 'B', accessFlags := 0x411 }
/-- [B -/
def k15 : Class := { plain "[B" (some 0) with kind := .array 14 .byte, interfaces := #[13, 2], accessFlags := 1041 }

/-- the primitive char -/
def k16 : Class := { plain "char" none with kind := .primitive 'C', accessFlags := 0x411 }
/-- [C -/
def k17 : Class := { plain "[C" (some 0) with kind := .array 16 .char, interfaces := #[13, 2], accessFlags := 1041 }

/-- the primitive int -/
def k18 : Class := { plain "int" none with kind := .primitive 'I', accessFlags := 0x411 }
/-- [I -/
def k19 : Class := { plain "[I" (some 0) with kind := .array 18 .int, interfaces := #[13, 2], accessFlags := 1041 }

def heap : Heap := #[{ cls := 7, slots := #[.long 0, .int 1, .null, .int 0, .null, .int 0, .int 0], vm := .statics 7 },
  { cls := 9, slots := #[.int 0, .int 8, .int 0, .int 1], vm := .statics 9 },
  { cls := 11, slots := #[.null, .null, .null], vm := .statics 11 }]
def classes : Array Class := #[k0, k1, k2, k3, k4, k5, k6, k7, k8, k9, k10, k11, k12, k13, k14, k15, k16, k17, k18, k19]
def interned : List (Array UInt16 × Addr) := []
def slotsUsed : Nat := 14
def theMethod : MethodId := ⟨1, 4⟩
def args0 : Array Value := #[.int 5, .int 5, .int 5, .int 5, .int 5]
def aboutOver (below : List Frame) : State where
  vm := { classes := classes, interned := interned.toArray }
  heap := heap
  slotsUsed := slotsUsed
  threads := #[{ frames := .invoking theMethod args0 :: below }]
def below0 : List Frame := [.native { method := ⟨0, 0⟩, args := #[] }]
def about1 : State := aboutOver below0
def p0 : Program := .bare "" "" ""
def e0 : Env := launch0.env 0 0 0
theorem w_frames : about1.frames = Frame.invoking theMethod args0 :: below0 := rfl
set_option maxRecDepth 65536 in
theorem w_args : argsFit about1.vm theMethod args0 = true := by decide +kernel
set_option maxRecDepth 65536 in
theorem w_heap : heapFits about1 = true := by decide +kernel
set_option maxRecDepth 65536 in
theorem w_runnable : about1.curStatus? = some .runnable := by decide +kernel
set_option maxRecDepth 65536 in
theorem w_alone : about1.alone = true := by decide +kernel
set_option maxRecDepth 65536 in
theorem w_named : about1.methodNamed? x = some theMethod := by decide +kernel
set_option maxRecDepth 65536 in
theorem w_hears : about1.hears theMethod below0 = true := by decide +kernel
set_option maxRecDepth 65536 in
theorem w_ripe : about1.ripe theMethod args0 below0 = true := by decide +kernel
theorem w_running : about1.status = .running := rfl
set_option maxRecDepth 65536 in
theorem w_room : about1.hasRoom e0.platform room_1 = true :=
  launch0.hasRoom_least _ room_1 (by decide +kernel) (by decide +kernel) (by decide +kernel) (by decide +kernel) (by decide +kernel) (by decide +kernel)
theorem allAtoms_all (ts : List Jvm.Cond) (a : Array Jvm.Value) (st : Jvm.State) : (allAtoms ts).before a st = ts.all (fun c => c.before a st) := by
  induction ts with
  | nil => rfl
  | cons c t ih =>
    show (Jvm.Cond.and c (allAtoms t)).before a st = _
    rw [Jvm.Cond.before_and, ih, List.all_cons]
def words1 : List Jvm.Cond := Jvm.Cond.code x code maxLocals ret :: tables_1
/-- a 'code' word, met by the world's own term for the bytes: nothing is compared byte by byte -/
theorem code_word {y : MethodName} {bytes : ByteArray} {mx : Nat} {rt : Option FieldType} {a : Array Value} {s : State} {m : MethodId} {meth : Method} {c : Code} (h1 : s.methodNamed? y = some m) (h2 : s.vm.method? m = some meth) (h3 : meth.code = some c) (h4 : c.code = bytes)
    (h5 : (c.maxLocals == mx && c.exceptionTable.isEmpty && decide (c.maxStack ≤ mostOperands) && decide (meth.sig.returnType = rt) && !meth.locks && decide (parseMethodDescriptor y.desc = some meth.sig)) = true) : (Jvm.Cond.code y bytes mx rt).before a s = true := by
  simp only [Bool.and_eq_true, beq_iff_eq, Bool.not_eq_true', decide_eq_true_eq] at h5
  obtain ⟨⟨⟨⟨⟨g1, g2⟩, g3⟩, g4⟩, g5⟩, g6⟩ := h5
  simp [Cond.before, Cond.holds, Cond.value, h1, h2, h3, h4, g1, g2, g3, g4, g5, g6]
def isCode : Jvm.Cond → Bool
  | .code _ _ _ _ => true
  | _ => false
theorem all_split {L : List Jvm.Cond} {P : Jvm.Cond → Bool} (h1 : L.all (fun c => isCode c || P c) = true) (h2 : ∀ c ∈ L.filter isCode, P c = true) : L.all P = true := by
  refine List.all_eq_true.mpr fun c hc => ?_
  have h := List.all_eq_true.mp h1 c hc
  rcases Bool.eq_false_or_eq_true (isCode c) with hi | hi
  · exact h2 c (List.mem_filter.mpr ⟨hc, hi⟩)
  · simpa [hi] using h
set_option maxRecDepth 65536 in
theorem w_c0 : (Jvm.Cond.code x code maxLocals ret).before args0 about1 = true := code_word (m := ⟨1, 4⟩) (meth := k1m4) (c := k1c4) (by decide +kernel) rfl rfl rfl (by decide +kernel)
set_option maxRecDepth 65536 in
theorem w_c1 : (Jvm.Cond.code ({ cls := "com/example/edgewarden/edgewarden/xacml/XacmlSyntaxIsWhiteSpacePinLaw", name := "pick", desc := "(I)C" } : Jvm.MethodName) method_2_code (2 : Nat) (Option.some Jvm.ClassFile.FieldType.char)).before args0 about1 = true := code_word (m := ⟨1, 1⟩) (meth := k1m1) (c := k1c1) (by decide +kernel) rfl rfl rfl (by decide +kernel)
set_option maxRecDepth 65536 in
theorem w_c2 : (Jvm.Cond.code ({ cls := "com/example/edgewarden/edgewarden/xacml/XacmlSyntaxIsWhiteSpacePinLaw", name := "text", desc := "(ICCCC)Ljava/lang/String;" } : Jvm.MethodName) method_4_code (5 : Nat) (Option.some (Jvm.ClassFile.FieldType.object "java/lang/String"))).before args0 about1 = true := code_word (m := ⟨1, 3⟩) (meth := k1m3) (c := k1c3) (by decide +kernel) rfl rfl rfl (by decide +kernel)
set_option maxRecDepth 65536 in
theorem w_c3 : (Jvm.Cond.code ({ cls := "java/lang/String", name := "<init>", desc := "([C)V" } : Jvm.MethodName) jdk_42_method_3_code (2 : Nat) (Option.none : Option Jvm.ClassFile.FieldType)).before args0 about1 = true := code_word (m := ⟨7, 1⟩) (meth := k7m1) (c := k7c1) (by decide +kernel) rfl rfl rfl (by decide +kernel)
set_option maxRecDepth 65536 in
theorem w_c4 : (Jvm.Cond.code ({ cls := "java/lang/String", name := "<init>", desc := "([CIILjava/lang/Void;)V" } : Jvm.MethodName) jdk_42_method_149_code (6 : Nat) (Option.none : Option Jvm.ClassFile.FieldType)).before args0 about1 = true := code_word (m := ⟨7, 4⟩) (meth := k7m4) (c := k7c4) (by decide +kernel) rfl rfl rfl (by decide +kernel)
set_option maxRecDepth 65536 in
theorem w_c5 : (Jvm.Cond.code ({ cls := "java/lang/Object", name := "<init>", desc := "()V" } : Jvm.MethodName) object_method_1_code (1 : Nat) (Option.none : Option Jvm.ClassFile.FieldType)).before args0 about1 = true := code_word (m := ⟨0, 0⟩) (meth := k0m0) (c := k0c0) (by decide +kernel) rfl rfl rfl (by decide +kernel)
set_option maxRecDepth 65536 in
theorem w_c6 : (Jvm.Cond.code ({ cls := "com/example/edgewarden/edgewarden/xacml/XacmlSyntax", name := "isWhiteSpace", desc := "(Ljava/lang/CharSequence;)Z" } : Jvm.MethodName) prog_187_method_22_code (2 : Nat) (Option.some Jvm.ClassFile.FieldType.boolean)).before args0 about1 = true := code_word (m := ⟨8, 1⟩) (meth := k8m1) (c := k8c1) (by decide +kernel) rfl rfl rfl (by decide +kernel)
set_option maxRecDepth 65536 in
theorem w_c7 : (Jvm.Cond.code ({ cls := "java/lang/String", name := "length", desc := "()I" } : Jvm.MethodName) jdk_42_method_54_code (1 : Nat) (Option.some Jvm.ClassFile.FieldType.int)).before args0 about1 = true := code_word (m := ⟨7, 2⟩) (meth := k7m2) (c := k7c2) (by decide +kernel) rfl rfl rfl (by decide +kernel)
set_option maxRecDepth 65536 in
theorem w_c8 : (Jvm.Cond.code ({ cls := "java/lang/String", name := "coder", desc := "()B" } : Jvm.MethodName) jdk_42_method_152_code (1 : Nat) (Option.some Jvm.ClassFile.FieldType.byte)).before args0 about1 = true := code_word (m := ⟨7, 5⟩) (meth := k7m5) (c := k7c5) (by decide +kernel) rfl rfl rfl (by decide +kernel)
set_option maxRecDepth 65536 in
theorem w_c9 : (Jvm.Cond.code ({ cls := "java/lang/StringUTF16", name := "compress", desc := "([CII)[B" } : Jvm.MethodName) jdk_52_method_16_code (6 : Nat) (Option.some (Jvm.ClassFile.FieldType.array Jvm.ClassFile.FieldType.byte))).before args0 about1 = true := code_word (m := ⟨9, 8⟩) (meth := k9m8) (c := k9c8) (by decide +kernel) rfl rfl rfl (by decide +kernel)
set_option maxRecDepth 65536 in
theorem w_c10 : (Jvm.Cond.code ({ cls := "java/lang/StringUTF16", name := "compress", desc := "([CI[BII)I" } : Jvm.MethodName) jdk_52_method_21_code (7 : Nat) (Option.some Jvm.ClassFile.FieldType.int)).before args0 about1 = true := code_word (m := ⟨9, 9⟩) (meth := k9m9) (c := k9c9) (by decide +kernel) rfl rfl rfl (by decide +kernel)
set_option maxRecDepth 65536 in
theorem w_c11 : (Jvm.Cond.code ({ cls := "java/lang/StringUTF16", name := "coderFromArrayLen", desc := "([BI)B" } : Jvm.MethodName) jdk_52_method_15_code (2 : Nat) (Option.some Jvm.ClassFile.FieldType.byte)).before args0 about1 = true := code_word (m := ⟨9, 7⟩) (meth := k9m7) (c := k9c7) (by decide +kernel) rfl rfl rfl (by decide +kernel)
set_option maxRecDepth 65536 in
theorem w_c12 : (Jvm.Cond.code ({ cls := "com/example/edgewarden/edgewarden/xacml/XacmlSyntaxIsWhiteSpacePinLaw", name := "ws", desc := "(C)Z" } : Jvm.MethodName) method_3_code (1 : Nat) (Option.some Jvm.ClassFile.FieldType.boolean)).before args0 about1 = true := code_word (m := ⟨1, 2⟩) (meth := k1m2) (c := k1c2) (by decide +kernel) rfl rfl rfl (by decide +kernel)
set_option maxRecDepth 65536 in
theorem w_c13 : (Jvm.Cond.code ({ cls := "java/lang/String", name := "charAt", desc := "(I)C" } : Jvm.MethodName) jdk_42_method_56_code (2 : Nat) (Option.some Jvm.ClassFile.FieldType.char)).before args0 about1 = true := code_word (m := ⟨7, 3⟩) (meth := k7m3) (c := k7c3) (by decide +kernel) rfl rfl rfl (by decide +kernel)
set_option maxRecDepth 65536 in
theorem w_c14 : (Jvm.Cond.code ({ cls := "java/lang/String", name := "isLatin1", desc := "()Z" } : Jvm.MethodName) jdk_42_method_154_code (1 : Nat) (Option.some Jvm.ClassFile.FieldType.boolean)).before args0 about1 = true := code_word (m := ⟨7, 6⟩) (meth := k7m6) (c := k7c6) (by decide +kernel) rfl rfl rfl (by decide +kernel)
set_option maxRecDepth 65536 in
theorem w_c15 : (Jvm.Cond.code ({ cls := "java/lang/StringLatin1", name := "charAt", desc := "([BI)C" } : Jvm.MethodName) jdk_43_method_2_code (2 : Nat) (Option.some Jvm.ClassFile.FieldType.char)).before args0 about1 = true := code_word (m := ⟨10, 1⟩) (meth := k10m1) (c := k10c1) (by decide +kernel) rfl rfl rfl (by decide +kernel)
set_option maxRecDepth 65536 in
theorem w_c16 : (Jvm.Cond.code ({ cls := "java/lang/String", name := "checkIndex", desc := "(II)V" } : Jvm.MethodName) jdk_42_method_155_code (2 : Nat) (Option.none : Option Jvm.ClassFile.FieldType)).before args0 about1 = true := code_word (m := ⟨7, 7⟩) (meth := k7m7) (c := k7c7) (by decide +kernel) rfl rfl rfl (by decide +kernel)
set_option maxRecDepth 65536 in
theorem w_c17 : (Jvm.Cond.code ({ cls := "jdk/internal/util/Preconditions", name := "checkIndex", desc := "(IILjava/util/function/BiFunction;)I" } : Jvm.MethodName) jdk_41_method_11_code (3 : Nat) (Option.some Jvm.ClassFile.FieldType.int)).before args0 about1 = true := code_word (m := ⟨11, 1⟩) (meth := k11m1) (c := k11c1) (by decide +kernel) rfl rfl rfl (by decide +kernel)
set_option maxRecDepth 65536 in
theorem w_c18 : (Jvm.Cond.code ({ cls := "com/example/edgewarden/edgewarden/xacml/XacmlSyntax", name := "isWhiteSpace", desc := "(C)Z" } : Jvm.MethodName) prog_187_method_24_code (1 : Nat) (Option.some Jvm.ClassFile.FieldType.boolean)).before args0 about1 = true := code_word (m := ⟨8, 2⟩) (meth := k8m2) (c := k8c2) (by decide +kernel) rfl rfl rfl (by decide +kernel)
set_option maxRecDepth 65536 in
theorem w_c19 : (Jvm.Cond.code ({ cls := "java/lang/StringUTF16", name := "toBytes", desc := "([CII)[B" } : Jvm.MethodName) jdk_52_method_14_code (5 : Nat) (Option.some (Jvm.ClassFile.FieldType.array Jvm.ClassFile.FieldType.byte))).before args0 about1 = true := code_word (m := ⟨9, 6⟩) (meth := k9m6) (c := k9c6) (by decide +kernel) rfl rfl rfl (by decide +kernel)
set_option maxRecDepth 65536 in
theorem w_c20 : (Jvm.Cond.code ({ cls := "java/lang/StringUTF16", name := "newBytesFor", desc := "(I)[B" } : Jvm.MethodName) jdk_52_method_2_code (1 : Nat) (Option.some (Jvm.ClassFile.FieldType.array Jvm.ClassFile.FieldType.byte))).before args0 about1 = true := code_word (m := ⟨9, 1⟩) (meth := k9m1) (c := k9c1) (by decide +kernel) rfl rfl rfl (by decide +kernel)
set_option maxRecDepth 65536 in
theorem w_c21 : (Jvm.Cond.code ({ cls := "java/lang/StringUTF16", name := "newBytesLength", desc := "(I)I" } : Jvm.MethodName) jdk_52_method_3_code (1 : Nat) (Option.some Jvm.ClassFile.FieldType.int)).before args0 about1 = true := code_word (m := ⟨9, 2⟩) (meth := k9m2) (c := k9c2) (by decide +kernel) rfl rfl rfl (by decide +kernel)
set_option maxRecDepth 65536 in
theorem w_c22 : (Jvm.Cond.code ({ cls := "java/lang/StringUTF16", name := "putChar", desc := "([BII)V" } : Jvm.MethodName) jdk_52_method_4_code (3 : Nat) (Option.none : Option Jvm.ClassFile.FieldType)).before args0 about1 = true := code_word (m := ⟨9, 3⟩) (meth := k9m3) (c := k9c3) (by decide +kernel) rfl rfl rfl (by decide +kernel)
set_option maxRecDepth 65536 in
theorem w_c23 : (Jvm.Cond.code ({ cls := "java/lang/StringUTF16", name := "getChar", desc := "([BI)C" } : Jvm.MethodName) jdk_52_method_5_code (2 : Nat) (Option.some Jvm.ClassFile.FieldType.char)).before args0 about1 = true := code_word (m := ⟨9, 4⟩) (meth := k9m4) (c := k9c4) (by decide +kernel) rfl rfl rfl (by decide +kernel)
set_option maxRecDepth 65536 in
theorem w_c24 : (Jvm.Cond.code ({ cls := "java/lang/StringUTF16", name := "charAt", desc := "([BI)C" } : Jvm.MethodName) jdk_52_method_83_code (2 : Nat) (Option.some Jvm.ClassFile.FieldType.char)).before args0 about1 = true := code_word (m := ⟨9, 10⟩) (meth := k9m10) (c := k9c10) (by decide +kernel) rfl rfl rfl (by decide +kernel)
set_option maxRecDepth 65536 in
theorem w_c25 : (Jvm.Cond.code ({ cls := "java/lang/StringUTF16", name := "checkIndex", desc := "(I[B)V" } : Jvm.MethodName) jdk_52_method_91_code (2 : Nat) (Option.none : Option Jvm.ClassFile.FieldType)).before args0 about1 = true := code_word (m := ⟨9, 11⟩) (meth := k9m11) (c := k9c11) (by decide +kernel) rfl rfl rfl (by decide +kernel)
set_option maxRecDepth 65536 in
theorem w_c26 : (Jvm.Cond.code ({ cls := "java/lang/StringUTF16", name := "length", desc := "([B)I" } : Jvm.MethodName) jdk_52_method_6_code (1 : Nat) (Option.some Jvm.ClassFile.FieldType.int)).before args0 about1 = true := code_word (m := ⟨9, 5⟩) (meth := k9m5) (c := k9c5) (by decide +kernel) rfl rfl rfl (by decide +kernel)
def codes1 : List Jvm.Cond := [Jvm.Cond.code x code maxLocals ret, Jvm.Cond.code ({ cls := "com/example/edgewarden/edgewarden/xacml/XacmlSyntaxIsWhiteSpacePinLaw", name := "pick", desc := "(I)C" } : Jvm.MethodName) method_2_code (2 : Nat) (Option.some Jvm.ClassFile.FieldType.char), Jvm.Cond.code ({ cls := "com/example/edgewarden/edgewarden/xacml/XacmlSyntaxIsWhiteSpacePinLaw", name := "text", desc := "(ICCCC)Ljava/lang/String;" } : Jvm.MethodName) method_4_code (5 : Nat) (Option.some (Jvm.ClassFile.FieldType.object "java/lang/String")), Jvm.Cond.code ({ cls := "java/lang/String", name := "<init>", desc := "([C)V" } : Jvm.MethodName) jdk_42_method_3_code (2 : Nat) (Option.none : Option Jvm.ClassFile.FieldType), Jvm.Cond.code ({ cls := "java/lang/String", name := "<init>", desc := "([CIILjava/lang/Void;)V" } : Jvm.MethodName) jdk_42_method_149_code (6 : Nat) (Option.none : Option Jvm.ClassFile.FieldType), Jvm.Cond.code ({ cls := "java/lang/Object", name := "<init>", desc := "()V" } : Jvm.MethodName) object_method_1_code (1 : Nat) (Option.none : Option Jvm.ClassFile.FieldType), Jvm.Cond.code ({ cls := "com/example/edgewarden/edgewarden/xacml/XacmlSyntax", name := "isWhiteSpace", desc := "(Ljava/lang/CharSequence;)Z" } : Jvm.MethodName) prog_187_method_22_code (2 : Nat) (Option.some Jvm.ClassFile.FieldType.boolean), Jvm.Cond.code ({ cls := "java/lang/String", name := "length", desc := "()I" } : Jvm.MethodName) jdk_42_method_54_code (1 : Nat) (Option.some Jvm.ClassFile.FieldType.int), Jvm.Cond.code ({ cls := "java/lang/String", name := "coder", desc := "()B" } : Jvm.MethodName) jdk_42_method_152_code (1 : Nat) (Option.some Jvm.ClassFile.FieldType.byte), Jvm.Cond.code ({ cls := "java/lang/StringUTF16", name := "compress", desc := "([CII)[B" } : Jvm.MethodName) jdk_52_method_16_code (6 : Nat) (Option.some (Jvm.ClassFile.FieldType.array Jvm.ClassFile.FieldType.byte)), Jvm.Cond.code ({ cls := "java/lang/StringUTF16", name := "compress", desc := "([CI[BII)I" } : Jvm.MethodName) jdk_52_method_21_code (7 : Nat) (Option.some Jvm.ClassFile.FieldType.int), Jvm.Cond.code ({ cls := "java/lang/StringUTF16", name := "coderFromArrayLen", desc := "([BI)B" } : Jvm.MethodName) jdk_52_method_15_code (2 : Nat) (Option.some Jvm.ClassFile.FieldType.byte), Jvm.Cond.code ({ cls := "com/example/edgewarden/edgewarden/xacml/XacmlSyntaxIsWhiteSpacePinLaw", name := "ws", desc := "(C)Z" } : Jvm.MethodName) method_3_code (1 : Nat) (Option.some Jvm.ClassFile.FieldType.boolean), Jvm.Cond.code ({ cls := "java/lang/String", name := "charAt", desc := "(I)C" } : Jvm.MethodName) jdk_42_method_56_code (2 : Nat) (Option.some Jvm.ClassFile.FieldType.char), Jvm.Cond.code ({ cls := "java/lang/String", name := "isLatin1", desc := "()Z" } : Jvm.MethodName) jdk_42_method_154_code (1 : Nat) (Option.some Jvm.ClassFile.FieldType.boolean), Jvm.Cond.code ({ cls := "java/lang/StringLatin1", name := "charAt", desc := "([BI)C" } : Jvm.MethodName) jdk_43_method_2_code (2 : Nat) (Option.some Jvm.ClassFile.FieldType.char), Jvm.Cond.code ({ cls := "java/lang/String", name := "checkIndex", desc := "(II)V" } : Jvm.MethodName) jdk_42_method_155_code (2 : Nat) (Option.none : Option Jvm.ClassFile.FieldType), Jvm.Cond.code ({ cls := "jdk/internal/util/Preconditions", name := "checkIndex", desc := "(IILjava/util/function/BiFunction;)I" } : Jvm.MethodName) jdk_41_method_11_code (3 : Nat) (Option.some Jvm.ClassFile.FieldType.int), Jvm.Cond.code ({ cls := "com/example/edgewarden/edgewarden/xacml/XacmlSyntax", name := "isWhiteSpace", desc := "(C)Z" } : Jvm.MethodName) prog_187_method_24_code (1 : Nat) (Option.some Jvm.ClassFile.FieldType.boolean), Jvm.Cond.code ({ cls := "java/lang/StringUTF16", name := "toBytes", desc := "([CII)[B" } : Jvm.MethodName) jdk_52_method_14_code (5 : Nat) (Option.some (Jvm.ClassFile.FieldType.array Jvm.ClassFile.FieldType.byte)), Jvm.Cond.code ({ cls := "java/lang/StringUTF16", name := "newBytesFor", desc := "(I)[B" } : Jvm.MethodName) jdk_52_method_2_code (1 : Nat) (Option.some (Jvm.ClassFile.FieldType.array Jvm.ClassFile.FieldType.byte)), Jvm.Cond.code ({ cls := "java/lang/StringUTF16", name := "newBytesLength", desc := "(I)I" } : Jvm.MethodName) jdk_52_method_3_code (1 : Nat) (Option.some Jvm.ClassFile.FieldType.int), Jvm.Cond.code ({ cls := "java/lang/StringUTF16", name := "putChar", desc := "([BII)V" } : Jvm.MethodName) jdk_52_method_4_code (3 : Nat) (Option.none : Option Jvm.ClassFile.FieldType), Jvm.Cond.code ({ cls := "java/lang/StringUTF16", name := "getChar", desc := "([BI)C" } : Jvm.MethodName) jdk_52_method_5_code (2 : Nat) (Option.some Jvm.ClassFile.FieldType.char), Jvm.Cond.code ({ cls := "java/lang/StringUTF16", name := "charAt", desc := "([BI)C" } : Jvm.MethodName) jdk_52_method_83_code (2 : Nat) (Option.some Jvm.ClassFile.FieldType.char), Jvm.Cond.code ({ cls := "java/lang/StringUTF16", name := "checkIndex", desc := "(I[B)V" } : Jvm.MethodName) jdk_52_method_91_code (2 : Nat) (Option.none : Option Jvm.ClassFile.FieldType), Jvm.Cond.code ({ cls := "java/lang/StringUTF16", name := "length", desc := "([B)I" } : Jvm.MethodName) jdk_52_method_6_code (1 : Nat) (Option.some Jvm.ClassFile.FieldType.int)]
set_option maxRecDepth 65536 in
theorem codes_eq : words1.filter isCode = codes1 := rfl
theorem w_codes : ∀ c ∈ words1.filter isCode, c.before args0 about1 = true := by
  rw [codes_eq]
  intro c hc
  simp only [codes1, List.mem_cons, List.not_mem_nil, or_false] at hc
  rcases hc with rfl | rfl | rfl | rfl | rfl | rfl | rfl | rfl | rfl | rfl | rfl | rfl | rfl | rfl | rfl | rfl | rfl | rfl | rfl | rfl | rfl | rfl | rfl | rfl | rfl | rfl | rfl
  · exact w_c0
  · exact w_c1
  · exact w_c2
  · exact w_c3
  · exact w_c4
  · exact w_c5
  · exact w_c6
  · exact w_c7
  · exact w_c8
  · exact w_c9
  · exact w_c10
  · exact w_c11
  · exact w_c12
  · exact w_c13
  · exact w_c14
  · exact w_c15
  · exact w_c16
  · exact w_c17
  · exact w_c18
  · exact w_c19
  · exact w_c20
  · exact w_c21
  · exact w_c22
  · exact w_c23
  · exact w_c24
  · exact w_c25
  · exact w_c26
set_option maxRecDepth 65536 in
theorem w_t1 : (words1.take 24).all (fun c => isCode c || c.before args0 about1) = true := by decide +kernel
set_option maxRecDepth 65536 in
theorem w_t2 : ((words1.drop 24).take 24).all (fun c => isCode c || c.before args0 about1) = true := by decide +kernel
set_option maxRecDepth 65536 in
theorem w_t3 : (((words1.drop 24).drop 24).take 24).all (fun c => isCode c || c.before args0 about1) = true := by decide +kernel
set_option maxRecDepth 65536 in
theorem w_t4 : ((((words1.drop 24).drop 24).drop 24).take 24).all (fun c => isCode c || c.before args0 about1) = true := by decide +kernel
set_option maxRecDepth 65536 in
theorem w_t5 : ((((words1.drop 24).drop 24).drop 24).drop 24).all (fun c => isCode c || c.before args0 about1) = true := by decide +kernel
theorem w_tables : (allAtoms (Jvm.Cond.code x code maxLocals ret :: tables_1)).before args0 about1 = true := by
  rw [allAtoms_all]
  show words1.all (fun c => c.before args0 about1) = true
  refine all_split ?_ w_codes
  rw [← List.take_append_drop 24 words1, List.all_append, w_t1, ← List.take_append_drop 24 (words1.drop 24), List.all_append, w_t2, ← List.take_append_drop 24 ((words1.drop 24).drop 24), List.all_append, w_t3, ← List.take_append_drop 24 (((words1.drop 24).drop 24).drop 24), List.all_append, w_t4, w_t5]
  rfl
set_option maxRecDepth 65536 in
theorem w_rest : rest_1_c.before args0 about1 = true := by decide +kernel
set_option maxRecDepth 65536 in
theorem w_case : (Jvm.Cond.and given_1 narrow_1).before args0 about1 = true := by decide +kernel
set_option maxRecDepth 65536 in
theorem w_consts : constsHeld consts_1 about1 := Jvm.Lit.constsHeldB_iff.mp (by decide +kernel)
theorem w_applies : (headSpec (Jvm.Cond.code x code maxLocals ret :: tables_1) room_1).applies x e0.platform about1 = true :=
  (Spec.applies_iff w_frames).mpr ⟨w_running, w_runnable, w_alone, w_named, w_hears, w_ripe, w_room, w_tables⟩
theorem atStart : AtStart classFile x code maxLocals ret World_1 tables_1 room_1 Calls_1 rest_1 Pre_1 launch0 p0 e0 about1 theMethod args0 below0 :=
  ⟨lists_1, trivial, launch0.admits_env _ _ _, launch0.least_env, fairChoices_fair.cas, fairChoices_fair.clock, w_frames, w_args, w_heap, w_applies, ⟨w_consts, trivial⟩, w_rest, w_case⟩
end start1
theorem witness_1 : WitnessClaimed_1 := ⟨start1.p0, start1.e0, start1.about1, start1.theMethod, start1.args0, start1.below0, start1.atStart⟩
end Jvm.Pilot.@@N@@
