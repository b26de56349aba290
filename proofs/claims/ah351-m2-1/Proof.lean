import JvmDerived
import JvmDerived.Pilot.@@N@@Statement
import JvmDerived.Pilot.@@N@@Code
set_option linter.unusedVariables false
set_option linter.unusedSimpArgs false
namespace Jvm.RoadKit
open Sem ClassFile Op Lib Jvm.Stand Jvm.Free Jvm.LawKit
section Own
variable {p : Program} {l : Launch} {e : Env} {R : Room} {s : State} {m : MethodId} {args : Array Value} {below : List Frame} {meth : Method} {c : Code} {T T' : State} {locs : List Loc} {cells slots : Nat} {g g' : JFrame} {Φ : State → Prop}
/-- from this frame the run comes to a state with Φ -/
def own_G (p : Program) (e : Env) (below : List Frame) (Φ : State → Prop) (T : State) (g : JFrame) : Prop := ∃ t, Steps p.tables e below (T.setTop g) t ∧ Φ t
/-- what the end of a method with the answer Q is -/
def own_E (s : State) (below : List Frame) (Q : Option Value → Heap → List Loc → Prop) (k n : Nat) (t : State) : Prop := ∃ o, t.status = .running ∧ Ended t below o ∧ ∃ v L, o = .returned v ∧ Q v t.heap L ∧ FrameEnd s o t L k n
def own_Al (_ : Stand p l e R s m args below meth c T locs cells slots) (T' : State) : Prop := Stand p l e R s m args below meth c T' locs cells slots
theorem own_go (h : ∀ t, Steps p.tables e below (T'.setTop g') t → Steps p.tables e below (T.setTop g) t) (k : own_G p e below Φ T' g') : own_G p e below Φ T g := by
  obtain ⟨t, a, b⟩ := k
  exact ⟨t, h t a, b⟩
theorem own_on (h : Steps p.tables e below (T.setTop g) (T'.setTop g')) (k : own_G p e below Φ T' g') : own_G p e below Φ T g := by
  obtain ⟨t, a, b⟩ := k
  exact ⟨t, h.trans a, b⟩
theorem own_ret (X : Stand p l e R s m args below meth c T locs cells slots) {Q : Option Value → Heap → List Loc → Prop} {k n : Nat} {v : Option Value} (hv : meth.sig.returnType = none → v = none) (hlocks : meth.locks = false)
    (hst : ∀ fs, (∀ (f : JFrame) (acts : List Action), f.method = m → f.locked = none → f.entered = [] → (doReturn e (T.setTop f) acts v).1 = T.setFrames fs) → Steps p.tables e below (T.setTop g) (T.setFrames fs))
    (hq : Q v T.heap locs) (hc : cells ≤ k) (hn : slots ≤ n) : own_G p e below (own_E s below Q k n) T g := by
  obtain ⟨fs, hr, hrun, hended, hW, hsame⟩ := X.leave hv hlocks
  exact ⟨_, hst fs hr, _, hrun, hended, _, _, rfl, hq, ⟨_, rfl⟩, hW, hsame.mono hc hn⟩
def own_EW (s : State) (below : List Frame) (Q : Option Value → Heap → List Loc → Prop) (k n : Nat) (t : State) : Prop := ∃ o, t.status = .running ∧ Ended t below o ∧ ∃ v L, o = .returned v ∧ Q v t.heap L ∧ ReturnedEndW s o t L k n
theorem own_retW {vm₁ : Vm} (X : Stand p l e R (s.setVm vm₁) m args below meth c T locs cells slots) {q : Nat} (hS : s.Since vm₁ q) (hq' : q ≤ T.heap.size) {Q : Option Value → Heap → List Loc → Prop} {k n : Nat} {v : Option Value} (hv : meth.sig.returnType = none → v = none) (hlocks : meth.locks = false)
    (hst : ∀ fs, (∀ (f : JFrame) (acts : List Action), f.method = m → f.locked = none → f.entered = [] → (doReturn e (T.setTop f) acts v).1 = T.setFrames fs) → Steps p.tables e below (T.setTop g) (T.setFrames fs))
    (hq : Q v T.heap locs) (hc : cells ≤ k) (hn : slots ≤ n) : own_G p e below (own_EW s below Q k n) T g := by
  obtain ⟨fs, hr, hrun, hended, h1, h2, h3, h4⟩ := X.leaveW hS hq' hv hlocks
  exact ⟨_, hst fs hr, _, hrun, hended, _, _, rfl, hq, h1, h2, h3, h4.mono hc hn⟩
theorem own_lrem_eq (x y : Int64) : x - (x / y) * y = x % y := by
  apply Int64.toInt_inj.mp
  have r := rng64 (x % y)
  have hm : (x % y).toInt = x.toInt - y.toInt * x.toInt.tdiv y.toInt := by rw [Int64.toInt_mod, Int.tmod_def]
  have hs : (x - x / y * y).toInt = (x.toInt - y.toInt * x.toInt.tdiv y.toInt).bmod (2 ^ 64) := by
    rw [Int64.toInt_sub, Int64.toInt_mul, Int64.toInt_div, Int.bmod_mul_bmod, Int.sub_bmod_bmod, Int.mul_comm]
  rw [hs, ← hm]
  exact Int.bmod_eq_of_le (by omega) (by omega)
theorem own_lremM {target : State} (X : Stand p l e R s m args below meth c T locs cells slots) (hx : p.tables.exec = Jvm.exec) (hg : g.method = m) {x y : Int64} {rest : List Value} (hd : decode c.code g.pc = .ok (.lrem, 1)) (hs : g.stack = .long y :: .long x :: rest) (hy : y ≠ 0)
    (hr : Steps p.tables e below (T.setTop { g with pc := g.pc + 1, stack := .long (x % y) :: rest }) target) : Steps p.tables e below (T.setTop g) target :=
  XS.lrem X.here hx hg hd hs hy (by rw [own_lrem_eq]; exact hr)
theorem own_selp {s : State} {args : Array Value} {x y : MethodName} (hc : x.cls = y.cls) (hxi : (Cond.instanceMethod x).before args s = true) (hnf : NotFace s x) (hp : s.PrivateAt y) (hyi : (Cond.instanceMethod y).before args s = true) (hy : y.cls ≠ "java/lang/invoke/MethodHandle" ∧ y.cls ≠ "java/lang/invoke/VarHandle") : (Cond.selects y.cls y y).before args s = true := by
  obtain ⟨mk, methM, hnamed, -⟩ := Cond.instanceMethod_spec hxi
  obtain ⟨k, hk, hni⟩ := hnf mk hnamed
  exact Stand.selects_self_of_private (hc ▸ findClass_of_methodNamed hnamed) hk hni hp hyi hy
def own_AlL (_ : Stand p l e R s m args below meth c T locs cells slots) (T' : State) (locs' : List Loc) (cells' slots' : Nat) : Prop := Stand p l e R s m args below meth c T' locs' cells' slots'
theorem own_nar {v : Value} {t : FieldType} (h : v.isRef = true) : narrow t v = v := by
  rcases ref_cases h with rfl | ⟨a, rfl⟩ <;> cases t <;> rfl
abbrev own_rm (f c s l : Nat) : Room := { frames := f, cells := c, slots := s, locals := l }
abbrev own_Met (l : Launch) (y : MethodName) (code : ByteArray) (maxL : Nat) (ret : Option FieldType) (ws : List Cond) (rm : Room) (Z : State) (h0 : Heap) (as' : Array Value) (Q : Option Value → Heap → List Loc → Prop) : Prop :=
  MetFree l y (head1 (Cond.code y code maxL ret :: ws) rm) (fun a U => a = as' ∧ Z.Warmed39 U.vm ∧ U.heap = h0) (fun _ _ _ _ _ => True) (fun _ U o U' => ∃ v L, o = .returned v ∧ Q v U'.heap L ∧ FrameEnd U o U' L rm.cells rm.slots)
theorem own_met {y : MethodName} {code : ByteArray} {maxL : Nat} {ret : Option FieldType} {ws : List Cond} {rm : Room} {Z : State} {h0 : Heap} {Q : Option Value → Heap → List Loc → Prop} {as' : Array Value} {L0 : Array Slot} (hpl : plainFor y = true) (hef : ∀ m, entryFrame m as' maxL = mkF m 0 L0 [])
    (body : ∀ (p : Program) (e : Env) (s : State) (m : MethodId) (below : List Frame) (meth : Method) (c : Code) (s₁ : State) (Φ : State → Prop), Φ = own_E s below Q rm.cells rm.slots → Stand p l e rm s m as' below meth c s₁ [] 0 0 → p.tables.exec = Jvm.exec → c.code = code → c.maxLocals = maxL → s.vm.findClass y.cls = some m.cls → meth.name = y.name → meth.sig.returnType = ret → meth.locks = false → Z.Warmed39 s.vm → s₁.heap = h0 → own_G p e below Φ s₁ (mkF m 0 L0 [])) :
    own_Met l y code maxL ret ws rm Z h0 as' Q := by
  refine MetFree.of_bodySF hpl hisR ?_
  intro p e s m args below meth c s₁ Bd hml0 hP hK
  obtain ⟨rfl, hZ, hh⟩ := hP
  obtain ⟨t, st, o, q1, q2, q3⟩ := body p e s m below meth c s₁ _ rfl (Stand.of_body Bd) Bd.exec Bd.bytes hml0 (findClass_of_methodNamed Bd.named) (name_of_methodNamed Bd.named Bd.method).1 Bd.returns (BodyLoose.notSynchronized Bd) hZ (by rw [← hh, Bd.state]; rfl)
  exact ⟨t, o, castTop (hef m) st, q1, q2, q3⟩
def own_B (p : Program) (c : Code) (code : ByteArray) (ml : Nat) : Prop := p.tables.exec = Jvm.exec ∧ c.code = code ∧ c.maxLocals = ml
theorem own_jmp {pc pc' : Nat} {o : Int} (h : (pc : Int) + o = (pc' : Int)) : 0 ≤ (pc : Int) + o ∧ ((pc : Int) + o).toNat = pc' := by omega
section Steps
variable {code : ByteArray} {ml : Nat}
theorem o_iload (X : Stand p l e R s m args below meth c T locs cells slots) (B : own_B p c code ml) {pc : Nat} {L : Array Slot} {S : List Value} {k : Nat} {v : Int32} (hd : decode code pc = .ok (.iload k, 2)) (hl : L[k]? = some (.val (.int v))) (K : own_G p e below Φ T (mkF m (pc + 2) L (.int v :: S))) : own_G p e below Φ T (mkF m pc L S) := own_go (fun _ => XS.iload X.here B.1 rfl (hb B.2.1 hd) hl) K
theorem o_iloadN (X : Stand p l e R s m args below meth c T locs cells slots) (B : own_B p c code ml) {pc : Nat} {L : Array Slot} {S : List Value} {k : Fin 4} {v : Int32} (hd : decode code pc = .ok (.iload_n k, 1)) (hl : L[k.val]? = some (.val (.int v))) (K : own_G p e below Φ T (mkF m (pc + 1) L (.int v :: S))) : own_G p e below Φ T (mkF m pc L S) := own_go (fun _ => XS.iloadN X.here B.1 rfl (hb B.2.1 hd) hl) K
theorem o_lload (X : Stand p l e R s m args below meth c T locs cells slots) (B : own_B p c code ml) {pc : Nat} {L : Array Slot} {S : List Value} {k : Nat} {v : Int64} (hd : decode code pc = .ok (.lload k, 2)) (hl : L[k]? = some (.val (.long v))) (K : own_G p e below Φ T (mkF m (pc + 2) L (.long v :: S))) : own_G p e below Φ T (mkF m pc L S) := own_go (fun _ => XS.lload X.here B.1 rfl (hb B.2.1 hd) hl) K
theorem o_lloadN (X : Stand p l e R s m args below meth c T locs cells slots) (B : own_B p c code ml) {pc : Nat} {L : Array Slot} {S : List Value} {k : Fin 4} {v : Int64} (hd : decode code pc = .ok (.lload_n k, 1)) (hl : L[k.val]? = some (.val (.long v))) (K : own_G p e below Φ T (mkF m (pc + 1) L (.long v :: S))) : own_G p e below Φ T (mkF m pc L S) := own_go (fun _ => XS.lloadN X.here B.1 rfl (hb B.2.1 hd) hl) K
theorem o_aload (X : Stand p l e R s m args below meth c T locs cells slots) (B : own_B p c code ml) {pc : Nat} {L : Array Slot} {S : List Value} {k : Nat} {v : Value} (hd : decode code pc = .ok (.aload k, 2)) (hl : L[k]? = some (.val v)) (hv : v.isRef = true) (K : own_G p e below Φ T (mkF m (pc + 2) L (v :: S))) : own_G p e below Φ T (mkF m pc L S) := own_go (fun _ => XS.aload X.here B.1 rfl (hb B.2.1 hd) hl hv) K
theorem o_aloadN (X : Stand p l e R s m args below meth c T locs cells slots) (B : own_B p c code ml) {pc : Nat} {L : Array Slot} {S : List Value} {k : Fin 4} {v : Value} (hd : decode code pc = .ok (.aload_n k, 1)) (hl : L[k.val]? = some (.val v)) (hv : v.isRef = true) (K : own_G p e below Φ T (mkF m (pc + 1) L (v :: S))) : own_G p e below Φ T (mkF m pc L S) := own_go (fun _ => XS.aloadN X.here B.1 rfl (hb B.2.1 hd) hl hv) K
theorem o_istore (X : Stand p l e R s m args below meth c T locs cells slots) (B : own_B p c code ml) {pc : Nat} {L : Array Slot} {S : List Value} {k : Nat} {x : Int32} {L' : Array Slot} (hd : decode code pc = .ok (.istore k, 2)) (hl : storeLocals L k (.int x) = some L') (K : own_G p e below Φ T (mkF m (pc + 2) L' S)) : own_G p e below Φ T (mkF m pc L (.int x :: S)) := own_go (fun _ => XS.istore X.here B.1 rfl (hb B.2.1 hd) rfl hl) K
theorem o_lstore (X : Stand p l e R s m args below meth c T locs cells slots) (B : own_B p c code ml) {pc : Nat} {L : Array Slot} {S : List Value} {k : Nat} {x : Int64} {L' : Array Slot} (hd : decode code pc = .ok (.lstore k, 2)) (hl : storeLocals L k (.long x) = some L') (K : own_G p e below Φ T (mkF m (pc + 2) L' S)) : own_G p e below Φ T (mkF m pc L (.long x :: S)) := own_go (fun _ => XS.lstore X.here B.1 rfl (hb B.2.1 hd) rfl hl) K
theorem o_astore (X : Stand p l e R s m args below meth c T locs cells slots) (B : own_B p c code ml) {pc : Nat} {L : Array Slot} {S : List Value} {k : Nat} {x : Value} {L' : Array Slot} (hd : decode code pc = .ok (.astore k, 2)) (hv : x.isRef = true) (hl : storeLocals L k x = some L') (K : own_G p e below Φ T (mkF m (pc + 2) L' S)) : own_G p e below Φ T (mkF m pc L (x :: S)) := own_go (fun _ => XS.astore X.here B.1 rfl (hb B.2.1 hd) rfl hv hl) K
theorem o_iconst (X : Stand p l e R s m args below meth c T locs cells slots) (B : own_B p c code ml) {pc : Nat} {L : Array Slot} {S : List Value} {i : Int} (hd : decode code pc = .ok (.iconst i, 1))  (K : own_G p e below Φ T (mkF m (pc + 1) L (.int (Int32.ofInt i) :: S))) : own_G p e below Φ T (mkF m pc L S) := own_go (fun _ => XS.iconst X.here B.1 rfl (hb B.2.1 hd)) K
theorem o_bipush (X : Stand p l e R s m args below meth c T locs cells slots) (B : own_B p c code ml) {pc : Nat} {L : Array Slot} {S : List Value} {i : Int} (hd : decode code pc = .ok (.bipush i, 2))  (K : own_G p e below Φ T (mkF m (pc + 2) L (.int (Int8.ofInt i).toInt32 :: S))) : own_G p e below Φ T (mkF m pc L S) := own_go (fun _ => XS.bipush X.here B.1 rfl (hb B.2.1 hd)) K
theorem o_sipush (X : Stand p l e R s m args below meth c T locs cells slots) (B : own_B p c code ml) {pc : Nat} {L : Array Slot} {S : List Value} {i : Int} (hd : decode code pc = .ok (.sipush i, 3))  (K : own_G p e below Φ T (mkF m (pc + 3) L (.int (Int16.ofInt i).toInt32 :: S))) : own_G p e below Φ T (mkF m pc L S) := own_go (fun _ => XS.sipush X.here B.1 rfl (hb B.2.1 hd)) K
theorem o_dup (X : Stand p l e R s m args below meth c T locs cells slots) (B : own_B p c code ml) {pc : Nat} {L : Array Slot} {S : List Value} {v : Value} (hd : decode code pc = .ok (.dup, 1)) (hv : v.category = 1) (K : own_G p e below Φ T (mkF m (pc + 1) L (v :: v :: S))) : own_G p e below Φ T (mkF m pc L (v :: S)) := own_go (fun _ => XS.dup X.here B.1 rfl (hb B.2.1 hd) rfl hv) K
theorem o_goto (X : Stand p l e R s m args below meth c T locs cells slots) (B : own_B p c code ml) {pc : Nat} {L : Array Slot} {S : List Value} {o : Int} (pc' : Nat) (hd : decode code pc = .ok (.goto o, 3)) (h : (pc : Int) + o = (pc' : Int)) (K : own_G p e below Φ T (mkF m pc' L S)) : own_G p e below Φ T (mkF m pc L S) := own_go (fun _ => XS.goto X.here B.1 rfl rfl (hb B.2.1 hd) (own_jmp h).1 (own_jmp h).2) K
theorem o_ifN (X : Stand p l e R s m args below meth c T locs cells slots) (B : own_B p c code ml) {pc : Nat} {L : Array Slot} {S : List Value} {cd : ClassFile.Cond} {o : Int} {x : Int32} (hd : decode code pc = .ok (.ifCond cd o, 3)) (hc : ifCond.holds cd x = false) (K : own_G p e below Φ T (mkF m (pc + 3) L S)) : own_G p e below Φ T (mkF m pc L (.int x :: S)) := own_go (fun _ => XS.ifNo X.here B.1 rfl (hb B.2.1 hd) rfl hc) K
theorem o_cI (X : Stand p l e R s m args below meth c T locs cells slots) (B : own_B p c code ml) {pc : Nat} {L : Array Slot} {S : List Value} {Z : State} {a0 : Array Value} (hZ : Z.Warmed39 s.vm) {own : String} (hown : s.vm.findClass own = some m.cls) {ix : Nat} {bytes : ByteArray} {maxL : Nat} {ret : Option FieldType} {rm : Room} {as' : Array Value} {h : Heap} {Q : Option Value → Heap → List Loc → Prop} {rest argsL : List Value} {y : MethodName} {b : Addr} (hi : y.name = "<init>") (w1 : (Cond.methodLink own ix y).before a0 Z = true) (w2 : (Cond.instanceMethod y).before a0 Z = true) (w4 : (Cond.code y bytes maxL ret).before a0 Z = true) (w3 : (Cond.initialized y.cls).before a0 Z = true) (hy : y.cls ≠ "java/lang/invoke/MethodHandle" ∧ y.cls ≠ "java/lang/invoke/VarHandle") (hr : ret = none) (W : Nat) (hM : own_Met l y bytes maxL ret [] rm Z h as' Q) (hf : rm.frames + 1 ≤ R.frames) (hl : W + (maxL + 11) + rm.locals ≤ R.locals) (hlen : ∀ sig, parseMethodDescriptor y.desc = some sig → argsL.length = sig.parameters.length) (has : (Value.ref b :: argsL).toArray = as') (hst : S = argsL.reverse ++ .ref b :: rest) (hW : (rest.map fun v => v.category).sum = W) (hd : decode code pc = .ok (.invokespecial ix, 3)) (hh : T.heap = h) (hc : cells + rm.cells ≤ R.cells) (hn : slots + rm.slots ≤ R.slots) (hL : L.size = ml)
    (K : ∀ v T' L', Stand p l e R s m args below meth c T' (locs ++ L') (cells + rm.cells) (slots + rm.slots) → Q v T'.heap L' → own_G p e below Φ T' (mkF m (pc + 3) L (v.toList ++ rest))) :
    own_G p e below Φ T (mkF m pc L S) := by
  subst hr
  obtain ⟨v, _, ⟨T', zL, zk, zn⟩, -, X', ⟨L', hQ, zl, zy, zz⟩, st⟩ := X.specialBack B.1 hi hown (mvT hZ w1) (mvT hZ w2) (mvT hZ w4) hy (backOf (W := W) hM hZ w4 w3 hf hl) (g := mkF m pc L S) rfl (by rw [B.2.2]; exact hL) (Steps.refl _) (a := b) (argsL := argsL) (rest := rest) hlen hst (by show 2 * 0 + _ ≤ _; rw [hW]; omega) (hb B.2.1 hd) (fun _ _ => ⟨has, hh, hc, hn⟩)
  dsimp only [Pt.U, Pt.locs, Pt.cells, Pt.slots] at X' zl zy zz st hQ
  subst zl zy zz
  exact own_on st (K v T' L' X' hQ)
theorem o_cV (X : Stand p l e R s m args below meth c T locs cells slots) (B : own_B p c code ml) {pc : Nat} {L : Array Slot} {S : List Value} {Z : State} {a0 : Array Value} (hZ : Z.Warmed39 s.vm) {own : String} (hown : s.vm.findClass own = some m.cls) {ix : Nat} {bytes : ByteArray} {maxL : Nat} {ret : Option FieldType} {rm : Room} {as' : Array Value} {h : Heap} {Q : Option Value → Heap → List Loc → Prop} {rest argsL : List Value} {C : String} {y : MethodName} {b : Addr} (w1 : (Cond.methodLink own ix y).before a0 Z = true) (w2 : (Cond.declares y).before a0 Z = true) (w5 : (Cond.selects C y y).before a0 Z = true) (w6 : (Cond.instanceMethod y).before a0 Z = true) (w4 : (Cond.code y bytes maxL ret).before a0 Z = true) (w3 : (Cond.initialized y.cls).before a0 Z = true) (hy : y.cls ≠ "java/lang/invoke/MethodHandle" ∧ y.cls ≠ "java/lang/invoke/VarHandle") (ex : Exa Z h b C) (W : Nat) (hM : own_Met l y bytes maxL ret [] rm Z h as' Q) (hf : rm.frames + 1 ≤ R.frames) (hl : W + (maxL + 11) + rm.locals ≤ R.locals) (hlen : ∀ sig, parseMethodDescriptor y.desc = some sig → argsL.length = sig.parameters.length) (has : (Value.ref b :: argsL).toArray = as') (hst : S = argsL.reverse ++ .ref b :: rest) (hW : (rest.map fun v => v.category).sum = W) (hd : decode code pc = .ok (.invokevirtual ix, 3)) (hh : T.heap = h) (hc : cells + rm.cells ≤ R.cells) (hn : slots + rm.slots ≤ R.slots) (hL : L.size = ml)
    (K : ∀ v T' L', Stand p l e R s m args below meth c T' (locs ++ L') (cells + rm.cells) (slots + rm.slots) → Q v T'.heap L' → own_G p e below Φ T' (mkF m (pc + 3) L (v.toList ++ rest))) :
    own_G p e below Φ T (mkF m pc L S) := by
  obtain ⟨cq, kq, q1, q2, q3⟩ := isOf hZ hh ex
  obtain ⟨v, _, ⟨T', zL, zk, zn⟩, -, X', ⟨L', hQ, zl, zy, zz⟩, st⟩ := X.virtualBack B.1 hown (mvT hZ w1) (mvT hZ w2) (notFace_of_selects (args := #[]) (mvT hZ w5)) (mvT hZ w5) (mvT hZ w6) hy (backOf (W := W) hM hZ w4 w3 hf hl) q1 q3 (g := mkF m pc L S) rfl (by rw [B.2.2]; exact hL) (Steps.refl _) (argsL := argsL) (rest := rest) hlen hst (by show 2 * 0 + _ ≤ _; rw [hW]; omega) (hb B.2.1 hd) (fun _ _ => ⟨has, hh, hc, hn⟩)
  dsimp only [Pt.U, Pt.locs, Pt.cells, Pt.slots] at X' zl zy zz st hQ
  subst zl zy zz
  exact own_on st (K v T' L' X' hQ)
theorem o_imul (X : Stand p l e R s m args below meth c T locs cells slots) (B : own_B p c code ml) {pc : Nat} {L : Array Slot} {S : List Value} {x y : Int32} (hd : decode code pc = .ok (.imul, 1))  (K : own_G p e below Φ T (mkF m (pc + 1) L (.int (x * y) :: S))) : own_G p e below Φ T (mkF m pc L (.int y :: .int x :: S)) := own_go (fun _ => XS.imul X.here B.1 rfl (hb B.2.1 hd) rfl) K
theorem o_ladd (X : Stand p l e R s m args below meth c T locs cells slots) (B : own_B p c code ml) {pc : Nat} {L : Array Slot} {S : List Value} {x y : Int64} (hd : decode code pc = .ok (.ladd, 1))  (K : own_G p e below Φ T (mkF m (pc + 1) L (.long (x + y) :: S))) : own_G p e below Φ T (mkF m pc L (.long y :: .long x :: S)) := own_go (fun _ => XS.ladd X.here B.1 rfl (hb B.2.1 hd) rfl) K
theorem o_lsub (X : Stand p l e R s m args below meth c T locs cells slots) (B : own_B p c code ml) {pc : Nat} {L : Array Slot} {S : List Value} {x y : Int64} (hd : decode code pc = .ok (.lsub, 1))  (K : own_G p e below Φ T (mkF m (pc + 1) L (.long (x - y) :: S))) : own_G p e below Φ T (mkF m pc L (.long y :: .long x :: S)) := own_go (fun _ => XS.lsub X.here B.1 rfl (hb B.2.1 hd) rfl) K
theorem o_lmul (X : Stand p l e R s m args below meth c T locs cells slots) (B : own_B p c code ml) {pc : Nat} {L : Array Slot} {S : List Value} {x y : Int64} (hd : decode code pc = .ok (.lmul, 1))  (K : own_G p e below Φ T (mkF m (pc + 1) L (.long (x * y) :: S))) : own_G p e below Φ T (mkF m pc L (.long y :: .long x :: S)) := own_go (fun _ => XS.lmul X.here B.1 rfl (hb B.2.1 hd) rfl) K
theorem o_ishr (X : Stand p l e R s m args below meth c T locs cells slots) (B : own_B p c code ml) {pc : Nat} {L : Array Slot} {S : List Value} {x y : Int32} (hd : decode code pc = .ok (.ishr, 1))  (K : own_G p e below Φ T (mkF m (pc + 1) L (.int (x >>> (y &&& 31)) :: S))) : own_G p e below Φ T (mkF m pc L (.int y :: .int x :: S)) := own_go (fun _ => XS.ishr X.here B.1 rfl (hb B.2.1 hd) rfl) K
theorem o_i2l (X : Stand p l e R s m args below meth c T locs cells slots) (B : own_B p c code ml) {pc : Nat} {L : Array Slot} {S : List Value} {x : Int32} (hd : decode code pc = .ok (.i2l, 1))  (K : own_G p e below Φ T (mkF m (pc + 1) L (.long (x.toInt64) :: S))) : own_G p e below Φ T (mkF m pc L (.int x :: S)) := own_go (fun _ => XS.i2l X.here B.1 rfl (hb B.2.1 hd) rfl) K
theorem o_l2i (X : Stand p l e R s m args below meth c T locs cells slots) (B : own_B p c code ml) {pc : Nat} {L : Array Slot} {S : List Value} {x : Int64} (hd : decode code pc = .ok (.l2i, 1))  (K : own_G p e below Φ T (mkF m (pc + 1) L (.int (x.toInt32) :: S))) : own_G p e below Φ T (mkF m pc L (.long x :: S)) := own_go (fun _ => XS.l2i X.here B.1 rfl (hb B.2.1 hd) rfl) K
theorem o_i2s (X : Stand p l e R s m args below meth c T locs cells slots) (B : own_B p c code ml) {pc : Nat} {L : Array Slot} {S : List Value} {x : Int32} (hd : decode code pc = .ok (.i2s, 1))  (K : own_G p e below Φ T (mkF m (pc + 1) L (.int (x.toInt16.toInt32) :: S))) : own_G p e below Φ T (mkF m pc L (.int x :: S)) := own_go (fun _ => XS.i2s X.here B.1 rfl (hb B.2.1 hd) rfl) K
theorem o_lshr (X : Stand p l e R s m args below meth c T locs cells slots) (B : own_B p c code ml) {pc : Nat} {L : Array Slot} {S : List Value} {x : Int64} {y : Int32} (hd : decode code pc = .ok (.lshr, 1))  (K : own_G p e below Φ T (mkF m (pc + 1) L (.long (x >>> (y &&& 0x3f).toInt64) :: S))) : own_G p e below Φ T (mkF m pc L (.int y :: .long x :: S)) := own_go (fun _ => XS.lshr X.here B.1 rfl (hb B.2.1 hd) rfl) K
theorem o_dload (X : Stand p l e R s m args below meth c T locs cells slots) (B : own_B p c code ml) {pc : Nat} {L : Array Slot} {S : List Value} {k : Nat} {v : UInt64} (hd : decode code pc = .ok (.dload k, 2)) (hl : L[k]? = some (.val (.double v))) (K : own_G p e below Φ T (mkF m (pc + 2) L (.double v :: S))) : own_G p e below Φ T (mkF m pc L S) := own_go (fun _ => XS.dload X.here B.1 rfl (hb B.2.1 hd) hl) K
theorem o_dloadN (X : Stand p l e R s m args below meth c T locs cells slots) (B : own_B p c code ml) {pc : Nat} {L : Array Slot} {S : List Value} {k : Fin 4} {v : UInt64} (hd : decode code pc = .ok (.dload_n k, 1)) (hl : L[k.val]? = some (.val (.double v))) (K : own_G p e below Φ T (mkF m (pc + 1) L (.double v :: S))) : own_G p e below Φ T (mkF m pc L S) := own_go (fun _ => XS.dloadN X.here B.1 rfl (hb B.2.1 hd) hl) K
theorem o_dstore (X : Stand p l e R s m args below meth c T locs cells slots) (B : own_B p c code ml) {pc : Nat} {L : Array Slot} {S : List Value} {k : Nat} {x : UInt64} {L' : Array Slot} (hd : decode code pc = .ok (.dstore k, 2)) (hl : storeLocals L k (.double x) = some L') (K : own_G p e below Φ T (mkF m (pc + 2) L' S)) : own_G p e below Φ T (mkF m pc L (.double x :: S)) := own_go (fun _ => XS.dstore X.here B.1 rfl (hb B.2.1 hd) rfl hl) K
theorem o_i2d (X : Stand p l e R s m args below meth c T locs cells slots) (B : own_B p c code ml) {pc : Nat} {L : Array Slot} {S : List Value} {x : Int32} (hd : decode code pc = .ok (.i2d, 1))  (K : own_G p e below Φ T (mkF m (pc + 1) L (.double (Jvm.FP.i2d x) :: S))) : own_G p e below Φ T (mkF m pc L (.int x :: S)) := own_go (fun _ => XS.i2dS X.here B.1 rfl (hb B.2.1 hd) rfl rfl) K
theorem o_l2d (X : Stand p l e R s m args below meth c T locs cells slots) (B : own_B p c code ml) {pc : Nat} {L : Array Slot} {S : List Value} {x : Int64} (hd : decode code pc = .ok (.l2d, 1))  (K : own_G p e below Φ T (mkF m (pc + 1) L (.double (Jvm.FP.l2d x) :: S))) : own_G p e below Φ T (mkF m pc L (.long x :: S)) := own_go (fun _ => XS.l2dS X.here B.1 rfl (hb B.2.1 hd) rfl rfl) K
theorem o_dmul (X : Stand p l e R s m args below meth c T locs cells slots) (B : own_B p c code ml) {pc : Nat} {L : Array Slot} {S : List Value} {x y : UInt64} (hd : decode code pc = .ok (.dmul, 1)) (hn : Jvm.Free.Fl.NoNaN64 (Jvm.FP.dmul x y)) (K : own_G p e below Φ T (mkF m (pc + 1) L (.double (Jvm.FP.dmul x y) :: S))) : own_G p e below Φ T (mkF m pc L (.double y :: .double x :: S)) := own_go (fun _ => XS.dmulS X.here B.1 rfl (hb B.2.1 hd) rfl hn rfl) K
theorem o_ddiv (X : Stand p l e R s m args below meth c T locs cells slots) (B : own_B p c code ml) {pc : Nat} {L : Array Slot} {S : List Value} {x y : UInt64} (hd : decode code pc = .ok (.ddiv, 1)) (hn : Jvm.Free.Fl.NoNaN64 (Jvm.FP.ddiv x y)) (K : own_G p e below Φ T (mkF m (pc + 1) L (.double (Jvm.FP.ddiv x y) :: S))) : own_G p e below Φ T (mkF m pc L (.double y :: .double x :: S)) := own_go (fun _ => XS.ddivS X.here B.1 rfl (hb B.2.1 hd) rfl hn rfl) K
theorem o_dadd (X : Stand p l e R s m args below meth c T locs cells slots) (B : own_B p c code ml) {pc : Nat} {L : Array Slot} {S : List Value} {x y : UInt64} (hd : decode code pc = .ok (.dadd, 1)) (hn : Jvm.Free.Fl.NoNaN64 (Jvm.FP.dadd x y)) (K : own_G p e below Φ T (mkF m (pc + 1) L (.double (Jvm.FP.dadd x y) :: S))) : own_G p e below Φ T (mkF m pc L (.double y :: .double x :: S)) := own_go (fun _ => XS.daddS X.here B.1 rfl (hb B.2.1 hd) rfl hn rfl) K
theorem o_dsub (X : Stand p l e R s m args below meth c T locs cells slots) (B : own_B p c code ml) {pc : Nat} {L : Array Slot} {S : List Value} {x y : UInt64} (hd : decode code pc = .ok (.dsub, 1)) (hn : Jvm.Free.Fl.NoNaN64 (Jvm.FP.dsub x y)) (K : own_G p e below Φ T (mkF m (pc + 1) L (.double (Jvm.FP.dsub x y) :: S))) : own_G p e below Φ T (mkF m pc L (.double y :: .double x :: S)) := own_go (fun _ => XS.dsubS X.here B.1 rfl (hb B.2.1 hd) rfl hn rfl) K
theorem o_dcmp (X : Stand p l e R s m args below meth c T locs cells slots) (B : own_B p c code ml) {pc : Nat} {L : Array Slot} {S : List Value} {o : CmpOp} {x y : UInt64} (v : Int32) (hd : decode code pc = .ok (.dcmp o, 1)) (hv : cmpValue (Jvm.FP.dcmp x y) o = v) (K : own_G p e below Φ T (mkF m (pc + 1) L (.int v :: S))) : own_G p e below Φ T (mkF m pc L (.double y :: .double x :: S)) := own_go (fun _ => XS.dcmpS X.here B.1 rfl (hb B.2.1 hd) rfl hv) K
theorem o_gf (X : Stand p l e R s m args below meth c T locs cells slots) (B : own_B p c code ml) {pc : Nat} {L : Array Slot} {S : List Value} {Z : State} {a0 : Array Value} (hZ : Z.Warmed39 s.vm) {own : String} (hown : s.vm.findClass own = some m.cls) {R0 O n d : String} {ix : Nat} (w : (Cond.fieldLink own ix R0 n d).before a0 Z = true) (via : Via Z R0 O n d) {h : Heap} (eT : T.heap = h) {a : Addr} {v : Value} (F : Fld Z h a O n d v) (hd : decode code pc = .ok (.getfield ix, 3)) (K : ∀ T', Stand p l e R s m args below meth c T' locs cells slots → T'.heap = h → own_G p e below Φ T' (mkF m (pc + 3) L (v :: S))) :
    own_G p e below Φ T (mkF m pc L (.ref a :: S)) := by
  obtain ⟨T', X', e', st⟩ := getF X B.1 hZ hown (host := "") (Or.inl w) via eT F (g := mkF m pc L (.ref a :: S)) rfl rfl (hb B.2.1 hd)
  exact own_go st (K T' X' e')
theorem o_pf (X : Stand p l e R s m args below meth c T locs cells slots) (B : own_B p c code ml) {pc : Nat} {L : Array Slot} {S : List Value} {Z : State} {a0 : Array Value} (hZ : Z.Warmed39 s.vm) {own : String} (hown : s.vm.findClass own = some m.cls) {R0 O n d C : String} {ix kk : Nat} {ty : FieldType} (w : (Cond.fieldLink own ix R0 n d).before a0 Z = true) (via : Via Z R0 O n d) {h : Heap} (eT : T.heap = h) {a : Addr} {v old : Value} (F : Fld Z h a O n d old) (E : Exa Z h a C) (Ly : (Cond.lays C O n d).before a0 Z = true ∨ ((Cond.laysFinal C O n d).before a0 Z = true ∧ own = O ∧ meth.name = "<init>")) (wi : (Cond.instantiable C kk).before a0 Z = true) (hty : parseFieldDescriptor d = some ty) (hn : narrow ty v = v) (hf : fits ty v = true) (hd : decode code pc = .ok (.putfield ix, 3)) (K : ∀ T' h', Stand p l e R s m args below meth c T' (locs ++ [⟨a, slotOf Z O n d⟩]) cells slots → T'.heap = h' → Wr h h' a (slotOf Z O n d) v → own_G p e below Φ T' (mkF m (pc + 3) L S)) :
    own_G p e below Φ T (mkF m pc L (v :: .ref a :: S)) := by
  obtain ⟨T', h', X', e', W, st⟩ := putF X B.1 hZ hown (host := "") (Or.inl w) via eT F E Ly wi hty hn hf (g := mkF m pc L (v :: .ref a :: S)) rfl rfl (hb B.2.1 hd)
  exact own_go st (K T' h' X' e' W)
theorem o_io (X : Stand p l e R s m args below meth c T locs cells slots) (B : own_B p c code ml) {pc : Nat} {L : Array Slot} {S : List Value} {Z : State} {a0 : Array Value} (hZ : Z.Warmed39 s.vm) {own : String} (hown : s.vm.findClass own = some m.cls) {ix : Nat} (w1 : (Cond.methodLink own ix Lib.objectInit).before a0 Z = true) (w2 : (Cond.instanceMethod Lib.objectInit).before a0 Z = true) (w3 : (Cond.code Lib.objectInit ⟨#[0xb1]⟩ 1 none).before a0 Z = true) {h : Heap} (eT : T.heap = h) {a : Addr} (hd : decode code pc = .ok (.invokespecial ix, 3)) (hf : 1 ≤ R.frames) (W : Nat) (hW : (S.map fun v => v.category).sum = W) (hl : W + 12 ≤ R.locals) (hL : L.size = ml) (K : ∀ T', Stand p l e R s m args below meth c T' locs cells slots → T'.heap = h → own_G p e below Φ T' (mkF m (pc + 3) L S)) :
    own_G p e below Φ T (mkF m pc L (.ref a :: S)) := by
  obtain ⟨T', X', e', st⟩ := initO X B.1 hZ hown w1 w2 w3 eT (g := mkF m pc L (.ref a :: S)) rfl (by rw [B.2.2]; exact hL) rfl (hb B.2.1 hd) hf (W := W) (by show 2 * 0 + _ ≤ _; rw [hW]; omega) hl
  exact own_go st (K T' X' e')
theorem o_new (X : Stand p l e R s m args below meth c T locs cells slots) (B : own_B p c code ml) {pc : Nat} {L : Array Slot} {S : List Value} {Z : State} {a0 : Array Value} (hZ : Z.Warmed39 s.vm) {own : String} (hown : s.vm.findClass own = some m.cls) {C : String} {ix n : Nat} (w : (Cond.classLink own ix C).before a0 Z = true) (wi : (Cond.instantiable C n).before a0 Z = true) (wz : (Cond.initialized C).before a0 Z = true) {h : Heap} (eT : T.heap = h) (hd : decode code pc = .ok (.new ix, 3)) (hc : cells + 1 ≤ R.cells) (hl : slots + n ≤ R.slots) (K : ∀ T' h' x, x = h.size → Stand p l e R s m args below meth c T' locs (cells + 1) (slots + n) → T'.heap = h' → Ext h h' → Exa Z h' x C → (∀ {O nm d : String} {ty : FieldType}, Laid Z a0 C O nm d → parseFieldDescriptor d = some ty → Fld Z h' x O nm d (defaultValue ty)) → own_G p e below Φ T' (mkF m (pc + 3) L (.ref x :: S))) :
    own_G p e below Φ T (mkF m pc L S) := by
  obtain ⟨T', h', X', e', E, A, D, -, st⟩ := newO X B.1 hZ hown w wi wz eT (g := mkF m pc L S) rfl (hb B.2.1 hd) hc hl
  exact own_go st (K T' h' _ rfl X' e' E A D)
theorem o_ld2 (X : Stand p l e R s m args below meth c T locs cells slots) (B : own_B p c code ml) {pc : Nat} {L : Array Slot} {S : List Value} {Z : State} {a0 : Array Value} (hZ : Z.Warmed39 s.vm) {own : String} (hown : s.vm.findClass own = some m.cls) {ix : Nat} {b : UInt64} (w : (Cond.constantDouble own ix b).before a0 Z = true) (hd : decode code pc = .ok (.ldc2_w ix, 3)) (K : own_G p e below Φ T (mkF m (pc + 3) L (.double b :: S))) : own_G p e below Φ T (mkF m pc L S) := own_go (fun _ => X.ldc2DoubleC B.1 hown (mvT hZ w) (g := mkF m pc L S) rfl (hb B.2.1 hd) _) K
theorem o_rV (X : Stand p l e R s m args below meth c T locs cells slots) (B : own_B p c code ml) {pc : Nat} {L : Array Slot} {Q : Option Value → Heap → List Loc → Prop} {k n : Nat} (hΦ : Φ = own_E s below Q k n) (hlk : meth.locks = false) (hret : meth.sig.returnType = none) (hd : decode code pc = .ok (.return_, 1)) {h : Heap} (eT : T.heap = h) (hc : cells ≤ k) (hn : slots ≤ n) (hq : Q none h locs) : own_G p e below Φ T (mkF m pc L []) := by
  subst hΦ eT
  exact own_ret X (fun _ => rfl) hlk (fun fs hr => X.returnOut B.1 hret (hb B.2.1 hd) hr) hq hc hn
theorem o_rZ (X : Stand p l e R s m args below meth c T locs cells slots) (B : own_B p c code ml) {pc : Nat} {L : Array Slot} {S : List Value} {Q : Option Value → Heap → List Loc → Prop} {k n : Nat} (hΦ : Φ = own_E s below Q k n) (hlk : meth.locks = false) {t : FieldType} (hret : meth.sig.returnType = some t) (ht : t = .boolean ∨ t = .byte ∨ t = .char ∨ t = .short) {x : Int32} (hd : decode code pc = .ok (.ireturn, 1)) (x' : Int32) (hx : nar t x = x') {h : Heap} (eT : T.heap = h) (hc : cells ≤ k) (hn : slots ≤ n) (hq : Q (some (.int x')) h locs) : own_G p e below Φ T (mkF m pc L (.int x :: S)) := by
  subst hΦ eT hx
  exact own_ret X (fun q => by rw [hret] at q; cases q) hlk (fun fs hr => retN X B.1 hret ht (hb B.2.1 hd) hr) hq hc hn
theorem o_rD (X : Stand p l e R s m args below meth c T locs cells slots) (B : own_B p c code ml) {pc : Nat} {L : Array Slot} {S : List Value} {Q : Option Value → Heap → List Loc → Prop} {k n : Nat} (hΦ : Φ = own_E s below Q k n) (hlk : meth.locks = false) (hret : meth.sig.returnType = some .double) {x : UInt64} (hd : decode code pc = .ok (.dreturn, 1)) {h : Heap} (eT : T.heap = h) (hc : cells ≤ k) (hn : slots ≤ n) (hq : Q (some (.double x)) h locs) : own_G p e below Φ T (mkF m pc L (.double x :: S)) := by
  subst hΦ eT
  exact own_ret X (fun q => by rw [hret] at q; cases q) hlk (fun fs hr => retOut X B.1 hret rfl (Or.inr (Or.inr (Or.inl ⟨rfl, rfl, _, rfl⟩))) (hb B.2.1 hd) hr) hq hc hn
theorem own_nf {s : State} {args : Array Value} {C : String} {x y z : MethodName} (w : (Cond.selects C x z).before args s = true) (hc : y.cls = z.cls) : NotFace s y := fun r0 h0 => by
  obtain ⟨c, r, m, -, -, h3, -, mk, h4, h5⟩ := Cond.selects_spec w
  have a := findClass_of_methodNamed h0
  have b := findClass_of_methodNamed h3
  rw [hc] at a
  have q := Option.some.inj (a.symm.trans b)
  exact ⟨mk, by rw [q]; exact h4, h5⟩
end Steps
end Own
end Jvm.RoadKit
namespace Jvm.Pilot.@@N@@
open Jvm Jvm.ClassFile Sem Op Lib Jvm.Free Jvm.Stand Jvm.LawKit Jvm.RoadKit Bundle Jvm.Pilot.@@N@@.Jvm.D

section OwnF
open Jvm.FP.Core
theorem own_nn {i : Int} {a : UInt64} (h : DInt i a) : Jvm.Free.Fl.NoNaN64 a := by
  refine Jvm.Free.Fl.noNaN64_no.mpr ?_
  have q : val64 a ≠ .nan := fun e => by unfold DInt at h; rw [e] at h; exact h
  cases hb : Jvm.FP.Core.dIsNaN a with
  | false => rfl
  | true => exact absurd ((dIsNaN_iff a).mp hb) q
theorem own_sg {k j : Int} (hk : k ≠ 0) (hj : j ≠ 0) : (decide (k * j < 0) != decide (j < 0)) = decide (k < 0) := by
  by_cases a : k < 0
  · by_cases b : j < 0
    · have h := Int.mul_pos_of_neg_of_neg a b
      rw [decide_eq_false (show ¬ k * j < 0 by omega), decide_eq_true b, decide_eq_true a]; rfl
    · have h := Int.mul_neg_of_neg_of_pos a (show 0 < j by omega)
      rw [decide_eq_true h, decide_eq_false b, decide_eq_true a]; rfl
  · by_cases b : j < 0
    · have h := Int.mul_neg_of_pos_of_neg (show 0 < k by omega) b
      rw [decide_eq_true h, decide_eq_true b, decide_eq_false a]; rfl
    · have h := Int.mul_pos (show 0 < k by omega) (show 0 < j by omega)
      rw [decide_eq_false (show ¬ k * j < 0 by omega), decide_eq_false b, decide_eq_false a]; rfl
/-- a division that comes out whole is exact -/
theorem own_div {k j : Int} {a b : UInt64} (ha : DInt (k * j) a) (hb : DInt j b) (hj : j ≠ 0) (hk : k.natAbs ≤ 2 ^ 53) : DInt k (Jvm.FP.Core.ddiv a b) := by
  unfold DInt at ha hb ⊢
  rw [val64_ddiv]
  revert ha hb
  generalize val64 a = x
  generalize val64 b = y
  intro ha hb
  cases x with
  | nan => exact ha.elim
  | inf => exact ha.elim
  | fin s c q =>
  cases y with
  | nan => exact hb.elim
  | inf => exact hb.elim
  | fin t d r =>
    have hd : d ≠ 0 := fun h => hj ((whole_zero hb).mp h)
    have e : roundRatio b64 (s != t) c d (q - r) = roundRatio b64 (s != t) k.natAbs 1 0 := by
      refine roundRatio_congr (Nat.pos_of_ne_zero hd) (by decide) ?_
      have h1 := whole_natAbs ha
      have h2 := whole_natAbs hb
      rw [Int.natAbs_mul] at h1
      have p : 0 < 2 ^ (q.toNat + (-r).toNat) := Nat.two_pow_pos _
      refine Nat.eq_of_mul_eq_mul_right p ?_
      have hx : r.toNat + ((-q).toNat + (q - r - 0).toNat) = (0 - (q - r)).toNat + (q.toNat + (-r).toNat) := by omega
      calc c * 1 * 2 ^ (q - r - 0).toNat * 2 ^ (q.toNat + (-r).toNat)
          = (c * 2 ^ q.toNat) * 2 ^ (-r).toNat * 2 ^ (q - r - 0).toNat := by rw [Nat.pow_add, Nat.mul_one]; ac_rfl
        _ = (k.natAbs * j.natAbs * 2 ^ (-q).toNat) * 2 ^ (-r).toNat * 2 ^ (q - r - 0).toNat := by rw [h1]
        _ = k.natAbs * (j.natAbs * 2 ^ (-r).toNat) * (2 ^ (-q).toNat * 2 ^ (q - r - 0).toNat) := by ac_rfl
        _ = k.natAbs * (d * 2 ^ r.toNat) * (2 ^ (-q).toNat * 2 ^ (q - r - 0).toNat) := by rw [← h2]
        _ = k.natAbs * d * 2 ^ (r.toNat + ((-q).toNat + (q - r - 0).toNat)) := by rw [Nat.pow_add, Nat.pow_add]; ac_rfl
        _ = k.natAbs * d * 2 ^ (0 - (q - r)).toNat * 2 ^ (q.toNat + (-r).toNat) := by rw [hx, Nat.pow_add 2 (0 - (q - r)).toNat, ← Nat.mul_assoc]
    show Whole k (if d = 0 then _ else roundRatio b64 (s != t) c d (q - r))
    rw [if_neg hd, e]
    have w : Whole k (.fin (s != t) k.natAbs 0) := by
      show signed (s != t) (k.natAbs * 1) = k * ((1 : Nat) : Int)
      rw [Nat.mul_one]
      by_cases h0 : k = 0
      · subst h0
        first | simp [signed] | (rw [Int.natAbs_zero, signed_zero]; rfl)
      · rw [whole_sign ha (Int.mul_ne_zero h0 hj), whole_sign hb hj, own_sg h0 hj]
        unfold signed
        by_cases h : k < 0 <;> simp [h] <;> omega
    exact whole_round good_b64 wide_b64 hk w
theorem own_1000 : DInt 1000 4652007308841189376 := by
  unfold DInt
  rw [show val64 4652007308841189376 = .fin false 8796093022208000 (-43) from by decide +kernel]
  show signed false (8796093022208000 * 2 ^ (-43 : Int).toNat) = 1000 * ((2 ^ (- -43 : Int).toNat : Nat) : Int)
  decide +kernel
theorem own_3600 : DInt 3600 4660134898793709568 := by
  unfold DInt
  rw [show val64 4660134898793709568 = .fin false 7916483719987200 (-41) from by decide +kernel]
  show signed false (7916483719987200 * 2 ^ (-41 : Int).toNat) = 3600 * ((2 ^ (- -41 : Int).toNat : Nat) : Int)
  decide +kernel
/-- one fare or cost: rate times quantity, by its unit -/
theorem own_part {K a u : Int} {f d k : UInt64} (hK : K = 1000 ∨ K = 3600) (hk : DInt K k) (ha : a.natAbs ≤ 32768) (hu : u.natAbs ≤ 1048576) (hf : DInt (K * a) f) (hd : DInt u d) :
    Jvm.Free.Fl.NoNaN64 (Jvm.FP.dmul f d) ∧ DInt (a * u) (Jvm.FP.ddiv (Jvm.FP.dmul f d) k) ∧ (a * u).natAbs ≤ 34359738368 := by
  have hb : (a * u).natAbs ≤ 34359738368 := by rw [Int.natAbs_mul]; exact Nat.mul_le_mul ha hu
  have e : K * a * u = a * u * K := by rw [Int.mul_assoc, Int.mul_comm]
  have hm : DInt (K * a * u) (Jvm.FP.dmul f d) := dmul_int hf hd (by
    rw [e, Int.natAbs_mul]
    rcases hK with rfl | rfl
    · exact Nat.le_trans (Nat.mul_le_mul hb (Nat.le_refl _)) (by decide)
    · exact Nat.le_trans (Nat.mul_le_mul hb (Nat.le_refl _)) (by decide))
  rw [e] at hm
  exact ⟨own_nn hm, own_div hm hk (by rcases hK with rfl | rfl <;> decide) (Nat.le_trans hb (by decide)), hb⟩
def own_q1 (f d : UInt64) : UInt64 := Jvm.FP.ddiv (Jvm.FP.dmul f d) 4652007308841189376
def own_q2 (f d : UInt64) : UInt64 := Jvm.FP.ddiv (Jvm.FP.dmul f d) 4660134898793709568
/-- what profitUsd computes -/
def own_pr (f1 f2 f3 f4 d1 d2 d3 d4 : UInt64) : UInt64 := Jvm.FP.dsub (Jvm.FP.dsub (Jvm.FP.dadd (own_q1 f1 d1) (own_q2 f2 d2)) (own_q1 f3 d3)) (own_q2 f4 d4)
/-- nothing on its road is a NaN -/
def own_P (f1 f2 f3 f4 d1 d2 d3 d4 : UInt64) : Prop :=
  (Jvm.Free.Fl.NoNaN64 (Jvm.FP.dmul f1 d1) ∧ Jvm.Free.Fl.NoNaN64 (own_q1 f1 d1)) ∧ (Jvm.Free.Fl.NoNaN64 (Jvm.FP.dmul f2 d2) ∧ Jvm.Free.Fl.NoNaN64 (own_q2 f2 d2)) ∧ Jvm.Free.Fl.NoNaN64 (Jvm.FP.dadd (own_q1 f1 d1) (own_q2 f2 d2)) ∧
  (Jvm.Free.Fl.NoNaN64 (Jvm.FP.dmul f3 d3) ∧ Jvm.Free.Fl.NoNaN64 (own_q1 f3 d3)) ∧ Jvm.Free.Fl.NoNaN64 (Jvm.FP.dsub (Jvm.FP.dadd (own_q1 f1 d1) (own_q2 f2 d2)) (own_q1 f3 d3)) ∧
  (Jvm.Free.Fl.NoNaN64 (Jvm.FP.dmul f4 d4) ∧ Jvm.Free.Fl.NoNaN64 (own_q2 f4 d4)) ∧ Jvm.Free.Fl.NoNaN64 (own_pr f1 f2 f3 f4 d1 d2 d3 d4)
theorem own_calc {a b c d u v w x : Int} (ha : a.natAbs ≤ 32768) (hb : b.natAbs ≤ 32768) (hc : c.natAbs ≤ 32768) (hd : d.natAbs ≤ 32768) (hu : u.natAbs ≤ 1048576) (hv : v.natAbs ≤ 1048576) (hw : w.natAbs ≤ 1048576) (hx : x.natAbs ≤ 1048576) {f1 f2 f3 f4 d1 d2 d3 d4 : UInt64}
    (F1 : DInt (1000 * a) f1) (F2 : DInt (3600 * b) f2) (F3 : DInt (1000 * c) f3) (F4 : DInt (3600 * d) f4) (D1 : DInt u d1) (D2 : DInt v d2) (D3 : DInt w d3) (D4 : DInt x d4) :
    own_P f1 f2 f3 f4 d1 d2 d3 d4 ∧ DInt (a * u + b * v - c * w - d * x) (own_pr f1 f2 f3 f4 d1 d2 d3 d4) := by
  obtain ⟨n1, q1, b1⟩ := own_part (Or.inl rfl) own_1000 ha hu F1 D1
  obtain ⟨n2, q2, b2⟩ := own_part (Or.inr rfl) own_3600 hb hv F2 D2
  obtain ⟨n3, q3, b3⟩ := own_part (Or.inl rfl) own_1000 hc hw F3 D3
  obtain ⟨n4, q4, b4⟩ := own_part (Or.inr rfl) own_3600 hd hx F4 D4
  generalize a * u = A at q1 b1 ⊢
  generalize b * v = B at q2 b2 ⊢
  generalize c * w = C at q3 b3 ⊢
  generalize d * x = D at q4 b4 ⊢
  have s1 := dadd_int q1 q2 (by omega)
  have s2 := dsub_int s1 q3 (by omega)
  have s3 := dsub_int s2 q4 (by omega)
  exact ⟨⟨⟨n1, own_nn q1⟩, ⟨n2, own_nn q2⟩, own_nn s1, ⟨n3, own_nn q3⟩, own_nn s2, ⟨n4, own_nn q4⟩, own_nn s3⟩, s3⟩
end OwnF
theorem own_s16 {y x : Int32} (h : y.toInt16.toInt32 = x) : x.toInt.natAbs ≤ 32768 := by
  have e : x.toInt = y.toInt16.toInt := by rw [← h]; exact Int16.toInt_toInt32 _
  have h1 := y.toInt16.toInt_lt
  have h2 := y.toInt16.le_toInt
  omega
theorem own_q21 {y x : Int32} (h : y >>> ((11 : Int32) &&& 31) = x) : x.toInt.natAbs ≤ 1048576 := by
  have e : x.toInt = y.toInt >>> (11 : Nat) := by
    rw [← h]
    have q : (y >>> ((11 : Int32) &&& 31)).toBitVec = y.toBitVec.sshiftRight 11 := by
      rw [Int32.toBitVec_shiftRight]
      have : ((11 : Int32) &&& 31).toBitVec.smod 32 = 11#32 := by decide
      rw [this]
      rfl
    have q2 : (y >>> ((11 : Int32) &&& 31)).toInt = (y >>> ((11 : Int32) &&& 31)).toBitVec.toInt := rfl
    rw [q2, q, BitVec.toInt_sshiftRight]
    rfl
  have h1 := y.toInt_lt
  have h2 := y.le_toInt
  have e3 : x.toInt = y.toInt / 2048 := by rw [e, Int.shiftRight_eq_div_pow]; rfl
  omega
theorem own_m32 {K x : Int32} {k : Int} (hK : K.toInt = k) (hk : 0 ≤ k ∧ k ≤ 3600) (hx : x.toInt.natAbs ≤ 32768) : (K * x).toInt = k * x.toInt := by
  rw [Int32.toInt_mul, hK]
  have b : (k * x.toInt).natAbs ≤ 117964800 := by
    rw [Int.natAbs_mul]
    exact Nat.mul_le_mul (show k.natAbs ≤ 3600 by omega) hx
  generalize k * x.toInt = z at b ⊢
  exact Int.bmod_eq_of_le (by omega) (by omega)
theorem own_m64 {a u : Int32} (ha : a.toInt.natAbs ≤ 32768) (hu : u.toInt.natAbs ≤ 1048576) : (a.toInt64 * u.toInt64).toInt = a.toInt * u.toInt ∧ (a.toInt * u.toInt).natAbs ≤ 34359738368 := by
  have b : (a.toInt * u.toInt).natAbs ≤ 34359738368 := by
    rw [Int.natAbs_mul]
    exact Nat.mul_le_mul ha hu
  refine ⟨?_, b⟩
  rw [Int64.toInt_mul, Int32.toInt_toInt64, Int32.toInt_toInt64]
  generalize a.toInt * u.toInt = z at b ⊢
  exact Int.bmod_eq_of_le (by omega) (by omega)
theorem own_sum {A B C D : Int64} (a : A.toInt.natAbs ≤ 34359738368) (b : B.toInt.natAbs ≤ 34359738368) (c : C.toInt.natAbs ≤ 34359738368) (d : D.toInt.natAbs ≤ 34359738368) : (A + B - C - D).toInt = A.toInt + B.toInt - C.toInt - D.toInt := by
  have e1 : (A + B).toInt = A.toInt + B.toInt := by rw [Int64.toInt_add]; exact Int.bmod_eq_of_le (by omega) (by omega)
  have e2 : (A + B - C).toInt = A.toInt + B.toInt - C.toInt := by rw [Int64.toInt_sub, e1]; exact Int.bmod_eq_of_le (by omega) (by omega)
  rw [Int64.toInt_sub, e2]
  exact Int.bmod_eq_of_le (by omega) (by omega)
/-- the law's arithmetic -/
theorem own_law {a b c d u v w x : Int32} (ha : a.toInt.natAbs ≤ 32768) (hb : b.toInt.natAbs ≤ 32768) (hc : c.toInt.natAbs ≤ 32768) (hd : d.toInt.natAbs ≤ 32768) (hu : u.toInt.natAbs ≤ 1048576) (hv : v.toInt.natAbs ≤ 1048576) (hw : w.toInt.natAbs ≤ 1048576) (hx : x.toInt.natAbs ≤ 1048576) :
    own_P (Jvm.FP.i2d ((1000 : Int32) * a)) (Jvm.FP.i2d ((3600 : Int32) * b)) (Jvm.FP.i2d ((1000 : Int32) * c)) (Jvm.FP.i2d ((3600 : Int32) * d)) (Jvm.FP.i2d u) (Jvm.FP.i2d v) (Jvm.FP.i2d w) (Jvm.FP.i2d x) ∧
    cmpValue (Jvm.FP.dcmp (own_pr (Jvm.FP.i2d ((1000 : Int32) * a)) (Jvm.FP.i2d ((3600 : Int32) * b)) (Jvm.FP.i2d ((1000 : Int32) * c)) (Jvm.FP.i2d ((3600 : Int32) * d)) (Jvm.FP.i2d u) (Jvm.FP.i2d v) (Jvm.FP.i2d w) (Jvm.FP.i2d x)) (Jvm.FP.l2d (a.toInt64 * u.toInt64 + b.toInt64 * v.toInt64 - c.toInt64 * w.toInt64 - d.toInt64 * x.toInt64))) .l = 0 := by
  have k1 : ∀ {z : Int32}, z.toInt.natAbs ≤ 32768 → Jvm.FP.Core.DInt (1000 * z.toInt) (Jvm.FP.i2d ((1000 : Int32) * z)) := fun {z} h => by
    have q := Jvm.FP.Core.i2d_int ((1000 : Int32) * z)
    rw [own_m32 (K := 1000) (k := 1000) rfl ⟨by decide, by decide⟩ h] at q
    exact q
  have k2 : ∀ {z : Int32}, z.toInt.natAbs ≤ 32768 → Jvm.FP.Core.DInt (3600 * z.toInt) (Jvm.FP.i2d ((3600 : Int32) * z)) := fun {z} h => by
    have q := Jvm.FP.Core.i2d_int ((3600 : Int32) * z)
    rw [own_m32 (K := 3600) (k := 3600) rfl ⟨by decide, by decide⟩ h] at q
    exact q
  obtain ⟨hP, hD⟩ := own_calc ha hb hc hd hu hv hw hx (k1 ha) (k2 hb) (k1 hc) (k2 hd) (Jvm.FP.Core.i2d_int u) (Jvm.FP.Core.i2d_int v) (Jvm.FP.Core.i2d_int w) (Jvm.FP.Core.i2d_int x)
  refine ⟨hP, ?_⟩
  obtain ⟨p1, b1⟩ := own_m64 ha hu
  obtain ⟨p2, b2⟩ := own_m64 hb hv
  obtain ⟨p3, b3⟩ := own_m64 hc hw
  obtain ⟨p4, b4⟩ := own_m64 hd hx
  have e : (a.toInt64 * u.toInt64 + b.toInt64 * v.toInt64 - c.toInt64 * w.toInt64 - d.toInt64 * x.toInt64).toInt = a.toInt * u.toInt + b.toInt * v.toInt - c.toInt * w.toInt - d.toInt * x.toInt := by
    rw [own_sum (by rw [p1]; exact b1) (by rw [p2]; exact b2) (by rw [p3]; exact b3) (by rw [p4]; exact b4), p1, p2, p3, p4]
  have hL : Jvm.FP.Core.DInt (a.toInt * u.toInt + b.toInt * v.toInt - c.toInt * w.toInt - d.toInt * x.toInt) (Jvm.FP.l2d (a.toInt64 * u.toInt64 + b.toInt64 * v.toInt64 - c.toInt64 * w.toInt64 - d.toInt64 * x.toInt64)) := by
    have q := Jvm.FP.Core.l2d_int (a := a.toInt64 * u.toInt64 + b.toInt64 * v.toInt64 - c.toInt64 * w.toInt64 - d.toInt64 * x.toInt64) (by rw [e]; omega)
    rw [e] at q
    exact q
  rw [show Jvm.FP.dcmp _ _ = some (compare _ _) from Jvm.FP.Core.dcmp_int hD hL, Jvm.FP.Core.compare_self_int]
  rfl

theorem wd_14 {Z : State} {a0 : Array Value} (hw : ∀ d ∈ tables_1, d.before a0 Z = true) : ((Jvm.Cond.fieldLink "com/example/fairhail/fairhail/simulation/Tariff" (7 : Nat) "com/example/fairhail/fairhail/simulation/Tariff" "farePerKm" "D") : Jvm.Cond).before a0 Z = true := hw _ (List.mem_of_getElem? (i := 14) rfl)
theorem wd_16 {Z : State} {a0 : Array Value} (hw : ∀ d ∈ tables_1, d.before a0 Z = true) : ((Jvm.Cond.fieldLink "com/example/fairhail/fairhail/simulation/Tariff" (13 : Nat) "com/example/fairhail/fairhail/simulation/Tariff" "farePerH" "D") : Jvm.Cond).before a0 Z = true := hw _ (List.mem_of_getElem? (i := 16) rfl)
theorem wd_18 {Z : State} {a0 : Array Value} (hw : ∀ d ∈ tables_1, d.before a0 Z = true) : ((Jvm.Cond.fieldLink "com/example/fairhail/fairhail/simulation/Tariff" (16 : Nat) "com/example/fairhail/fairhail/simulation/Tariff" "costPerKm" "D") : Jvm.Cond).before a0 Z = true := hw _ (List.mem_of_getElem? (i := 18) rfl)
theorem wd_20 {Z : State} {a0 : Array Value} (hw : ∀ d ∈ tables_1, d.before a0 Z = true) : ((Jvm.Cond.fieldLink "com/example/fairhail/fairhail/simulation/Tariff" (19 : Nat) "com/example/fairhail/fairhail/simulation/Tariff" "costPerH" "D") : Jvm.Cond).before a0 Z = true := hw _ (List.mem_of_getElem? (i := 20) rfl)
theorem d2_0 : decode jdk_30_method_1_code 0 = .ok (.aload_n 0, 1) := by decide +kernel
theorem d2_1 : decode jdk_30_method_1_code 1 = .ok (.invokespecial 1, 3) := by decide +kernel
theorem wd_11 {Z : State} {a0 : Array Value} (hw : ∀ d ∈ tables_1, d.before a0 Z = true) : ((Jvm.Cond.methodLink "java/lang/Record" (1 : Nat) ({ cls := "java/lang/Object", name := "<init>", desc := "()V" } : Jvm.MethodName)) : Jvm.Cond).before a0 Z = true := hw _ (List.mem_of_getElem? (i := 11) rfl)
theorem wd_12 {Z : State} {a0 : Array Value} (hw : ∀ d ∈ tables_1, d.before a0 Z = true) : ((Jvm.Cond.instanceMethod ({ cls := "java/lang/Object", name := "<init>", desc := "()V" } : Jvm.MethodName)) : Jvm.Cond).before a0 Z = true := hw _ (List.mem_of_getElem? (i := 12) rfl)
theorem wd_13 {Z : State} {a0 : Array Value} (hw : ∀ d ∈ tables_1, d.before a0 Z = true) : ((Jvm.Cond.code ({ cls := "java/lang/Object", name := "<init>", desc := "()V" } : Jvm.MethodName) object_method_1_code (1 : Nat) (Option.none : Option Jvm.ClassFile.FieldType)) : Jvm.Cond).before a0 Z = true := hw _ (List.mem_of_getElem? (i := 13) rfl)
theorem d2_4 : decode jdk_30_method_1_code 4 = .ok (.return_, 1) := by decide +kernel
theorem pn_0 : plainName "java/lang/Record" = true := by first | (simp [plainName, overriddenIn]; done) | decide +kernel
theorem ef_rmRec (m : MethodId) (a1 : Addr) : entryFrame m #[(.ref a1)] 1 = mkF m 0 #[.val (.ref a1)] [] := by first | (simp [entryFrame, mkF, argsToLocals, Value.category]; done) | rfl
def Q_rmRec (Z : State) (a1 : Addr) (h0 : Heap) (n0 : Nat) (v : Option Value) (h : Heap) (L : List Loc) : Prop := v = none ∧ Fr n0 L ∧ h = h0
set_option maxRecDepth 65536 in
set_option maxHeartbeats 40000000 in
theorem rmRec (l : Launch) (Z : State) (a0 : Array Value) (hw : ∀ d ∈ tables_1, d.before a0 Z = true) (ws : List Jvm.Cond) (a1 : Addr) (h0 : Heap) (n0 : Nat) (Z0 : n0 ≤ h0.size)  :
    own_Met l (⟨"java/lang/Record", "<init>", "()V"⟩ : MethodName) jdk_30_method_1_code 1 none ws (own_rm 1 0 0 12) Z h0 #[(.ref a1)] (Q_rmRec Z a1 h0 n0) := by
  refine own_met (plainFor_of_name pn_0) (fun m => ef_rmRec m a1) ?_
  intro p e s m below meth c s₁ Φ hΦ X0 hx hby hml hown hnm hret hlk hZ e0
  have N0 := Fr.nil n0
  have B : own_B p c _ _ := ⟨hx, hby, hml⟩
  show own_G p e below Φ s₁ (mkF m 0 #[.val (.ref a1)] [])
  refine o_aloadN X0 B d2_0 rfl rfl ?_
  refine o_io X0 B hZ hown (wd_11 hw) (wd_12 hw) (wd_13 hw) e0 d2_1 (by decide) 0 rfl (by decide) rfl ?_
  intro T1 X1 e1
  exact o_rV X1 B hΦ hlk hret d2_4 e1 (by decide) (by decide) ⟨rfl, N0, rfl⟩
theorem d1_0 : decode prog_49_method_1_code 0 = .ok (.aload_n 0, 1) := by decide +kernel
theorem d1_1 : decode prog_49_method_1_code 1 = .ok (.invokespecial 1, 3) := by decide +kernel
theorem wd_6 {Z : State} {a0 : Array Value} (hw : ∀ d ∈ tables_1, d.before a0 Z = true) : ((Jvm.Cond.methodLink "com/example/fairhail/fairhail/simulation/Tariff" (1 : Nat) ({ cls := "java/lang/Record", name := "<init>", desc := "()V" } : Jvm.MethodName)) : Jvm.Cond).before a0 Z = true := hw _ (List.mem_of_getElem? (i := 6) rfl)
theorem wd_10 {Z : State} {a0 : Array Value} (hw : ∀ d ∈ tables_1, d.before a0 Z = true) : ((Jvm.Cond.code ({ cls := "java/lang/Record", name := "<init>", desc := "()V" } : Jvm.MethodName) jdk_30_method_1_code (1 : Nat) (Option.none : Option Jvm.ClassFile.FieldType)) : Jvm.Cond).before a0 Z = true := hw _ (List.mem_of_getElem? (i := 10) rfl)
theorem wd_9 {Z : State} {a0 : Array Value} (hw : ∀ d ∈ tables_1, d.before a0 Z = true) : ((Jvm.Cond.initialized "java/lang/Record") : Jvm.Cond).before a0 Z = true := hw _ (List.mem_of_getElem? (i := 9) rfl)
theorem pd_0 : parseMethodDescriptor "()V" = some ⟨[], none⟩ := by decide +kernel
theorem wd_7 {Z : State} {a0 : Array Value} (hw : ∀ d ∈ tables_1, d.before a0 Z = true) : ((Jvm.Cond.instanceMethod ({ cls := "java/lang/Record", name := "<init>", desc := "()V" } : Jvm.MethodName)) : Jvm.Cond).before a0 Z = true := hw _ (List.mem_of_getElem? (i := 7) rfl)
theorem d1_4 : decode prog_49_method_1_code 4 = .ok (.aload_n 0, 1) := by decide +kernel
theorem d1_5 : decode prog_49_method_1_code 5 = .ok (.dload_n 1, 1) := by decide +kernel
theorem d1_6 : decode prog_49_method_1_code 6 = .ok (.putfield 7, 3) := by decide +kernel
theorem wd_15 {Z : State} {a0 : Array Value} (hw : ∀ d ∈ tables_1, d.before a0 Z = true) : ((Jvm.Cond.laysFinal "com/example/fairhail/fairhail/simulation/Tariff" "com/example/fairhail/fairhail/simulation/Tariff" "farePerKm" "D") : Jvm.Cond).before a0 Z = true := hw _ (List.mem_of_getElem? (i := 15) rfl)
theorem wd_1 {Z : State} {a0 : Array Value} (hw : ∀ d ∈ tables_1, d.before a0 Z = true) : ((Jvm.Cond.instantiable "com/example/fairhail/fairhail/simulation/Tariff" (4 : Nat)) : Jvm.Cond).before a0 Z = true := hw _ (List.mem_of_getElem? (i := 1) rfl)
theorem d1_9 : decode prog_49_method_1_code 9 = .ok (.aload_n 0, 1) := by decide +kernel
theorem d1_10 : decode prog_49_method_1_code 10 = .ok (.dload_n 3, 1) := by decide +kernel
theorem d1_11 : decode prog_49_method_1_code 11 = .ok (.putfield 13, 3) := by decide +kernel
theorem wd_17 {Z : State} {a0 : Array Value} (hw : ∀ d ∈ tables_1, d.before a0 Z = true) : ((Jvm.Cond.laysFinal "com/example/fairhail/fairhail/simulation/Tariff" "com/example/fairhail/fairhail/simulation/Tariff" "farePerH" "D") : Jvm.Cond).before a0 Z = true := hw _ (List.mem_of_getElem? (i := 17) rfl)
theorem sl_0 {Z : State} {a0 : Array Value} (hw : ∀ d ∈ tables_1, d.before a0 Z = true) : Jvm.RoadKit.slotOf Z "com/example/fairhail/fairhail/simulation/Tariff" "farePerH" "D" ≠ Jvm.RoadKit.slotOf Z "com/example/fairhail/fairhail/simulation/Tariff" "farePerKm" "D" := slot_ne (C := "com/example/fairhail/fairhail/simulation/Tariff") (Or.inr (wd_17 hw)) (Or.inr (wd_15 hw)) (by decide) (t := .double) (t' := .double) (by decide) (by decide)
theorem d1_14 : decode prog_49_method_1_code 14 = .ok (.aload_n 0, 1) := by decide +kernel
theorem d1_15 : decode prog_49_method_1_code 15 = .ok (.dload 5, 2) := by decide +kernel
theorem d1_17 : decode prog_49_method_1_code 17 = .ok (.putfield 16, 3) := by decide +kernel
theorem wd_19 {Z : State} {a0 : Array Value} (hw : ∀ d ∈ tables_1, d.before a0 Z = true) : ((Jvm.Cond.laysFinal "com/example/fairhail/fairhail/simulation/Tariff" "com/example/fairhail/fairhail/simulation/Tariff" "costPerKm" "D") : Jvm.Cond).before a0 Z = true := hw _ (List.mem_of_getElem? (i := 19) rfl)
theorem sl_1 {Z : State} {a0 : Array Value} (hw : ∀ d ∈ tables_1, d.before a0 Z = true) : Jvm.RoadKit.slotOf Z "com/example/fairhail/fairhail/simulation/Tariff" "costPerKm" "D" ≠ Jvm.RoadKit.slotOf Z "com/example/fairhail/fairhail/simulation/Tariff" "farePerKm" "D" := slot_ne (C := "com/example/fairhail/fairhail/simulation/Tariff") (Or.inr (wd_19 hw)) (Or.inr (wd_15 hw)) (by decide) (t := .double) (t' := .double) (by decide) (by decide)
theorem sl_2 {Z : State} {a0 : Array Value} (hw : ∀ d ∈ tables_1, d.before a0 Z = true) : Jvm.RoadKit.slotOf Z "com/example/fairhail/fairhail/simulation/Tariff" "costPerKm" "D" ≠ Jvm.RoadKit.slotOf Z "com/example/fairhail/fairhail/simulation/Tariff" "farePerH" "D" := slot_ne (C := "com/example/fairhail/fairhail/simulation/Tariff") (Or.inr (wd_19 hw)) (Or.inr (wd_17 hw)) (by decide) (t := .double) (t' := .double) (by decide) (by decide)
theorem d1_20 : decode prog_49_method_1_code 20 = .ok (.aload_n 0, 1) := by decide +kernel
theorem d1_21 : decode prog_49_method_1_code 21 = .ok (.dload 7, 2) := by decide +kernel
theorem d1_23 : decode prog_49_method_1_code 23 = .ok (.putfield 19, 3) := by decide +kernel
theorem wd_21 {Z : State} {a0 : Array Value} (hw : ∀ d ∈ tables_1, d.before a0 Z = true) : ((Jvm.Cond.laysFinal "com/example/fairhail/fairhail/simulation/Tariff" "com/example/fairhail/fairhail/simulation/Tariff" "costPerH" "D") : Jvm.Cond).before a0 Z = true := hw _ (List.mem_of_getElem? (i := 21) rfl)
theorem sl_3 {Z : State} {a0 : Array Value} (hw : ∀ d ∈ tables_1, d.before a0 Z = true) : Jvm.RoadKit.slotOf Z "com/example/fairhail/fairhail/simulation/Tariff" "costPerH" "D" ≠ Jvm.RoadKit.slotOf Z "com/example/fairhail/fairhail/simulation/Tariff" "farePerKm" "D" := slot_ne (C := "com/example/fairhail/fairhail/simulation/Tariff") (Or.inr (wd_21 hw)) (Or.inr (wd_15 hw)) (by decide) (t := .double) (t' := .double) (by decide) (by decide)
theorem sl_4 {Z : State} {a0 : Array Value} (hw : ∀ d ∈ tables_1, d.before a0 Z = true) : Jvm.RoadKit.slotOf Z "com/example/fairhail/fairhail/simulation/Tariff" "costPerH" "D" ≠ Jvm.RoadKit.slotOf Z "com/example/fairhail/fairhail/simulation/Tariff" "farePerH" "D" := slot_ne (C := "com/example/fairhail/fairhail/simulation/Tariff") (Or.inr (wd_21 hw)) (Or.inr (wd_17 hw)) (by decide) (t := .double) (t' := .double) (by decide) (by decide)
theorem sl_5 {Z : State} {a0 : Array Value} (hw : ∀ d ∈ tables_1, d.before a0 Z = true) : Jvm.RoadKit.slotOf Z "com/example/fairhail/fairhail/simulation/Tariff" "costPerH" "D" ≠ Jvm.RoadKit.slotOf Z "com/example/fairhail/fairhail/simulation/Tariff" "costPerKm" "D" := slot_ne (C := "com/example/fairhail/fairhail/simulation/Tariff") (Or.inr (wd_21 hw)) (Or.inr (wd_19 hw)) (by decide) (t := .double) (t' := .double) (by decide) (by decide)
theorem d1_26 : decode prog_49_method_1_code 26 = .ok (.return_, 1) := by decide +kernel
theorem sl_6 {Z : State} {a0 : Array Value} (hw : ∀ d ∈ tables_1, d.before a0 Z = true) : Jvm.RoadKit.slotOf Z "com/example/fairhail/fairhail/simulation/Tariff" "farePerKm" "D" ≠ Jvm.RoadKit.slotOf Z "com/example/fairhail/fairhail/simulation/Tariff" "farePerH" "D" := slot_ne (C := "com/example/fairhail/fairhail/simulation/Tariff") (Or.inr (wd_15 hw)) (Or.inr (wd_17 hw)) (by decide) (t := .double) (t' := .double) (by decide) (by decide)
theorem sl_7 {Z : State} {a0 : Array Value} (hw : ∀ d ∈ tables_1, d.before a0 Z = true) : Jvm.RoadKit.slotOf Z "com/example/fairhail/fairhail/simulation/Tariff" "farePerKm" "D" ≠ Jvm.RoadKit.slotOf Z "com/example/fairhail/fairhail/simulation/Tariff" "costPerKm" "D" := slot_ne (C := "com/example/fairhail/fairhail/simulation/Tariff") (Or.inr (wd_15 hw)) (Or.inr (wd_19 hw)) (by decide) (t := .double) (t' := .double) (by decide) (by decide)
theorem sl_8 {Z : State} {a0 : Array Value} (hw : ∀ d ∈ tables_1, d.before a0 Z = true) : Jvm.RoadKit.slotOf Z "com/example/fairhail/fairhail/simulation/Tariff" "farePerKm" "D" ≠ Jvm.RoadKit.slotOf Z "com/example/fairhail/fairhail/simulation/Tariff" "costPerH" "D" := slot_ne (C := "com/example/fairhail/fairhail/simulation/Tariff") (Or.inr (wd_15 hw)) (Or.inr (wd_21 hw)) (by decide) (t := .double) (t' := .double) (by decide) (by decide)
theorem sl_9 {Z : State} {a0 : Array Value} (hw : ∀ d ∈ tables_1, d.before a0 Z = true) : Jvm.RoadKit.slotOf Z "com/example/fairhail/fairhail/simulation/Tariff" "farePerH" "D" ≠ Jvm.RoadKit.slotOf Z "com/example/fairhail/fairhail/simulation/Tariff" "costPerKm" "D" := slot_ne (C := "com/example/fairhail/fairhail/simulation/Tariff") (Or.inr (wd_17 hw)) (Or.inr (wd_19 hw)) (by decide) (t := .double) (t' := .double) (by decide) (by decide)
theorem sl_10 {Z : State} {a0 : Array Value} (hw : ∀ d ∈ tables_1, d.before a0 Z = true) : Jvm.RoadKit.slotOf Z "com/example/fairhail/fairhail/simulation/Tariff" "farePerH" "D" ≠ Jvm.RoadKit.slotOf Z "com/example/fairhail/fairhail/simulation/Tariff" "costPerH" "D" := slot_ne (C := "com/example/fairhail/fairhail/simulation/Tariff") (Or.inr (wd_17 hw)) (Or.inr (wd_21 hw)) (by decide) (t := .double) (t' := .double) (by decide) (by decide)
theorem sl_11 {Z : State} {a0 : Array Value} (hw : ∀ d ∈ tables_1, d.before a0 Z = true) : Jvm.RoadKit.slotOf Z "com/example/fairhail/fairhail/simulation/Tariff" "costPerKm" "D" ≠ Jvm.RoadKit.slotOf Z "com/example/fairhail/fairhail/simulation/Tariff" "costPerH" "D" := slot_ne (C := "com/example/fairhail/fairhail/simulation/Tariff") (Or.inr (wd_19 hw)) (Or.inr (wd_21 hw)) (by decide) (t := .double) (t' := .double) (by decide) (by decide)
theorem pn_1 : plainName "com/example/fairhail/fairhail/simulation/Tariff" = true := by first | (simp [plainName, overriddenIn]; done) | decide +kernel
theorem ef_rmIni (m : MethodId) (a1 : Addr) (fa : UInt64) (fb : UInt64) (fc : UInt64) (fd : UInt64) : entryFrame m #[(.ref a1), (.double fa), (.double fb), (.double fc), (.double fd)] 9 = mkF m 0 #[.val (.ref a1), .val (.double fa), .second, .val (.double fb), .second, .val (.double fc), .second, .val (.double fd), .second] [] := by first | (simp [entryFrame, mkF, argsToLocals, Value.category]; done) | rfl
def Q_rmIni (Z : State) (a1 : Addr) (fa : UInt64) (fb : UInt64) (fc : UInt64) (fd : UInt64) (h0 : Heap) (n0 : Nat) (v : Option Value) (h : Heap) (L : List Loc) : Prop := v = none ∧ Fr n0 L ∧ Keep h0 h [a1] ∧ Exa Z h a1 "com/example/fairhail/fairhail/simulation/Tariff" ∧ Fld Z h a1 "com/example/fairhail/fairhail/simulation/Tariff" "farePerKm" "D" (.double fa) ∧ Fld Z h a1 "com/example/fairhail/fairhail/simulation/Tariff" "farePerH" "D" (.double fb) ∧ Fld Z h a1 "com/example/fairhail/fairhail/simulation/Tariff" "costPerKm" "D" (.double fc) ∧ Fld Z h a1 "com/example/fairhail/fairhail/simulation/Tariff" "costPerH" "D" (.double fd)
set_option maxRecDepth 65536 in
set_option maxHeartbeats 40000000 in
theorem rmIni (l : Launch) (Z : State) (a0 : Array Value) (hw : ∀ d ∈ tables_1, d.before a0 Z = true) (ws : List Jvm.Cond) (a1 : Addr) (fa : UInt64) (fb : UInt64) (fc : UInt64) (fd : UInt64) (h0 : Heap) (n0 : Nat) (Z0 : n0 ≤ h0.size) (E_a1 : Exa Z h0 a1 "com/example/fairhail/fairhail/simulation/Tariff") (F_farePerKm_a1 : Fld Z h0 a1 "com/example/fairhail/fairhail/simulation/Tariff" "farePerKm" "D" (.double 0)) (F_farePerH_a1 : Fld Z h0 a1 "com/example/fairhail/fairhail/simulation/Tariff" "farePerH" "D" (.double 0)) (F_costPerKm_a1 : Fld Z h0 a1 "com/example/fairhail/fairhail/simulation/Tariff" "costPerKm" "D" (.double 0)) (F_costPerH_a1 : Fld Z h0 a1 "com/example/fairhail/fairhail/simulation/Tariff" "costPerH" "D" (.double 0)) (g_a1 : n0 ≤ a1) :
    own_Met l (⟨"com/example/fairhail/fairhail/simulation/Tariff", "<init>", "(DDDD)V"⟩ : MethodName) prog_49_method_1_code 9 none ws (own_rm 2 0 0 24) Z h0 #[(.ref a1), (.double fa), (.double fb), (.double fc), (.double fd)] (Q_rmIni Z a1 fa fb fc fd h0 n0) := by
  refine own_met (plainFor_of_name pn_1) (fun m => ef_rmIni m a1 fa fb fc fd) ?_
  intro p e s m below meth c s₁ Φ hΦ X0 hx hby hml hown hnm hret hlk hZ e0
  have N0 := Fr.nil n0
  have B : own_B p c _ _ := ⟨hx, hby, hml⟩
  have K0 : Keep h0 h0 [a1] := Keep.refl _ _
  show own_G p e below Φ s₁ (mkF m 0 #[.val (.ref a1), .val (.double fa), .second, .val (.double fb), .second, .val (.double fc), .second, .val (.double fd), .second] [])
  refine o_aloadN X0 B d1_0 rfl rfl ?_
  refine o_cI (argsL := []) (rest := []) X0 B hZ hown rfl (wd_6 hw) (wd_7 hw) (wd_10 hw) (wd_9 hw) (by decide) rfl 0 (rmRec l Z a0 hw [] a1 h0 n0 Z0 ) (by decide) (by decide) (lenOf pd_0 rfl) rfl rfl rfl d1_1 e0 (by decide) (by decide) rfl ?_
  rintro _ T1 _ X1 ⟨rfl, N1q, hs1⟩
  have N1 := Fr.app N0 N1q
  refine o_aloadN X1 B d1_4 rfl rfl ?_
  refine o_dloadN X1 B d1_5 rfl ?_
  refine o_pf (ty := .double) X1 B hZ hown (wd_14 hw) Via.refl hs1 F_farePerKm_a1 E_a1 (Or.inr ⟨(wd_15 hw), rfl, hnm⟩) (wd_1 hw) (by decide) rfl rfl d1_6 ?_
  intro T2 h2 X2 e2 W2
  have N2 := Fr.snoc X2 N1 g_a1
  have K2 := K0.wr W2 (Or.inl (List.mem_of_getElem? (i := 0) rfl))
  have f2w := F_farePerKm_a1.same W2
  refine o_aloadN X2 B d1_9 rfl rfl ?_
  refine o_dloadN X2 B d1_10 rfl ?_
  have f_1 := E_a1.keep K2
  have f_2 : Fld Z h2 a1 "com/example/fairhail/fairhail/simulation/Tariff" "farePerH" "D" (.double 0) := F_farePerH_a1.other W2 (Or.inr (sl_0 hw))
  refine o_pf (ty := .double) X2 B hZ hown (wd_16 hw) Via.refl e2 f_2 f_1 (Or.inr ⟨(wd_17 hw), rfl, hnm⟩) (wd_1 hw) (by decide) rfl rfl d1_11 ?_
  intro T3 h3 X3 e3 W3
  have N3 := Fr.snoc X3 N2 g_a1
  have K3 := K2.wr W3 (Or.inl (List.mem_of_getElem? (i := 0) rfl))
  have f3w := f_2.same W3
  refine o_aloadN X3 B d1_14 rfl rfl ?_
  refine o_dload X3 B d1_15 rfl ?_
  have f_3 := E_a1.keep K3
  have f_4 : Fld Z h2 a1 "com/example/fairhail/fairhail/simulation/Tariff" "costPerKm" "D" (.double 0) := F_costPerKm_a1.other W2 (Or.inr (sl_1 hw))
  have f_5 : Fld Z h3 a1 "com/example/fairhail/fairhail/simulation/Tariff" "costPerKm" "D" (.double 0) := f_4.other W3 (Or.inr (sl_2 hw))
  refine o_pf (ty := .double) X3 B hZ hown (wd_18 hw) Via.refl e3 f_5 f_3 (Or.inr ⟨(wd_19 hw), rfl, hnm⟩) (wd_1 hw) (by decide) rfl rfl d1_17 ?_
  intro T4 h4 X4 e4 W4
  have N4 := Fr.snoc X4 N3 g_a1
  have K4 := K3.wr W4 (Or.inl (List.mem_of_getElem? (i := 0) rfl))
  have f4w := f_5.same W4
  refine o_aloadN X4 B d1_20 rfl rfl ?_
  refine o_dload X4 B d1_21 rfl ?_
  have f_6 := E_a1.keep K4
  have f_7 : Fld Z h2 a1 "com/example/fairhail/fairhail/simulation/Tariff" "costPerH" "D" (.double 0) := F_costPerH_a1.other W2 (Or.inr (sl_3 hw))
  have f_8 : Fld Z h3 a1 "com/example/fairhail/fairhail/simulation/Tariff" "costPerH" "D" (.double 0) := f_7.other W3 (Or.inr (sl_4 hw))
  have f_9 : Fld Z h4 a1 "com/example/fairhail/fairhail/simulation/Tariff" "costPerH" "D" (.double 0) := f_8.other W4 (Or.inr (sl_5 hw))
  refine o_pf (ty := .double) X4 B hZ hown (wd_20 hw) Via.refl e4 f_9 f_6 (Or.inr ⟨(wd_21 hw), rfl, hnm⟩) (wd_1 hw) (by decide) rfl rfl d1_23 ?_
  intro T5 h5 X5 e5 W5
  have N5 := Fr.snoc X5 N4 g_a1
  have K5 := K4.wr W5 (Or.inl (List.mem_of_getElem? (i := 0) rfl))
  have f5w := f_9.same W5
  show own_G p e below Φ T5 (mkF m 26 #[.val (.ref a1), .val (.double fa), .second, .val (.double fb), .second, .val (.double fc), .second, .val (.double fd), .second] [])
  have f_10 := E_a1.keep K5
  have f_11 : Fld Z h3 a1 "com/example/fairhail/fairhail/simulation/Tariff" "farePerKm" "D" (.double fa) := f2w.other W3 (Or.inr (sl_6 hw))
  have f_12 : Fld Z h4 a1 "com/example/fairhail/fairhail/simulation/Tariff" "farePerKm" "D" (.double fa) := f_11.other W4 (Or.inr (sl_7 hw))
  have f_13 : Fld Z h5 a1 "com/example/fairhail/fairhail/simulation/Tariff" "farePerKm" "D" (.double fa) := f_12.other W5 (Or.inr (sl_8 hw))
  have f_14 : Fld Z h4 a1 "com/example/fairhail/fairhail/simulation/Tariff" "farePerH" "D" (.double fb) := f3w.other W4 (Or.inr (sl_9 hw))
  have f_15 : Fld Z h5 a1 "com/example/fairhail/fairhail/simulation/Tariff" "farePerH" "D" (.double fb) := f_14.other W5 (Or.inr (sl_10 hw))
  have f_16 : Fld Z h5 a1 "com/example/fairhail/fairhail/simulation/Tariff" "costPerKm" "D" (.double fc) := f4w.other W5 (Or.inr (sl_11 hw))
  exact o_rV X5 B hΦ hlk hret d1_26 e5 (by decide) (by decide) ⟨rfl, N5, K5, f_10, f_13, f_15, f_16, f5w⟩
theorem d4_0 : decode prog_49_method_2_code 0 = .ok (.aload_n 0, 1) := by decide +kernel
theorem d4_1 : decode prog_49_method_2_code 1 = .ok (.getfield 7, 3) := by decide +kernel
theorem d4_4 : decode prog_49_method_2_code 4 = .ok (.dload_n 1, 1) := by decide +kernel
theorem d4_5 : decode prog_49_method_2_code 5 = .ok (.dmul, 1) := by decide +kernel
theorem d4_6 : decode prog_49_method_2_code 6 = .ok (.ldc2_w 22, 3) := by decide +kernel
theorem wd_27 {Z : State} {a0 : Array Value} (hw : ∀ d ∈ tables_1, d.before a0 Z = true) : ((Jvm.Cond.constantDouble "com/example/fairhail/fairhail/simulation/Tariff" (22 : Nat) (4652007308841189376 : UInt64)) : Jvm.Cond).before a0 Z = true := hw _ (List.mem_of_getElem? (i := 27) rfl)
theorem d4_9 : decode prog_49_method_2_code 9 = .ok (.ddiv, 1) := by decide +kernel
theorem d4_10 : decode prog_49_method_2_code 10 = .ok (.aload_n 0, 1) := by decide +kernel
theorem d4_11 : decode prog_49_method_2_code 11 = .ok (.getfield 13, 3) := by decide +kernel
theorem d4_14 : decode prog_49_method_2_code 14 = .ok (.dload_n 3, 1) := by decide +kernel
theorem d4_15 : decode prog_49_method_2_code 15 = .ok (.dmul, 1) := by decide +kernel
theorem d4_16 : decode prog_49_method_2_code 16 = .ok (.ldc2_w 24, 3) := by decide +kernel
theorem wd_28 {Z : State} {a0 : Array Value} (hw : ∀ d ∈ tables_1, d.before a0 Z = true) : ((Jvm.Cond.constantDouble "com/example/fairhail/fairhail/simulation/Tariff" (24 : Nat) (4660134898793709568 : UInt64)) : Jvm.Cond).before a0 Z = true := hw _ (List.mem_of_getElem? (i := 28) rfl)
theorem d4_19 : decode prog_49_method_2_code 19 = .ok (.ddiv, 1) := by decide +kernel
theorem d4_20 : decode prog_49_method_2_code 20 = .ok (.dadd, 1) := by decide +kernel
theorem d4_21 : decode prog_49_method_2_code 21 = .ok (.aload_n 0, 1) := by decide +kernel
theorem d4_22 : decode prog_49_method_2_code 22 = .ok (.getfield 16, 3) := by decide +kernel
theorem d4_25 : decode prog_49_method_2_code 25 = .ok (.dload 5, 2) := by decide +kernel
theorem d4_27 : decode prog_49_method_2_code 27 = .ok (.dmul, 1) := by decide +kernel
theorem d4_28 : decode prog_49_method_2_code 28 = .ok (.ldc2_w 22, 3) := by decide +kernel
theorem d4_31 : decode prog_49_method_2_code 31 = .ok (.ddiv, 1) := by decide +kernel
theorem d4_32 : decode prog_49_method_2_code 32 = .ok (.dsub, 1) := by decide +kernel
theorem d4_33 : decode prog_49_method_2_code 33 = .ok (.aload_n 0, 1) := by decide +kernel
theorem d4_34 : decode prog_49_method_2_code 34 = .ok (.getfield 19, 3) := by decide +kernel
theorem d4_37 : decode prog_49_method_2_code 37 = .ok (.dload 7, 2) := by decide +kernel
theorem d4_39 : decode prog_49_method_2_code 39 = .ok (.dmul, 1) := by decide +kernel
theorem d4_40 : decode prog_49_method_2_code 40 = .ok (.ldc2_w 24, 3) := by decide +kernel
theorem d4_43 : decode prog_49_method_2_code 43 = .ok (.ddiv, 1) := by decide +kernel
theorem d4_44 : decode prog_49_method_2_code 44 = .ok (.dsub, 1) := by decide +kernel
theorem d4_45 : decode prog_49_method_2_code 45 = .ok (.dreturn, 1) := by decide +kernel
theorem ef_rmPft (m : MethodId) (a1 : Addr) (da : UInt64) (db : UInt64) (dc : UInt64) (dd : UInt64) : entryFrame m #[(.ref a1), (.double da), (.double db), (.double dc), (.double dd)] 9 = mkF m 0 #[.val (.ref a1), .val (.double da), .second, .val (.double db), .second, .val (.double dc), .second, .val (.double dd), .second] [] := by first | (simp [entryFrame, mkF, argsToLocals, Value.category]; done) | rfl
def Q_rmPft (Z : State) (a1 : Addr) (fa : UInt64) (fb : UInt64) (fc : UInt64) (fd : UInt64) (da : UInt64) (db : UInt64) (dc : UInt64) (dd : UInt64) (h0 : Heap) (n0 : Nat) (v : Option Value) (h : Heap) (L : List Loc) : Prop := v = some (.double (own_pr fa fb fc fd da db dc dd)) ∧ Fr n0 L ∧ h = h0
set_option maxRecDepth 65536 in
set_option maxHeartbeats 40000000 in
theorem rmPft (l : Launch) (Z : State) (a0 : Array Value) (hw : ∀ d ∈ tables_1, d.before a0 Z = true) (ws : List Jvm.Cond) (a1 : Addr) (fa : UInt64) (fb : UInt64) (fc : UInt64) (fd : UInt64) (da : UInt64) (db : UInt64) (dc : UInt64) (dd : UInt64) (h0 : Heap) (n0 : Nat) (Z0 : n0 ≤ h0.size) (E_a1 : Exa Z h0 a1 "com/example/fairhail/fairhail/simulation/Tariff") (F_farePerKm_a1 : Fld Z h0 a1 "com/example/fairhail/fairhail/simulation/Tariff" "farePerKm" "D" (.double fa)) (F_farePerH_a1 : Fld Z h0 a1 "com/example/fairhail/fairhail/simulation/Tariff" "farePerH" "D" (.double fb)) (F_costPerKm_a1 : Fld Z h0 a1 "com/example/fairhail/fairhail/simulation/Tariff" "costPerKm" "D" (.double fc)) (F_costPerH_a1 : Fld Z h0 a1 "com/example/fairhail/fairhail/simulation/Tariff" "costPerH" "D" (.double fd)) (hP : own_P fa fb fc fd da db dc dd) :
    own_Met l (⟨"com/example/fairhail/fairhail/simulation/Tariff", "profitUsd", "(DDDD)D"⟩ : MethodName) prog_49_method_2_code 9 (some .double) ws (own_rm 0 0 0 0) Z h0 #[(.ref a1), (.double da), (.double db), (.double dc), (.double dd)] (Q_rmPft Z a1 fa fb fc fd da db dc dd h0 n0) := by
  refine own_met (plainFor_of_name pn_1) (fun m => ef_rmPft m a1 da db dc dd) ?_
  intro p e s m below meth c s₁ Φ hΦ X0 hx hby hml hown hnm hret hlk hZ e0
  have N0 := Fr.nil n0
  have B : own_B p c _ _ := ⟨hx, hby, hml⟩
  show own_G p e below Φ s₁ (mkF m 0 #[.val (.ref a1), .val (.double da), .second, .val (.double db), .second, .val (.double dc), .second, .val (.double dd), .second] [])
  refine o_aloadN X0 B d4_0 rfl rfl ?_
  refine o_gf X0 B hZ hown (wd_14 hw) Via.refl e0 F_farePerKm_a1 d4_1 ?_
  intro T1 X1 e1
  refine o_dloadN X1 B d4_4 rfl ?_
  refine o_dmul X1 B d4_5 hP.1.1 ?_
  refine o_ld2 X1 B hZ hown (wd_27 hw) d4_6 ?_
  refine o_ddiv X1 B d4_9 hP.1.2 ?_
  refine o_aloadN X1 B d4_10 rfl rfl ?_
  refine o_gf X1 B hZ hown (wd_16 hw) Via.refl e1 F_farePerH_a1 d4_11 ?_
  intro T2 X2 e2
  refine o_dloadN X2 B d4_14 rfl ?_
  refine o_dmul X2 B d4_15 hP.2.1.1 ?_
  refine o_ld2 X2 B hZ hown (wd_28 hw) d4_16 ?_
  refine o_ddiv X2 B d4_19 hP.2.1.2 ?_
  refine o_dadd X2 B d4_20 hP.2.2.1 ?_
  refine o_aloadN X2 B d4_21 rfl rfl ?_
  show own_G p e below Φ T2 (mkF m 22 #[.val (.ref a1), .val (.double da), .second, .val (.double db), .second, .val (.double dc), .second, .val (.double dd), .second] [(.ref a1), (.double (Jvm.FP.dadd (Jvm.FP.ddiv (Jvm.FP.dmul fa da) 4652007308841189376) (Jvm.FP.ddiv (Jvm.FP.dmul fb db) 4660134898793709568)))])
  refine o_gf X2 B hZ hown (wd_18 hw) Via.refl e2 F_costPerKm_a1 d4_22 ?_
  intro T3 X3 e3
  refine o_dload X3 B d4_25 rfl ?_
  refine o_dmul X3 B d4_27 hP.2.2.2.1.1 ?_
  refine o_ld2 X3 B hZ hown (wd_27 hw) d4_28 ?_
  refine o_ddiv X3 B d4_31 hP.2.2.2.1.2 ?_
  refine o_dsub X3 B d4_32 hP.2.2.2.2.1 ?_
  refine o_aloadN X3 B d4_33 rfl rfl ?_
  refine o_gf X3 B hZ hown (wd_20 hw) Via.refl e3 F_costPerH_a1 d4_34 ?_
  intro T4 X4 e4
  refine o_dload X4 B d4_37 rfl ?_
  refine o_dmul X4 B d4_39 hP.2.2.2.2.2.1.1 ?_
  refine o_ld2 X4 B hZ hown (wd_28 hw) d4_40 ?_
  refine o_ddiv X4 B d4_43 hP.2.2.2.2.2.1.2 ?_
  refine o_dsub X4 B d4_44 hP.2.2.2.2.2.2 ?_
  exact o_rD X4 B hΦ hlk hret d4_45 e4 (by decide) (by decide) ⟨rfl, N0, rfl⟩
theorem wd_0 {Z : State} {a0 : Array Value} (hw : ∀ d ∈ tables_1, d.before a0 Z = true) : ((Jvm.Cond.classLink "com/example/fairhail/fairhail/simulation/TariffProfitUsdPinLaw" (7 : Nat) "com/example/fairhail/fairhail/simulation/Tariff") : Jvm.Cond).before a0 Z = true := hw _ (List.mem_of_getElem? (i := 0) rfl)
theorem wd_2 {Z : State} {a0 : Array Value} (hw : ∀ d ∈ tables_1, d.before a0 Z = true) : ((Jvm.Cond.initialized "com/example/fairhail/fairhail/simulation/Tariff") : Jvm.Cond).before a0 Z = true := hw _ (List.mem_of_getElem? (i := 2) rfl)
theorem wd_3 {Z : State} {a0 : Array Value} (hw : ∀ d ∈ tables_1, d.before a0 Z = true) : ((Jvm.Cond.methodLink "com/example/fairhail/fairhail/simulation/TariffProfitUsdPinLaw" (9 : Nat) ({ cls := "com/example/fairhail/fairhail/simulation/Tariff", name := "<init>", desc := "(DDDD)V" } : Jvm.MethodName)) : Jvm.Cond).before a0 Z = true := hw _ (List.mem_of_getElem? (i := 3) rfl)
theorem wd_5 {Z : State} {a0 : Array Value} (hw : ∀ d ∈ tables_1, d.before a0 Z = true) : ((Jvm.Cond.code ({ cls := "com/example/fairhail/fairhail/simulation/Tariff", name := "<init>", desc := "(DDDD)V" } : Jvm.MethodName) prog_49_method_1_code (9 : Nat) (Option.none : Option Jvm.ClassFile.FieldType)) : Jvm.Cond).before a0 Z = true := hw _ (List.mem_of_getElem? (i := 5) rfl)
theorem pd_1 : parseMethodDescriptor "(DDDD)V" = some ⟨[.double, .double, .double, .double], none⟩ := by decide +kernel
theorem wd_4 {Z : State} {a0 : Array Value} (hw : ∀ d ∈ tables_1, d.before a0 Z = true) : ((Jvm.Cond.instanceMethod ({ cls := "com/example/fairhail/fairhail/simulation/Tariff", name := "<init>", desc := "(DDDD)V" } : Jvm.MethodName)) : Jvm.Cond).before a0 Z = true := hw _ (List.mem_of_getElem? (i := 4) rfl)
theorem wd_22 {Z : State} {a0 : Array Value} (hw : ∀ d ∈ tables_1, d.before a0 Z = true) : ((Jvm.Cond.methodLink "com/example/fairhail/fairhail/simulation/TariffProfitUsdPinLaw" (12 : Nat) ({ cls := "com/example/fairhail/fairhail/simulation/Tariff", name := "profitUsd", desc := "(DDDD)D" } : Jvm.MethodName)) : Jvm.Cond).before a0 Z = true := hw _ (List.mem_of_getElem? (i := 22) rfl)
theorem wd_26 {Z : State} {a0 : Array Value} (hw : ∀ d ∈ tables_1, d.before a0 Z = true) : ((Jvm.Cond.code ({ cls := "com/example/fairhail/fairhail/simulation/Tariff", name := "profitUsd", desc := "(DDDD)D" } : Jvm.MethodName) prog_49_method_2_code (9 : Nat) (Option.some Jvm.ClassFile.FieldType.double)) : Jvm.Cond).before a0 Z = true := hw _ (List.mem_of_getElem? (i := 26) rfl)
theorem pd_2 : parseMethodDescriptor "(DDDD)D" = some ⟨[.double, .double, .double, .double], some .double⟩ := by decide +kernel
theorem wd_23 {Z : State} {a0 : Array Value} (hw : ∀ d ∈ tables_1, d.before a0 Z = true) : ((Jvm.Cond.declares ({ cls := "com/example/fairhail/fairhail/simulation/Tariff", name := "profitUsd", desc := "(DDDD)D" } : Jvm.MethodName)) : Jvm.Cond).before a0 Z = true := hw _ (List.mem_of_getElem? (i := 23) rfl)
theorem wd_25 {Z : State} {a0 : Array Value} (hw : ∀ d ∈ tables_1, d.before a0 Z = true) : ((Jvm.Cond.selects "com/example/fairhail/fairhail/simulation/Tariff" ({ cls := "com/example/fairhail/fairhail/simulation/Tariff", name := "profitUsd", desc := "(DDDD)D" } : Jvm.MethodName) ({ cls := "com/example/fairhail/fairhail/simulation/Tariff", name := "profitUsd", desc := "(DDDD)D" } : Jvm.MethodName)) : Jvm.Cond).before a0 Z = true := hw _ (List.mem_of_getElem? (i := 25) rfl)
theorem wd_24 {Z : State} {a0 : Array Value} (hw : ∀ d ∈ tables_1, d.before a0 Z = true) : ((Jvm.Cond.instanceMethod ({ cls := "com/example/fairhail/fairhail/simulation/Tariff", name := "profitUsd", desc := "(DDDD)D" } : Jvm.MethodName)) : Jvm.Cond).before a0 Z = true := hw _ (List.mem_of_getElem? (i := 24) rfl)
theorem pn_2 : plainName "com/example/fairhail/fairhail/simulation/TariffProfitUsdPinLaw" = true := by first | (simp [plainName, overriddenIn]; done) | decide +kernel
theorem ef_rm0 (m : MethodId) (j0 : Int64) (p2 : Int32) (p3 : Int32) (p4 : Int32) (p5 : Int32) : entryFrame m #[(.long j0), (.int p2), (.int p3), (.int p4), (.int p5)] maxLocals = mkF m 0 #[.val (.long j0), .second, .val (.int p2), .val (.int p3), .val (.int p4), .val (.int p5), .unset, .unset, .unset, .unset, .unset, .unset, .unset, .unset, .unset, .unset, .unset, .unset, .unset] [] := by first | (simp [entryFrame, mkF, argsToLocals, Value.category, maxLocals]; done) | rfl
def Q_rm0 (Z : State) (j0 : Int64) (p2 : Int32) (p3 : Int32) (p4 : Int32) (p5 : Int32) (h0 : Heap) (n0 : Nat) (v : Option Value) (h : Heap) (L : List Loc) : Prop := v = some (.int (1 : Int32)) ∧ Fr n0 L
set_option maxRecDepth 65536 in
set_option maxHeartbeats 40000000 in
theorem rm0 (l : Launch) (Z : State) (a0 : Array Value) (hw : ∀ d ∈ tables_1, d.before a0 Z = true) (ws : List Jvm.Cond) (j0 : Int64) (p2 : Int32) (p3 : Int32) (p4 : Int32) (p5 : Int32) (h0 : Heap) (n0 : Nat) (Z0 : n0 ≤ h0.size)  :
    own_Met l x code maxLocals ret ws room_1 Z h0 #[(.long j0), (.int p2), (.int p3), (.int p4), (.int p5)] (Q_rm0 Z j0 p2 p3 p4 p5 h0 n0) := by
  refine own_met (plainFor_of_name pn_2) (fun m => ef_rm0 m j0 p2 p3 p4 p5) ?_
  intro p e s m below meth c s₁ Φ hΦ X0 hx hby hml hown hnm hret hlk hZ e0
  have N0 := Fr.nil n0
  have B : own_B p c _ _ := ⟨hx, hby, hml⟩
  show own_G p e below Φ s₁ (mkF m 0 #[.val (.long j0), .second, .val (.int p2), .val (.int p3), .val (.int p4), .val (.int p5), .unset, .unset, .unset, .unset, .unset, .unset, .unset, .unset, .unset, .unset, .unset, .unset, .unset] [])
  refine o_lloadN X0 B at_0 rfl ?_
  refine o_l2i X0 B at_1 ?_
  refine o_i2s X0 B at_2 ?_
  refine o_istore (L' := #[.val (.long j0), .second, .val (.int p2), .val (.int p3), .val (.int p4), .val (.int p5), .val (.int ((j0.toInt32).toInt16.toInt32)), .unset, .unset, .unset, .unset, .unset, .unset, .unset, .unset, .unset, .unset, .unset, .unset]) X0 B at_3 rfl ?_
  show own_G p e below Φ s₁ (mkF m 5 #[.val (.long j0), .second, .val (.int p2), .val (.int p3), .val (.int p4), .val (.int p5), .val (.int ((j0.toInt32).toInt16.toInt32)), .unset, .unset, .unset, .unset, .unset, .unset, .unset, .unset, .unset, .unset, .unset, .unset] [])
  generalize hx6_3 : ((j0.toInt32).toInt16.toInt32) = x6_3
  refine o_lloadN X0 B at_5 rfl ?_
  refine o_bipush X0 B at_6 ?_
  refine o_lshr X0 B at_8 ?_
  refine o_l2i X0 B at_9 ?_
  refine o_i2s X0 B at_10 ?_
  refine o_istore (L' := #[.val (.long j0), .second, .val (.int p2), .val (.int p3), .val (.int p4), .val (.int p5), .val (.int x6_3), .val (.int (((j0 >>> ((16 : Int32) &&& 0x3f).toInt64).toInt32).toInt16.toInt32)), .unset, .unset, .unset, .unset, .unset, .unset, .unset, .unset, .unset, .unset, .unset]) X0 B at_11 rfl ?_
  show own_G p e below Φ s₁ (mkF m 13 #[.val (.long j0), .second, .val (.int p2), .val (.int p3), .val (.int p4), .val (.int p5), .val (.int x6_3), .val (.int (((j0 >>> ((16 : Int32) &&& 0x3f).toInt64).toInt32).toInt16.toInt32)), .unset, .unset, .unset, .unset, .unset, .unset, .unset, .unset, .unset, .unset, .unset] [])
  generalize hx7_11 : (((j0 >>> ((16 : Int32) &&& 0x3f).toInt64).toInt32).toInt16.toInt32) = x7_11
  refine o_lloadN X0 B at_13 rfl ?_
  refine o_bipush X0 B at_14 ?_
  refine o_lshr X0 B at_16 ?_
  refine o_l2i X0 B at_17 ?_
  show own_G p e below Φ s₁ (mkF m 18 #[.val (.long j0), .second, .val (.int p2), .val (.int p3), .val (.int p4), .val (.int p5), .val (.int x6_3), .val (.int x7_11), .unset, .unset, .unset, .unset, .unset, .unset, .unset, .unset, .unset, .unset, .unset] [(.int ((j0 >>> ((32 : Int32) &&& 0x3f).toInt64).toInt32))])
  refine o_i2s X0 B at_18 ?_
  refine o_istore (L' := #[.val (.long j0), .second, .val (.int p2), .val (.int p3), .val (.int p4), .val (.int p5), .val (.int x6_3), .val (.int x7_11), .val (.int (((j0 >>> ((32 : Int32) &&& 0x3f).toInt64).toInt32).toInt16.toInt32)), .unset, .unset, .unset, .unset, .unset, .unset, .unset, .unset, .unset, .unset]) X0 B at_19 rfl ?_
  show own_G p e below Φ s₁ (mkF m 21 #[.val (.long j0), .second, .val (.int p2), .val (.int p3), .val (.int p4), .val (.int p5), .val (.int x6_3), .val (.int x7_11), .val (.int (((j0 >>> ((32 : Int32) &&& 0x3f).toInt64).toInt32).toInt16.toInt32)), .unset, .unset, .unset, .unset, .unset, .unset, .unset, .unset, .unset, .unset] [])
  generalize hx8_19 : (((j0 >>> ((32 : Int32) &&& 0x3f).toInt64).toInt32).toInt16.toInt32) = x8_19
  refine o_lloadN X0 B at_21 rfl ?_
  refine o_bipush X0 B at_22 ?_
  refine o_lshr X0 B at_24 ?_
  refine o_l2i X0 B at_25 ?_
  refine o_i2s X0 B at_26 ?_
  refine o_istore (L' := #[.val (.long j0), .second, .val (.int p2), .val (.int p3), .val (.int p4), .val (.int p5), .val (.int x6_3), .val (.int x7_11), .val (.int x8_19), .val (.int (((j0 >>> ((48 : Int32) &&& 0x3f).toInt64).toInt32).toInt16.toInt32)), .unset, .unset, .unset, .unset, .unset, .unset, .unset, .unset, .unset]) X0 B at_27 rfl ?_
  show own_G p e below Φ s₁ (mkF m 29 #[.val (.long j0), .second, .val (.int p2), .val (.int p3), .val (.int p4), .val (.int p5), .val (.int x6_3), .val (.int x7_11), .val (.int x8_19), .val (.int (((j0 >>> ((48 : Int32) &&& 0x3f).toInt64).toInt32).toInt16.toInt32)), .unset, .unset, .unset, .unset, .unset, .unset, .unset, .unset, .unset] [])
  generalize hx9_27 : (((j0 >>> ((48 : Int32) &&& 0x3f).toInt64).toInt32).toInt16.toInt32) = x9_27
  refine o_iloadN X0 B at_29 rfl ?_
  refine o_bipush X0 B at_30 ?_
  refine o_ishr X0 B at_32 ?_
  refine o_istore (L' := #[.val (.long j0), .second, .val (.int p2), .val (.int p3), .val (.int p4), .val (.int p5), .val (.int x6_3), .val (.int x7_11), .val (.int x8_19), .val (.int x9_27), .val (.int (p2 >>> ((11 : Int32) &&& 31))), .unset, .unset, .unset, .unset, .unset, .unset, .unset, .unset]) X0 B at_33 rfl ?_
  show own_G p e below Φ s₁ (mkF m 35 #[.val (.long j0), .second, .val (.int p2), .val (.int p3), .val (.int p4), .val (.int p5), .val (.int x6_3), .val (.int x7_11), .val (.int x8_19), .val (.int x9_27), .val (.int (p2 >>> ((11 : Int32) &&& 31))), .unset, .unset, .unset, .unset, .unset, .unset, .unset, .unset] [])
  generalize hx10_33 : (p2 >>> ((11 : Int32) &&& 31)) = x10_33
  refine o_iloadN X0 B at_35 rfl ?_
  refine o_bipush X0 B at_36 ?_
  show own_G p e below Φ s₁ (mkF m 38 #[.val (.long j0), .second, .val (.int p2), .val (.int p3), .val (.int p4), .val (.int p5), .val (.int x6_3), .val (.int x7_11), .val (.int x8_19), .val (.int x9_27), .val (.int x10_33), .unset, .unset, .unset, .unset, .unset, .unset, .unset, .unset] [(.int (11 : Int32)), (.int p3)])
  refine o_ishr X0 B at_38 ?_
  refine o_istore (L' := #[.val (.long j0), .second, .val (.int p2), .val (.int p3), .val (.int p4), .val (.int p5), .val (.int x6_3), .val (.int x7_11), .val (.int x8_19), .val (.int x9_27), .val (.int x10_33), .val (.int (p3 >>> ((11 : Int32) &&& 31))), .unset, .unset, .unset, .unset, .unset, .unset, .unset]) X0 B at_39 rfl ?_
  show own_G p e below Φ s₁ (mkF m 41 #[.val (.long j0), .second, .val (.int p2), .val (.int p3), .val (.int p4), .val (.int p5), .val (.int x6_3), .val (.int x7_11), .val (.int x8_19), .val (.int x9_27), .val (.int x10_33), .val (.int (p3 >>> ((11 : Int32) &&& 31))), .unset, .unset, .unset, .unset, .unset, .unset, .unset] [])
  generalize hx11_39 : (p3 >>> ((11 : Int32) &&& 31)) = x11_39
  refine o_iload X0 B at_41 rfl ?_
  refine o_bipush X0 B at_43 ?_
  refine o_ishr X0 B at_45 ?_
  refine o_istore (L' := #[.val (.long j0), .second, .val (.int p2), .val (.int p3), .val (.int p4), .val (.int p5), .val (.int x6_3), .val (.int x7_11), .val (.int x8_19), .val (.int x9_27), .val (.int x10_33), .val (.int x11_39), .val (.int (p4 >>> ((11 : Int32) &&& 31))), .unset, .unset, .unset, .unset, .unset, .unset]) X0 B at_46 rfl ?_
  show own_G p e below Φ s₁ (mkF m 48 #[.val (.long j0), .second, .val (.int p2), .val (.int p3), .val (.int p4), .val (.int p5), .val (.int x6_3), .val (.int x7_11), .val (.int x8_19), .val (.int x9_27), .val (.int x10_33), .val (.int x11_39), .val (.int (p4 >>> ((11 : Int32) &&& 31))), .unset, .unset, .unset, .unset, .unset, .unset] [])
  generalize hx12_46 : (p4 >>> ((11 : Int32) &&& 31)) = x12_46
  refine o_iload X0 B at_48 rfl ?_
  refine o_bipush X0 B at_50 ?_
  refine o_ishr X0 B at_52 ?_
  refine o_istore (L' := #[.val (.long j0), .second, .val (.int p2), .val (.int p3), .val (.int p4), .val (.int p5), .val (.int x6_3), .val (.int x7_11), .val (.int x8_19), .val (.int x9_27), .val (.int x10_33), .val (.int x11_39), .val (.int x12_46), .val (.int (p5 >>> ((11 : Int32) &&& 31))), .unset, .unset, .unset, .unset, .unset]) X0 B at_53 rfl ?_
  show own_G p e below Φ s₁ (mkF m 55 #[.val (.long j0), .second, .val (.int p2), .val (.int p3), .val (.int p4), .val (.int p5), .val (.int x6_3), .val (.int x7_11), .val (.int x8_19), .val (.int x9_27), .val (.int x10_33), .val (.int x11_39), .val (.int x12_46), .val (.int (p5 >>> ((11 : Int32) &&& 31))), .unset, .unset, .unset, .unset, .unset] [])
  generalize hx13_53 : (p5 >>> ((11 : Int32) &&& 31)) = x13_53
  have hb6 := own_s16 hx6_3
  have hb7 := own_s16 hx7_11
  have hb8 := own_s16 hx8_19
  have hb9 := own_s16 hx9_27
  have hb10 := own_q21 hx10_33
  have hb11 := own_q21 hx11_39
  have hb12 := own_q21 hx12_46
  have hb13 := own_q21 hx13_53
  obtain ⟨hP, hC⟩ := own_law hb6 hb7 hb8 hb9 hb10 hb11 hb12 hb13
  refine o_new X0 B hZ hown (wd_0 hw) (wd_1 hw) (wd_2 hw) e0 at_55 (by decide) (by decide) ?_
  intro T1 h1 ob1 g1 X1 e1 E1 A1 D1
  have g_ob1 : n0 ≤ ob1 := Nat.le_trans Z0 (Nat.le_of_eq g1.symm)
  have Zp1 : n0 ≤ h1.size := Nat.le_trans Z0 E1.1
  have F_farePerKm_ob1 : Fld Z h1 ob1 "com/example/fairhail/fairhail/simulation/Tariff" "farePerKm" "D" (.double 0) := D1 (Or.inr (wd_15 hw)) (ty := .double) (by decide)
  have F_farePerH_ob1 : Fld Z h1 ob1 "com/example/fairhail/fairhail/simulation/Tariff" "farePerH" "D" (.double 0) := D1 (Or.inr (wd_17 hw)) (ty := .double) (by decide)
  have F_costPerKm_ob1 : Fld Z h1 ob1 "com/example/fairhail/fairhail/simulation/Tariff" "costPerKm" "D" (.double 0) := D1 (Or.inr (wd_19 hw)) (ty := .double) (by decide)
  have F_costPerH_ob1 : Fld Z h1 ob1 "com/example/fairhail/fairhail/simulation/Tariff" "costPerH" "D" (.double 0) := D1 (Or.inr (wd_21 hw)) (ty := .double) (by decide)
  refine o_dup X1 B at_58 rfl ?_
  refine o_sipush X1 B at_59 ?_
  refine o_iload X1 B at_62 rfl ?_
  show own_G p e below Φ T1 (mkF m 64 #[.val (.long j0), .second, .val (.int p2), .val (.int p3), .val (.int p4), .val (.int p5), .val (.int x6_3), .val (.int x7_11), .val (.int x8_19), .val (.int x9_27), .val (.int x10_33), .val (.int x11_39), .val (.int x12_46), .val (.int x13_53), .unset, .unset, .unset, .unset, .unset] [(.int x6_3), (.int (1000 : Int32)), (.ref ob1), (.ref ob1)])
  refine o_imul X1 B at_64 ?_
  refine o_i2d X1 B at_65 ?_
  refine o_sipush X1 B at_66 ?_
  refine o_iload X1 B at_69 rfl ?_
  refine o_imul X1 B at_71 ?_
  refine o_i2d X1 B at_72 ?_
  refine o_sipush X1 B at_73 ?_
  refine o_iload X1 B at_76 rfl ?_
  refine o_imul X1 B at_78 ?_
  refine o_i2d X1 B at_79 ?_
  refine o_sipush X1 B at_80 ?_
  refine o_iload X1 B at_83 rfl ?_
  refine o_imul X1 B at_85 ?_
  refine o_i2d X1 B at_86 ?_
  show own_G p e below Φ T1 (mkF m 87 #[.val (.long j0), .second, .val (.int p2), .val (.int p3), .val (.int p4), .val (.int p5), .val (.int x6_3), .val (.int x7_11), .val (.int x8_19), .val (.int x9_27), .val (.int x10_33), .val (.int x11_39), .val (.int x12_46), .val (.int x13_53), .unset, .unset, .unset, .unset, .unset] [(.double (Jvm.FP.i2d ((3600 : Int32) * x9_27))), (.double (Jvm.FP.i2d ((1000 : Int32) * x8_19))), (.double (Jvm.FP.i2d ((3600 : Int32) * x7_11))), (.double (Jvm.FP.i2d ((1000 : Int32) * x6_3))), (.ref ob1), (.ref ob1)])
  refine o_cI (argsL := [(.double (Jvm.FP.i2d ((1000 : Int32) * x6_3))), (.double (Jvm.FP.i2d ((3600 : Int32) * x7_11))), (.double (Jvm.FP.i2d ((1000 : Int32) * x8_19))), (.double (Jvm.FP.i2d ((3600 : Int32) * x9_27)))]) (rest := [(.ref ob1)]) X1 B hZ hown rfl (wd_3 hw) (wd_4 hw) (wd_5 hw) (wd_2 hw) (by decide) rfl 1 (rmIni l Z a0 hw [] ob1 (Jvm.FP.i2d ((1000 : Int32) * x6_3)) (Jvm.FP.i2d ((3600 : Int32) * x7_11)) (Jvm.FP.i2d ((1000 : Int32) * x8_19)) (Jvm.FP.i2d ((3600 : Int32) * x9_27)) h1 n0 Zp1 A1 F_farePerKm_ob1 F_farePerH_ob1 F_costPerKm_ob1 F_costPerH_ob1 g_ob1) (by decide) (by decide) (lenOf pd_1 rfl) rfl rfl rfl at_87 e1 (by decide) (by decide) rfl ?_
  rintro _ T2 _ X2 ⟨rfl, N2q, Kq2, p2_0, p2_1, p2_2, p2_3, p2_4⟩
  have N2 := Fr.app N0 N2q
  have Zp2 : n0 ≤ T2.heap.size := Nat.le_trans Zp1 Kq2.1
  refine o_astore (L' := #[.val (.long j0), .second, .val (.int p2), .val (.int p3), .val (.int p4), .val (.int p5), .val (.int x6_3), .val (.int x7_11), .val (.int x8_19), .val (.int x9_27), .val (.int x10_33), .val (.int x11_39), .val (.int x12_46), .val (.int x13_53), .val (.ref ob1), .unset, .unset, .unset, .unset]) X2 B at_90 rfl rfl ?_
  refine o_aload X2 B at_92 rfl rfl ?_
  refine o_iload X2 B at_94 rfl ?_
  refine o_i2d X2 B at_96 ?_
  refine o_iload X2 B at_97 rfl ?_
  refine o_i2d X2 B at_99 ?_
  refine o_iload X2 B at_100 rfl ?_
  refine o_i2d X2 B at_102 ?_
  refine o_iload X2 B at_103 rfl ?_
  refine o_i2d X2 B at_105 ?_
  refine o_cV (argsL := [(.double (Jvm.FP.i2d x10_33)), (.double (Jvm.FP.i2d x11_39)), (.double (Jvm.FP.i2d x12_46)), (.double (Jvm.FP.i2d x13_53))]) (rest := []) X2 B hZ hown (wd_22 hw) (wd_23 hw) (wd_25 hw) (wd_24 hw) (wd_26 hw) (wd_2 hw) (by decide) p2_0 0 (rmPft l Z a0 hw [] ob1 (Jvm.FP.i2d ((1000 : Int32) * x6_3)) (Jvm.FP.i2d ((3600 : Int32) * x7_11)) (Jvm.FP.i2d ((1000 : Int32) * x8_19)) (Jvm.FP.i2d ((3600 : Int32) * x9_27)) (Jvm.FP.i2d x10_33) (Jvm.FP.i2d x11_39) (Jvm.FP.i2d x12_46) (Jvm.FP.i2d x13_53) T2.heap n0 Zp2 p2_0 p2_1 p2_2 p2_3 p2_4 hP) (by decide) (by decide) (lenOf pd_2 rfl) rfl rfl rfl at_106 rfl (by decide) (by decide) rfl ?_
  rintro _ T3 _ X3 ⟨rfl, N3q, hs3⟩
  have N3 := Fr.app N2 N3q
  refine o_dstore (L' := #[.val (.long j0), .second, .val (.int p2), .val (.int p3), .val (.int p4), .val (.int p5), .val (.int x6_3), .val (.int x7_11), .val (.int x8_19), .val (.int x9_27), .val (.int x10_33), .val (.int x11_39), .val (.int x12_46), .val (.int x13_53), .val (.ref ob1), .val (.double (own_pr (Jvm.FP.i2d ((1000 : Int32) * x6_3)) (Jvm.FP.i2d ((3600 : Int32) * x7_11)) (Jvm.FP.i2d ((1000 : Int32) * x8_19)) (Jvm.FP.i2d ((3600 : Int32) * x9_27)) (Jvm.FP.i2d x10_33) (Jvm.FP.i2d x11_39) (Jvm.FP.i2d x12_46) (Jvm.FP.i2d x13_53))), .second, .unset, .unset]) X3 B at_109 rfl ?_
  refine o_iload X3 B at_111 rfl ?_
  show own_G p e below Φ T3 (mkF m 113 #[.val (.long j0), .second, .val (.int p2), .val (.int p3), .val (.int p4), .val (.int p5), .val (.int x6_3), .val (.int x7_11), .val (.int x8_19), .val (.int x9_27), .val (.int x10_33), .val (.int x11_39), .val (.int x12_46), .val (.int x13_53), .val (.ref ob1), .val (.double (own_pr (Jvm.FP.i2d ((1000 : Int32) * x6_3)) (Jvm.FP.i2d ((3600 : Int32) * x7_11)) (Jvm.FP.i2d ((1000 : Int32) * x8_19)) (Jvm.FP.i2d ((3600 : Int32) * x9_27)) (Jvm.FP.i2d x10_33) (Jvm.FP.i2d x11_39) (Jvm.FP.i2d x12_46) (Jvm.FP.i2d x13_53))), .second, .unset, .unset] [(.int x6_3)])
  refine o_i2l X3 B at_113 ?_
  refine o_iload X3 B at_114 rfl ?_
  refine o_i2l X3 B at_116 ?_
  refine o_lmul X3 B at_117 ?_
  refine o_iload X3 B at_118 rfl ?_
  refine o_i2l X3 B at_120 ?_
  refine o_iload X3 B at_121 rfl ?_
  refine o_i2l X3 B at_123 ?_
  refine o_lmul X3 B at_124 ?_
  refine o_ladd X3 B at_125 ?_
  refine o_iload X3 B at_126 rfl ?_
  refine o_i2l X3 B at_128 ?_
  refine o_iload X3 B at_129 rfl ?_
  refine o_i2l X3 B at_131 ?_
  show own_G p e below Φ T3 (mkF m 132 #[.val (.long j0), .second, .val (.int p2), .val (.int p3), .val (.int p4), .val (.int p5), .val (.int x6_3), .val (.int x7_11), .val (.int x8_19), .val (.int x9_27), .val (.int x10_33), .val (.int x11_39), .val (.int x12_46), .val (.int x13_53), .val (.ref ob1), .val (.double (own_pr (Jvm.FP.i2d ((1000 : Int32) * x6_3)) (Jvm.FP.i2d ((3600 : Int32) * x7_11)) (Jvm.FP.i2d ((1000 : Int32) * x8_19)) (Jvm.FP.i2d ((3600 : Int32) * x9_27)) (Jvm.FP.i2d x10_33) (Jvm.FP.i2d x11_39) (Jvm.FP.i2d x12_46) (Jvm.FP.i2d x13_53))), .second, .unset, .unset] [(.long (x12_46.toInt64)), (.long (x8_19.toInt64)), (.long (((x6_3.toInt64) * (x10_33.toInt64)) + ((x7_11.toInt64) * (x11_39.toInt64))))])
  refine o_lmul X3 B at_132 ?_
  refine o_lsub X3 B at_133 ?_
  refine o_iload X3 B at_134 rfl ?_
  refine o_i2l X3 B at_136 ?_
  refine o_iload X3 B at_137 rfl ?_
  refine o_i2l X3 B at_139 ?_
  refine o_lmul X3 B at_140 ?_
  refine o_lsub X3 B at_141 ?_
  refine o_lstore (L' := #[.val (.long j0), .second, .val (.int p2), .val (.int p3), .val (.int p4), .val (.int p5), .val (.int x6_3), .val (.int x7_11), .val (.int x8_19), .val (.int x9_27), .val (.int x10_33), .val (.int x11_39), .val (.int x12_46), .val (.int x13_53), .val (.ref ob1), .val (.double (own_pr (Jvm.FP.i2d ((1000 : Int32) * x6_3)) (Jvm.FP.i2d ((3600 : Int32) * x7_11)) (Jvm.FP.i2d ((1000 : Int32) * x8_19)) (Jvm.FP.i2d ((3600 : Int32) * x9_27)) (Jvm.FP.i2d x10_33) (Jvm.FP.i2d x11_39) (Jvm.FP.i2d x12_46) (Jvm.FP.i2d x13_53))), .second, .val (.long (((((x6_3.toInt64) * (x10_33.toInt64)) + ((x7_11.toInt64) * (x11_39.toInt64))) - ((x8_19.toInt64) * (x12_46.toInt64))) - ((x9_27.toInt64) * (x13_53.toInt64)))), .second]) X3 B at_142 rfl ?_
  refine o_dload X3 B at_144 rfl ?_
  refine o_lload X3 B at_146 rfl ?_
  refine o_l2d X3 B at_148 ?_
  refine o_dcmp X3 B (0 : Int32) at_149 hC ?_
  refine o_ifN X3 B at_150 (XT.i0_ne_f (by decide : ((0 : Int32) = (0 : Int32)))) ?_
  show own_G p e below Φ T3 (mkF m 153 #[.val (.long j0), .second, .val (.int p2), .val (.int p3), .val (.int p4), .val (.int p5), .val (.int x6_3), .val (.int x7_11), .val (.int x8_19), .val (.int x9_27), .val (.int x10_33), .val (.int x11_39), .val (.int x12_46), .val (.int x13_53), .val (.ref ob1), .val (.double (own_pr (Jvm.FP.i2d ((1000 : Int32) * x6_3)) (Jvm.FP.i2d ((3600 : Int32) * x7_11)) (Jvm.FP.i2d ((1000 : Int32) * x8_19)) (Jvm.FP.i2d ((3600 : Int32) * x9_27)) (Jvm.FP.i2d x10_33) (Jvm.FP.i2d x11_39) (Jvm.FP.i2d x12_46) (Jvm.FP.i2d x13_53))), .second, .val (.long (((((x6_3.toInt64) * (x10_33.toInt64)) + ((x7_11.toInt64) * (x11_39.toInt64))) - ((x8_19.toInt64) * (x12_46.toInt64))) - ((x9_27.toInt64) * (x13_53.toInt64)))), .second] [])
  refine o_iconst X3 B at_153 ?_
  refine o_goto X3 B 158 at_154 rfl ?_
  exact o_rZ X3 B hΦ hlk hret (by simp) at_158 (1 : Int32) rfl hs3 (by decide) (by decide) ⟨rfl, N3⟩
set_option maxRecDepth 65536 in
set_option maxHeartbeats 40000000 in
theorem comes_1 {Post : Tables → Env → Array Value → State → Outcome → State → Prop} (hpost : ∀ tb e args s v u, (limb_1_1.after args s (.returned v) u = true ∧ limb_1_2.after args s (.returned v) u = true ∧ True) → FrameEnd s (.returned v) u (Jvm.fieldLocs frame_1_writes args s ++ Jvm.arrayLocs frame_1_arrays args s ++ Jvm.staticLocs frame_1_statics s) 16 128 → Post tb e args s (.returned v) u) :
    ArmFor flags0 classFile x code maxLocals ret World_1 tables_1 room_1 Calls_1 rest_1 Pre_1 Post := by
  intro l hfl _ _ p e ha hc hk s m args below hf hA hF happ hP
  obtain ⟨hcalls, hrest, hpre⟩ := hP
  obtain ⟨-, -, -, hnamed, -, -, -, hat⟩ := (Spec.applies_iff hf).mp happ
  obtain ⟨hg, hn⟩ := and_e (Cond.before_iff.mp (show (Jvm.Cond.and given_1 narrow_1).before args s = true from hpre))
  obtain ⟨g1, g2⟩ := and_e hg
  obtain ⟨g3, g4⟩ := and_e g2
  obtain ⟨g5, g6⟩ := and_e g4
  obtain ⟨g7, g8⟩ := and_e g6
  obtain ⟨g9, g10⟩ := and_e g8
  obtain ⟨w0, w1, w2, w3, w4, rfl⟩ : ∃ w0 w1 w2 w3 w4 : Value, args = #[w0, w1, w2, w3, w4] := by
    have hs : args.size = 5 := by simpa [Cond.value, given_1] using g1
    obtain ⟨L⟩ := args
    match L, hs with
    | [w0, w1, w2, w3, w4], _ => exact ⟨w0, w1, w2, w3, w4, rfl⟩
  have hw := fun d (hd : d ∈ tables_1) => atoms_spec (ws := Jvm.Cond.code x code maxLocals ret :: tables_1) hat d (List.mem_cons_of_mem _ hd)
  obtain ⟨i0, ei0⟩ := isL_v g3
  obtain rfl : w0 = (.long i0) := Option.some.inj ei0
  obtain ⟨i1, ei1⟩ := is_v g5
  obtain rfl : w1 = (.int i1) := Option.some.inj ei1
  obtain ⟨i2, ei2⟩ := is_v g7
  obtain rfl : w2 = (.int i2) := Option.some.inj ei2
  obtain ⟨i3, ei3⟩ := is_v g9
  obtain rfl : w3 = (.int i3) := Option.some.inj ei3
  obtain ⟨i4, ei4⟩ := is_v g10
  obtain rfl : w4 = (.int i4) := Option.some.inj ei4
  obtain ⟨n, o, h1, h2, h3, _, L, rfl, ⟨rfl, N⟩, hq⟩ := rm0 l s _ hw tables_1 i0 i1 i2 i3 i4 s.heap s.heap.size (Nat.le_refl _)  p e ha hc hk s m _ below hf ((Spec.applies_iff_loose hf).mp happ).1 ⟨rfl, State.Warmed39.refl s, rfl⟩ trivial
  refine ⟨n, _, h1, h2, h3, hpost _ _ _ _ _ _ ⟨Cond.after_iff.mpr rfl, Cond.after_iff.mpr (eq_i res_at (Term.int_eval (1)) rfl), trivial⟩ ⟨hq.1, hq.2.1, (hq.2.2.sift fun y hy => Or.inr (N y hy)).mono (by decide) (by decide)⟩⟩
theorem main_1_1 : Claimed_1_1 := comes_1 fun _ _ _ _ _ _ h hF => ⟨h.1, hF⟩
theorem main_1_2 : Claimed_1_2 := comes_1 fun _ _ _ _ _ _ h hF => ⟨h.2.1, hF⟩
end Jvm.Pilot.@@N@@

namespace Jvm.Pilot.@@N@@
open Jvm Jvm.ClassFile Sem Op Lib Jvm.Free Jvm.Stand Jvm.Pilot.@@N@@.Jvm.D
/-! MADE BY PROGRAM (witnessworld.py) out of the Statement's table words and the real class files: 10 classes; the members and pool entries that the words name. The judged class is class 1, her method 1. -/
namespace start1
open Jvm.ClassFile
def u (s : String) : CpInfo := .utf8 (stringToUtf16 s)
/-- a pool by its gaps: so many unusable entries, then the entry; so many at the end -/
def gap : Nat → List CpInfo → List CpInfo
  | 0, r => r
  | n + 1, r => .unusable :: gap n r
def poolList (es : List (Nat × CpInfo)) (last : Nat) : List CpInfo := es.foldr (fun e r => gap e.1 (e.2 :: r)) (gap last [])
def pool (es : List (Nat × CpInfo)) (last : Nat) : Array CpInfo := ⟨poolList es last⟩
def fileOf (pool : Array CpInfo) (this : Nat) (attrs : Array Attribute := #[]) (ms : Array MethodInfo := #[]) (fl : Nat := 33) (sup : Nat := 0) (ifs : Array Nat := #[]) (fds : Array FieldInfo := #[]) : ClassFile where
  minorVersion := 0
  majorVersion := 65
  constantPool := pool
  accessFlags := fl
  thisClass := this
  superClass := sup
  interfaces := ifs
  fields := fds
  methods := ms
  attributes := attrs
def plain (name : String) (sup : Option ClassId) : Class where
  name := name
  kind := .ordinary
  loader := none
  accessFlags := 33
  super := sup
  interfaces := #[]
  cf := none
  fields := #[]
  methods := #[]
  instanceTypes := #[]
  staticTypes := #[]
  resolved := #[]
  callSites := []
  init := .initialized
  statics := none
  mirror := none

def pool0 : Array CpInfo := pool [(5, u "<init>"), (0, u "()V"), (1, .class_ 10), (1, u "java/lang/Object")] 113

def k0c0 : Code := { maxStack := 0, maxLocals := 1, code := object_method_1_code, exceptionTable := #[], attributes := #[] }
def k0m0 : Method := { name := "<init>", desc := "()V", sig := { parameters := [], returnType := none }, accessFlags := 1, code := some k0c0 }
/-- java/lang/Object -/
def k0 : Class := { plain "java/lang/Object" none with
  accessFlags := 33
  interfaces := #[]
  cf := some (fileOf pool0 8 #[] #[{ accessFlags := 1, nameIndex := 5, descriptorIndex := 6, attributes := #[] }] 33 0 #[] #[])
  fields := #[]
  methods := #[k0m0]
  instanceTypes := #[]
  staticTypes := #[]
  resolved := Array.replicate 124 none
  statics := none }

def pool1 : Array CpInfo := pool [(2, .class_ 4), (1, u "java/lang/Object"), (0, u "<init>"), (0, u "()V"), (0, .class_ 8), (0, u "com/example/fairhail/fairhail/simulation/Tariff"), (0, .methodref 7 10), (0, .nameAndType 5 11), (0, u "(DDDD)V"), (0, .methodref 7 13), (0, .nameAndType 14 15), (0, u "profitUsd"), (0, u "(DDDD)D"), (0, .class_ 17), (0, u "com/example/fairhail/fairhail/simulation/TariffProfitUsdPinLaw"), (2, u "law"), (0, u "(JIIII)Z")] 3

def k1m0 : Method := { name := "<init>", desc := "()V", sig := { parameters := [], returnType := none }, accessFlags := 1, code := none }
def k1c1 : Code := { maxStack := 10, maxLocals := 19, code := code, exceptionTable := #[], attributes := #[] }
def k1m1 : Method := { name := "law", desc := "(JIIII)Z", sig := { parameters := [.long, .int, .int, .int, .int], returnType := some .boolean }, accessFlags := 9, code := some k1c1 }
/-- com/example/fairhail/fairhail/simulation/TariffProfitUsdPinLaw -/
def k1 : Class := { plain "com/example/fairhail/fairhail/simulation/TariffProfitUsdPinLaw" (some 0) with
  accessFlags := 49
  interfaces := #[]
  cf := some (fileOf pool1 16 #[] #[{ accessFlags := 1, nameIndex := 5, descriptorIndex := 6, attributes := #[] }, { accessFlags := 9, nameIndex := 20, descriptorIndex := 21, attributes := #[] }] 49 2 #[] #[])
  fields := #[]
  methods := #[k1m0, k1m1]
  instanceTypes := #[]
  staticTypes := #[]
  resolved := Array.replicate 25 none
  statics := none }

def pool2 : Array CpInfo := pool [(1, .methodref 2 3), (0, .class_ 4), (0, .nameAndType 5 6), (0, u "java/lang/Object"), (0, u "<init>"), (0, u "()V"), (0, .class_ 8), (0, u "java/lang/Record")] 13

def k2c0 : Code := { maxStack := 1, maxLocals := 1, code := jdk_30_method_1_code, exceptionTable := #[], attributes := #[] }
def k2m0 : Method := { name := "<init>", desc := "()V", sig := { parameters := [], returnType := none }, accessFlags := 4, code := some k2c0 }
/-- java/lang/Record -/
def k2 : Class := { plain "java/lang/Record" (some 0) with
  accessFlags := 1057
  interfaces := #[]
  cf := some (fileOf pool2 7 #[] #[{ accessFlags := 4, nameIndex := 5, descriptorIndex := 6, attributes := #[] }] 1057 2 #[] #[])
  fields := #[]
  methods := #[k2m0]
  instanceTypes := #[]
  staticTypes := #[]
  resolved := Array.replicate 22 none
  statics := none }

def pool3 : Array CpInfo := pool [(1, .methodref 2 3), (0, .class_ 4), (0, .nameAndType 5 6), (0, u "java/lang/Record"), (0, u "<init>"), (0, u "()V"), (0, .fieldref 8 9), (0, .class_ 10), (0, .nameAndType 11 12), (0, u "com/example/fairhail/fairhail/simulation/Tariff"), (0, u "farePerKm"), (0, u "D"), (0, .fieldref 8 14), (0, .nameAndType 15 12), (0, u "farePerH"), (0, .fieldref 8 17), (0, .nameAndType 18 12), (0, u "costPerKm"), (0, .fieldref 8 20), (0, .nameAndType 21 12), (0, u "costPerH"), (0, .double 4652007308841189376), (1, .double 4660134898793709568), (23, u "(DDDD)V"), (2, u "DEFAULT"), (0, u "Lcom/example/fairhail/fairhail/simulation/Tariff;"), (3, u "profitUsd"), (0, u "(DDDD)D")] 28

def k3c0 : Code := { maxStack := 3, maxLocals := 9, code := prog_49_method_1_code, exceptionTable := #[], attributes := #[] }
def k3m0 : Method := { name := "<init>", desc := "(DDDD)V", sig := { parameters := [.double, .double, .double, .double], returnType := none }, accessFlags := 1, code := some k3c0 }
def k3c1 : Code := { maxStack := 6, maxLocals := 9, code := prog_49_method_2_code, exceptionTable := #[], attributes := #[] }
def k3m1 : Method := { name := "profitUsd", desc := "(DDDD)D", sig := { parameters := [.double, .double, .double, .double], returnType := some .double }, accessFlags := 1, code := some k3c1 }
/-- com/example/fairhail/fairhail/simulation/Tariff -/
def k3 : Class := { plain "com/example/fairhail/fairhail/simulation/Tariff" (some 2) with
  accessFlags := 49
  interfaces := #[]
  cf := some (fileOf pool3 8 #[] #[{ accessFlags := 1, nameIndex := 5, descriptorIndex := 48, attributes := #[] }, { accessFlags := 1, nameIndex := 56, descriptorIndex := 57, attributes := #[] }] 49 2 #[] #[{ accessFlags := 18, nameIndex := 11, descriptorIndex := 12, attributes := #[] }, { accessFlags := 18, nameIndex := 15, descriptorIndex := 12, attributes := #[] }, { accessFlags := 18, nameIndex := 18, descriptorIndex := 12, attributes := #[] }, { accessFlags := 18, nameIndex := 21, descriptorIndex := 12, attributes := #[] }, { accessFlags := 25, nameIndex := 51, descriptorIndex := 52, attributes := #[] }])
  fields := #[{ name := "farePerKm", type := .double, accessFlags := 18, slot := 0, constantValue := 0 }, { name := "farePerH", type := .double, accessFlags := 18, slot := 1, constantValue := 0 }, { name := "costPerKm", type := .double, accessFlags := 18, slot := 2, constantValue := 0 }, { name := "costPerH", type := .double, accessFlags := 18, slot := 3, constantValue := 0 }, { name := "DEFAULT", type := (.object "com/example/fairhail/fairhail/simulation/Tariff"), accessFlags := 25, slot := 0, constantValue := 0 }]
  methods := #[k3m0, k3m1]
  instanceTypes := #[.double, .double, .double, .double]
  staticTypes := #[(.object "com/example/fairhail/fairhail/simulation/Tariff")]
  resolved := Array.replicate 86 none
  statics := none }

def pool4 : Array CpInfo := pool [(1, u "java/lang/Cloneable"), (0, .class_ 1), (0, u "java/lang/Object"), (0, .class_ 3)] 3

/-- java/lang/Cloneable -/
def k4 : Class := { plain "java/lang/Cloneable" (some 0) with
  accessFlags := 1537
  interfaces := #[]
  cf := some (fileOf pool4 2 #[] #[] 1537 4 #[] #[])
  fields := #[]
  methods := #[]
  instanceTypes := #[]
  staticTypes := #[]
  resolved := Array.replicate 8 none
  statics := none }

def pool5 : Array CpInfo := pool [(1, u "java/io/Serializable"), (0, .class_ 1), (0, u "java/lang/Object"), (0, .class_ 3)] 3

/-- java/io/Serializable -/
def k5 : Class := { plain "java/io/Serializable" (some 0) with
  accessFlags := 1537
  interfaces := #[]
  cf := some (fileOf pool5 2 #[] #[] 1537 4 #[] #[])
  fields := #[]
  methods := #[]
  instanceTypes := #[]
  staticTypes := #[]
  resolved := Array.replicate 8 none
  statics := none }

/-- the primitive byte -/
def k6 : Class := { plain "byte" none with kind := .primitive 'B', accessFlags := 0x411 }
/-- [B -/
def k7 : Class := { plain "[B" (some 0) with kind := .array 6 .byte, interfaces := #[4, 5], accessFlags := 1041 }

/-- the primitive int -/
def k8 : Class := { plain "int" none with kind := .primitive 'I', accessFlags := 0x411 }
/-- [I -/
def k9 : Class := { plain "[I" (some 0) with kind := .array 8 .int, interfaces := #[4, 5], accessFlags := 1041 }

def heap : Heap := #[]
def classes : Array Class := #[k0, k1, k2, k3, k4, k5, k6, k7, k8, k9]
def interned : List (Array UInt16 × Addr) := []
def slotsUsed : Nat := 0
def theMethod : MethodId := ⟨1, 1⟩
def args0 : Array Value := #[.long 5, .int 5, .int 5, .int 5, .int 5]
def aboutOver (below : List Frame) : State where
  vm := { classes := classes, interned := interned.toArray }
  heap := heap
  slotsUsed := slotsUsed
  threads := #[{ frames := .invoking theMethod args0 :: below }]
def below0 : List Frame := [.native { method := ⟨0, 0⟩, args := #[] }]
def about1 : State := aboutOver below0
def p0 : Program := .bare "" "" ""
def e0 : Env := launch0.env 0 0 0
theorem w_frames : about1.frames = Frame.invoking theMethod args0 :: below0 := rfl
set_option maxRecDepth 65536 in
theorem w_args : argsFit about1.vm theMethod args0 = true := by decide +kernel
set_option maxRecDepth 65536 in
theorem w_heap : heapFits about1 = true := by decide +kernel
set_option maxRecDepth 65536 in
theorem w_runnable : about1.curStatus? = some .runnable := by decide +kernel
set_option maxRecDepth 65536 in
theorem w_alone : about1.alone = true := by decide +kernel
set_option maxRecDepth 65536 in
theorem w_named : about1.methodNamed? x = some theMethod := by decide +kernel
set_option maxRecDepth 65536 in
theorem w_hears : about1.hears theMethod below0 = true := by decide +kernel
set_option maxRecDepth 65536 in
theorem w_ripe : about1.ripe theMethod args0 below0 = true := by decide +kernel
theorem w_running : about1.status = .running := rfl
set_option maxRecDepth 65536 in
theorem w_room : about1.hasRoom e0.platform room_1 = true :=
  launch0.hasRoom_least _ room_1 (by decide +kernel) (by decide +kernel) (by decide +kernel) (by decide +kernel) (by decide +kernel) (by decide +kernel)
theorem allAtoms_all (ts : List Jvm.Cond) (a : Array Jvm.Value) (st : Jvm.State) : (allAtoms ts).before a st = ts.all (fun c => c.before a st) := by
  induction ts with
  | nil => rfl
  | cons c t ih =>
    show (Jvm.Cond.and c (allAtoms t)).before a st = _
    rw [Jvm.Cond.before_and, ih, List.all_cons]
def words1 : List Jvm.Cond := Jvm.Cond.code x code maxLocals ret :: tables_1
/-- a 'code' word, met by the world's own term for the bytes: nothing is compared byte by byte -/
theorem code_word {y : MethodName} {bytes : ByteArray} {mx : Nat} {rt : Option FieldType} {a : Array Value} {s : State} {m : MethodId} {meth : Method} {c : Code} (h1 : s.methodNamed? y = some m) (h2 : s.vm.method? m = some meth) (h3 : meth.code = some c) (h4 : c.code = bytes)
    (h5 : (c.maxLocals == mx && c.exceptionTable.isEmpty && decide (c.maxStack ≤ mostOperands) && decide (meth.sig.returnType = rt) && !meth.locks && decide (parseMethodDescriptor y.desc = some meth.sig)) = true) : (Jvm.Cond.code y bytes mx rt).before a s = true := by
  simp only [Bool.and_eq_true, beq_iff_eq, Bool.not_eq_true', decide_eq_true_eq] at h5
  obtain ⟨⟨⟨⟨⟨g1, g2⟩, g3⟩, g4⟩, g5⟩, g6⟩ := h5
  simp [Cond.before, Cond.holds, Cond.value, h1, h2, h3, h4, g1, g2, g3, g4, g5, g6]
def isCode : Jvm.Cond → Bool
  | .code _ _ _ _ => true
  | _ => false
theorem all_split {L : List Jvm.Cond} {P : Jvm.Cond → Bool} (h1 : L.all (fun c => isCode c || P c) = true) (h2 : ∀ c ∈ L.filter isCode, P c = true) : L.all P = true := by
  refine List.all_eq_true.mpr fun c hc => ?_
  have h := List.all_eq_true.mp h1 c hc
  rcases Bool.eq_false_or_eq_true (isCode c) with hi | hi
  · exact h2 c (List.mem_filter.mpr ⟨hc, hi⟩)
  · simpa [hi] using h
set_option maxRecDepth 65536 in
theorem w_c0 : (Jvm.Cond.code x code maxLocals ret).before args0 about1 = true := code_word (m := ⟨1, 1⟩) (meth := k1m1) (c := k1c1) (by decide +kernel) rfl rfl rfl (by decide +kernel)
set_option maxRecDepth 65536 in
theorem w_c1 : (Jvm.Cond.code ({ cls := "com/example/fairhail/fairhail/simulation/Tariff", name := "<init>", desc := "(DDDD)V" } : Jvm.MethodName) prog_49_method_1_code (9 : Nat) (Option.none : Option Jvm.ClassFile.FieldType)).before args0 about1 = true := code_word (m := ⟨3, 0⟩) (meth := k3m0) (c := k3c0) (by decide +kernel) rfl rfl rfl (by decide +kernel)
set_option maxRecDepth 65536 in
theorem w_c2 : (Jvm.Cond.code ({ cls := "java/lang/Record", name := "<init>", desc := "()V" } : Jvm.MethodName) jdk_30_method_1_code (1 : Nat) (Option.none : Option Jvm.ClassFile.FieldType)).before args0 about1 = true := code_word (m := ⟨2, 0⟩) (meth := k2m0) (c := k2c0) (by decide +kernel) rfl rfl rfl (by decide +kernel)
set_option maxRecDepth 65536 in
theorem w_c3 : (Jvm.Cond.code ({ cls := "java/lang/Object", name := "<init>", desc := "()V" } : Jvm.MethodName) object_method_1_code (1 : Nat) (Option.none : Option Jvm.ClassFile.FieldType)).before args0 about1 = true := code_word (m := ⟨0, 0⟩) (meth := k0m0) (c := k0c0) (by decide +kernel) rfl rfl rfl (by decide +kernel)
set_option maxRecDepth 65536 in
theorem w_c4 : (Jvm.Cond.code ({ cls := "com/example/fairhail/fairhail/simulation/Tariff", name := "profitUsd", desc := "(DDDD)D" } : Jvm.MethodName) prog_49_method_2_code (9 : Nat) (Option.some Jvm.ClassFile.FieldType.double)).before args0 about1 = true := code_word (m := ⟨3, 1⟩) (meth := k3m1) (c := k3c1) (by decide +kernel) rfl rfl rfl (by decide +kernel)
def codes1 : List Jvm.Cond := [Jvm.Cond.code x code maxLocals ret, Jvm.Cond.code ({ cls := "com/example/fairhail/fairhail/simulation/Tariff", name := "<init>", desc := "(DDDD)V" } : Jvm.MethodName) prog_49_method_1_code (9 : Nat) (Option.none : Option Jvm.ClassFile.FieldType), Jvm.Cond.code ({ cls := "java/lang/Record", name := "<init>", desc := "()V" } : Jvm.MethodName) jdk_30_method_1_code (1 : Nat) (Option.none : Option Jvm.ClassFile.FieldType), Jvm.Cond.code ({ cls := "java/lang/Object", name := "<init>", desc := "()V" } : Jvm.MethodName) object_method_1_code (1 : Nat) (Option.none : Option Jvm.ClassFile.FieldType), Jvm.Cond.code ({ cls := "com/example/fairhail/fairhail/simulation/Tariff", name := "profitUsd", desc := "(DDDD)D" } : Jvm.MethodName) prog_49_method_2_code (9 : Nat) (Option.some Jvm.ClassFile.FieldType.double)]
set_option maxRecDepth 65536 in
theorem codes_eq : words1.filter isCode = codes1 := rfl
theorem w_codes : ∀ c ∈ words1.filter isCode, c.before args0 about1 = true := by
  rw [codes_eq]
  intro c hc
  simp only [codes1, List.mem_cons, List.not_mem_nil, or_false] at hc
  rcases hc with rfl | rfl | rfl | rfl | rfl
  · exact w_c0
  · exact w_c1
  · exact w_c2
  · exact w_c3
  · exact w_c4
set_option maxRecDepth 65536 in
theorem w_t1 : (words1.take 24).all (fun c => isCode c || c.before args0 about1) = true := by decide +kernel
set_option maxRecDepth 65536 in
theorem w_t2 : (words1.drop 24).all (fun c => isCode c || c.before args0 about1) = true := by decide +kernel
theorem w_tables : (allAtoms (Jvm.Cond.code x code maxLocals ret :: tables_1)).before args0 about1 = true := by
  rw [allAtoms_all]
  show words1.all (fun c => c.before args0 about1) = true
  refine all_split ?_ w_codes
  rw [← List.take_append_drop 24 words1, List.all_append, w_t1, w_t2]
  rfl
set_option maxRecDepth 65536 in
theorem w_case : (Jvm.Cond.and given_1 narrow_1).before args0 about1 = true := by decide +kernel
theorem w_applies : (headSpec (Jvm.Cond.code x code maxLocals ret :: tables_1) room_1).applies x e0.platform about1 = true :=
  (Spec.applies_iff w_frames).mpr ⟨w_running, w_runnable, w_alone, w_named, w_hears, w_ripe, w_room, w_tables⟩
theorem atStart : AtStart classFile x code maxLocals ret World_1 tables_1 room_1 Calls_1 rest_1 Pre_1 launch0 p0 e0 about1 theMethod args0 below0 :=
  ⟨lists_1, trivial, launch0.admits_env _ _ _, launch0.least_env, fairChoices_fair.cas, fairChoices_fair.clock, w_frames, w_args, w_heap, w_applies, trivial, trivial, w_case⟩
end start1
theorem witness_1 : WitnessClaimed_1 := ⟨start1.p0, start1.e0, start1.about1, start1.theMethod, start1.args0, start1.below0, start1.atStart⟩
end Jvm.Pilot.@@N@@
