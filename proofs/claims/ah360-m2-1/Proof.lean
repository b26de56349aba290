import JvmDerived
import JvmDerived.Pilot.@@N@@Statement
import JvmDerived.Pilot.@@N@@Code
set_option linter.unusedVariables false
set_option linter.unusedSimpArgs false
namespace Jvm.RoadKit
open Sem ClassFile Op Lib Jvm.Stand Jvm.Free Jvm.LawKit
section Own
variable {p : Program} {l : Launch} {e : Env} {R : Room} {s : State} {m : MethodId} {args : Array Value} {below : List Frame} {meth : Method} {c : Code} {T T' : State} {locs : List Loc} {cells slots : Nat} {g g' : JFrame} {Φ : State → Prop}
/-- from this frame the run comes to a state with Φ -/
def own_G (p : Program) (e : Env) (below : List Frame) (Φ : State → Prop) (T : State) (g : JFrame) : Prop := ∃ t, Steps p.tables e below (T.setTop g) t ∧ Φ t
/-- what the end of a method with the answer Q is -/
def own_E (s : State) (below : List Frame) (Q : Option Value → Heap → List Loc → Prop) (k n : Nat) (t : State) : Prop := ∃ o, t.status = .running ∧ Ended t below o ∧ ∃ v L, o = .returned v ∧ Q v t.heap L ∧ FrameEnd s o t L k n
def own_Al (_ : Stand p l e R s m args below meth c T locs cells slots) (T' : State) : Prop := Stand p l e R s m args below meth c T' locs cells slots
theorem own_go (h : ∀ t, Steps p.tables e below (T'.setTop g') t → Steps p.tables e below (T.setTop g) t) (k : own_G p e below Φ T' g') : own_G p e below Φ T g := by
  obtain ⟨t, a, b⟩ := k
  exact ⟨t, h t a, b⟩
theorem own_on (h : Steps p.tables e below (T.setTop g) (T'.setTop g')) (k : own_G p e below Φ T' g') : own_G p e below Φ T g := by
  obtain ⟨t, a, b⟩ := k
  exact ⟨t, h.trans a, b⟩
theorem own_ret (X : Stand p l e R s m args below meth c T locs cells slots) {Q : Option Value → Heap → List Loc → Prop} {k n : Nat} {v : Option Value} (hv : meth.sig.returnType = none → v = none) (hlocks : meth.locks = false)
    (hst : ∀ fs, (∀ (f : JFrame) (acts : List Action), f.method = m → f.locked = none → f.entered = [] → (doReturn e (T.setTop f) acts v).1 = T.setFrames fs) → Steps p.tables e below (T.setTop g) (T.setFrames fs))
    (hq : Q v T.heap locs) (hc : cells ≤ k) (hn : slots ≤ n) : own_G p e below (own_E s below Q k n) T g := by
  obtain ⟨fs, hr, hrun, hended, hW, hsame⟩ := X.leave hv hlocks
  exact ⟨_, hst fs hr, _, hrun, hended, _, _, rfl, hq, ⟨_, rfl⟩, hW, hsame.mono hc hn⟩
def own_EW (s : State) (below : List Frame) (Q : Option Value → Heap → List Loc → Prop) (k n : Nat) (t : State) : Prop := ∃ o, t.status = .running ∧ Ended t below o ∧ ∃ v L, o = .returned v ∧ Q v t.heap L ∧ ReturnedEndW s o t L k n
theorem own_retW {vm₁ : Vm} (X : Stand p l e R (s.setVm vm₁) m args below meth c T locs cells slots) {q : Nat} (hS : s.Since vm₁ q) (hq' : q ≤ T.heap.size) {Q : Option Value → Heap → List Loc → Prop} {k n : Nat} {v : Option Value} (hv : meth.sig.returnType = none → v = none) (hlocks : meth.locks = false)
    (hst : ∀ fs, (∀ (f : JFrame) (acts : List Action), f.method = m → f.locked = none → f.entered = [] → (doReturn e (T.setTop f) acts v).1 = T.setFrames fs) → Steps p.tables e below (T.setTop g) (T.setFrames fs))
    (hq : Q v T.heap locs) (hc : cells ≤ k) (hn : slots ≤ n) : own_G p e below (own_EW s below Q k n) T g := by
  obtain ⟨fs, hr, hrun, hended, h1, h2, h3, h4⟩ := X.leaveW hS hq' hv hlocks
  exact ⟨_, hst fs hr, _, hrun, hended, _, _, rfl, hq, h1, h2, h3, h4.mono hc hn⟩
theorem own_lrem_eq (x y : Int64) : x - (x / y) * y = x % y := by
  apply Int64.toInt_inj.mp
  have r := rng64 (x % y)
  have hm : (x % y).toInt = x.toInt - y.toInt * x.toInt.tdiv y.toInt := by rw [Int64.toInt_mod, Int.tmod_def]
  have hs : (x - x / y * y).toInt = (x.toInt - y.toInt * x.toInt.tdiv y.toInt).bmod (2 ^ 64) := by
    rw [Int64.toInt_sub, Int64.toInt_mul, Int64.toInt_div, Int.bmod_mul_bmod, Int.sub_bmod_bmod, Int.mul_comm]
  rw [hs, ← hm]
  exact Int.bmod_eq_of_le (by omega) (by omega)
theorem own_lremM {target : State} (X : Stand p l e R s m args below meth c T locs cells slots) (hx : p.tables.exec = Jvm.exec) (hg : g.method = m) {x y : Int64} {rest : List Value} (hd : decode c.code g.pc = .ok (.lrem, 1)) (hs : g.stack = .long y :: .long x :: rest) (hy : y ≠ 0)
    (hr : Steps p.tables e below (T.setTop { g with pc := g.pc + 1, stack := .long (x % y) :: rest }) target) : Steps p.tables e below (T.setTop g) target :=
  XS.lrem X.here hx hg hd hs hy (by rw [own_lrem_eq]; exact hr)
theorem own_nar {v : Value} {t : FieldType} (h : v.isRef = true) : narrow t v = v := by
  rcases ref_cases h with rfl | ⟨a, rfl⟩ <;> cases t <;> rfl
end Own
end Jvm.RoadKit
namespace Jvm.Pilot.@@N@@
open Jvm Jvm.ClassFile Sem Op Lib Jvm.Free Jvm.Stand Jvm.LawKit Jvm.RoadKit Bundle Jvm.Pilot.@@N@@.Jvm.D

theorem own_sub : ∀ d ∈ Bundle.stringAtoms, d ∈ tables_1 := by decide +kernel
theorem own_land (x : Int64) : 0 ≤ (x &&& (9223372036854775807 : Int64)).toInt := by
  have h := mt (Jvm.Free.XT.and_neg64 x (9223372036854775807 : Int64)).mp (fun q => absurd q.2 (by decide))
  rw [Jvm.Free.XT.negI64] at h
  omega
theorem own_lmod (x q : Int64) (hq : 0 < q.toInt) : 0 ≤ ((x &&& (9223372036854775807 : Int64)) % q).toInt ∧ ((x &&& (9223372036854775807 : Int64)) % q).toInt < q.toInt := by
  rw [Int64.toInt_mod]
  exact ⟨Int.tmod_nonneg _ (own_land x), Int.tmod_lt_of_pos _ hq⟩
theorem own_one64 : (1 : Int64).toInt = 1 := by decide
theorem own_zero64 : (0 : Int64).toInt = 0 := by decide
/-- 1 + (x & MAX) % q lies in 1 .. q -/
theorem own_1mod {x q y : Int64} (hq : 0 < q.toInt) (hq' : q.toInt < 9223372036854775807) (h : (1 : Int64) + ((x &&& (9223372036854775807 : Int64)) % q) = y) : 1 ≤ y.toInt ∧ y.toInt ≤ q.toInt := by
  have hm := own_lmod x q hq
  have e : y.toInt = 1 + ((x &&& (9223372036854775807 : Int64)) % q).toInt := by
    rw [← h, Jvm.Free.XT.add64 (by rw [own_one64]; exact ⟨by omega, by omega⟩), own_one64]
  omega
theorem own_ne64 {x : Int64} (h : 1 ≤ x.toInt) : x ≠ 0 := fun q => by
  rw [q, own_zero64] at h
  omega
theorem own_lt1 {x : Int64} (h : 1 ≤ x.toInt) : ¬ x < (1 : Int64) := fun q => by
  rw [Int64.lt_iff_toInt_lt, own_one64] at q
  omega
theorem own_nlt {x y : Int64} (h : y.toInt ≤ x.toInt) : ¬ x < y := fun q => by
  rw [Int64.lt_iff_toInt_lt] at q
  omega
/-- a quotient of numbers that aren't negative -/
theorem own_div {a b : Int64} (ha : 0 ≤ a.toInt) (hb : 0 < b.toInt) : (a / b).toInt = a.toInt / b.toInt := by
  have ra := rng64 a
  have h0 : 0 ≤ a.toInt / b.toInt := Int.ediv_nonneg ha (Int.le_of_lt hb)
  have h1 : a.toInt / b.toInt ≤ a.toInt := Int.ediv_le_self _ ha
  rw [Int64.toInt_div, Int.tdiv_eq_ediv_of_nonneg ha]
  exact Int.bmod_eq_of_le (by omega) (by omega)
theorem own_rem {a b : Int64} (ha : 0 ≤ a.toInt) : (a % b).toInt = a.toInt % b.toInt := by
  rw [Int64.toInt_mod, Int.tmod_eq_emod_of_nonneg ha]
theorem own_D : (9007199254740992 : Int64).toInt = 9007199254740992 := by decide
theorem own_C : (9007199254740 : Int64).toInt = 9007199254740 := by decide
theorem own_K : (1000 : Int64).toInt = 1000 := by decide
def own_ceil (a b : Int64) : Int64 := (a / b) + (if a % b = 0 then (0 : Int32) else (1 : Int32)).toInt64
/-- between 1 and 2^53 -/
def own_rg (x : Int64) : Prop := 1 ≤ x.toInt ∧ x.toInt ≤ 9007199254740992
theorem own_rg1 {c x : Int64} (h : (1 : Int64) + (c &&& (65535 : Int64)) = x) : own_rg x := by
  have hn : ¬ (c &&& (65535 : Int64)) < 0 := mt (Jvm.Free.XT.and_neg64 c (65535 : Int64)).mp (fun q => absurd q.2 (by decide))
  rw [Jvm.Free.XT.negI64] at hn
  have hu : (c &&& (65535 : Int64)).toInt ≤ 65535 := by
    have e : (c &&& (65535 : Int64)).toBitVec.toNat ≤ 65535 := by
      rw [Int64.toBitVec_and, BitVec.toNat_and]
      exact Nat.and_le_right
    have e2 : (c &&& (65535 : Int64)).toInt = (c &&& (65535 : Int64)).toBitVec.toInt := rfl
    rw [e2, BitVec.toInt_eq_toNat_of_lt (by omega)]
    omega
  have ex : x.toInt = 1 + (c &&& (65535 : Int64)).toInt := by
    rw [← h, Jvm.Free.XT.add64 (by rw [own_one64]; exact ⟨by omega, by omega⟩), own_one64]
  exact ⟨by omega, by omega⟩
theorem own_rg2 {c x : Int64} (h : (1 : Int64) + ((c &&& (9223372036854775807 : Int64)) % (9007199254740992 : Int64)) = x) : own_rg x := by
  have q := own_1mod (q := 9007199254740992) (by decide) (by decide) h
  rw [own_D] at q
  exact q
theorem own_per {a p m : Int64} (hm : (9007199254740992 : Int64) / (1000 : Int64) = m) (h : (1 : Int64) + ((a &&& (9223372036854775807 : Int64)) % m) = p) : 1 ≤ p.toInt ∧ p.toInt ≤ 9007199254740 := by
  have hm' : m = 9007199254740 := by rw [← hm]; decide
  subst hm'
  have q := own_1mod (by decide) (by decide) h
  rw [own_C] at q
  exact q
theorem own_pk {p : Int64} (hp : 1 ≤ p.toInt ∧ p.toInt ≤ 9007199254740) : (p * (1000 : Int64)).toInt = p.toInt * 1000 := by
  rw [Jvm.Free.XT.mul64 (by rw [own_K]; exact ⟨by omega, by omega⟩), own_K]
theorem own_pk0 {p : Int64} (hp : 1 ≤ p.toInt ∧ p.toInt ≤ 9007199254740) : p * (1000 : Int64) ≠ 0 := own_ne64 (by rw [own_pk hp]; omega)
theorem own_max {p x : Int64} (hp : 1 ≤ p.toInt ∧ p.toInt ≤ 9007199254740) (h : (9007199254740992 : Int64) / (p * (1000 : Int64)) = x) : x.toInt = 9007199254740992 / (p.toInt * 1000) ∧ 1 ≤ x.toInt ∧ x.toInt ≤ 9007199254740992 := by
  have e : x.toInt = 9007199254740992 / (p.toInt * 1000) := by
    rw [← h, own_div (by rw [own_D]; decide) (by rw [own_pk hp]; omega), own_D, own_pk hp]
  have h1 : 1 ≤ 9007199254740992 / (p.toInt * 1000) := (Int.le_ediv_iff_mul_le (by omega)).mpr (by omega)
  have h2 : 9007199254740992 / (p.toInt * 1000) ≤ 9007199254740992 := Int.ediv_le_self _ (by decide)
  omega
theorem own_cap {b p x c : Int64} (hp : 1 ≤ p.toInt ∧ p.toInt ≤ 9007199254740) (hx : x.toInt = 9007199254740992 / (p.toInt * 1000) ∧ 1 ≤ x.toInt ∧ x.toInt ≤ 9007199254740992) (h : (1 : Int64) + ((b &&& (9223372036854775807 : Int64)) % x) = c) :
    1 ≤ c.toInt ∧ c.toInt ≤ 9007199254740992 / (p.toInt * 1000) ∧ c.toInt * p.toInt ≤ 9007199254740 ∧ 1 ≤ c.toInt * p.toInt := by
  have q := own_1mod (by omega) (by omega) h
  rw [hx.1] at q
  have h1 : c.toInt * (p.toInt * 1000) ≤ 9007199254740992 / (p.toInt * 1000) * (p.toInt * 1000) := Int.mul_le_mul_of_nonneg_right q.2 (by omega)
  have h2 : 9007199254740992 / (p.toInt * 1000) * (p.toInt * 1000) ≤ 9007199254740992 := Int.ediv_mul_le _ (by omega)
  have h3 : c.toInt * (p.toInt * 1000) = c.toInt * p.toInt * 1000 := (Int.mul_assoc _ _ _).symm
  have h4 : 1 * 1 ≤ c.toInt * p.toInt := Int.mul_le_mul q.1 hp.1 (by decide) (by omega)
  exact ⟨q.1, q.2, by omega, by omega⟩
theorem own_tot {c p : Int64} (h : c.toInt * p.toInt ≤ 9007199254740 ∧ 1 ≤ c.toInt * p.toInt) : (c * p).toInt = c.toInt * p.toInt := Jvm.Free.XT.mul64 ⟨by omega, by omega⟩
/-- what the law asks of the quotient rounded up -/
theorem own_up {t r w : Int64} (ht : 1 ≤ t.toInt ∧ t.toInt ≤ 9007199254740) (hr : own_rg r) (h : own_ceil t r = w) :
    1 ≤ w.toInt ∧ w.toInt ≤ (t / r + (1 : Int64)).toInt ∧ t.toInt ≤ (w * r).toInt ∧ ((w - (1 : Int64)) * r).toInt < t.toInt := by
  obtain ⟨hr1, hr2⟩ := hr
  have hd := own_div (a := t) (b := r) (by omega) (by omega)
  have hm := own_rem (a := t) (b := r) (by omega)
  have e := Int.mul_ediv_add_emod t.toInt r.toInt
  have m0 := Int.emod_nonneg t.toInt (b := r.toInt) (by omega)
  have m1 := Int.emod_lt_of_pos t.toInt (b := r.toInt) (by omega)
  have d0 : 0 ≤ t.toInt / r.toInt := Int.ediv_nonneg (by omega) (by omega)
  have d1 : t.toInt / r.toInt ≤ t.toInt := Int.ediv_le_self _ (by omega)
  generalize hD : t.toInt / r.toInt = D at *
  generalize hM : t.toInt % r.toInt = M at *
  have hw : w.toInt = D + (if M = 0 then 0 else 1) := by
    rw [← h, own_ceil]
    by_cases hz : t % r = 0
    · have hM0 : M = 0 := by rw [hz, own_zero64] at hm; omega
      rw [if_pos hz, if_pos hM0, Jvm.Free.XT.add64 (by rw [show ((0 : Int32).toInt64).toInt = 0 by decide]; exact ⟨by omega, by omega⟩), hd, show ((0 : Int32).toInt64).toInt = 0 by decide]
    · have hM0 : ¬ M = 0 := fun q => hz (Int64.toInt_inj.mp (by rw [hm, q, own_zero64]))
      rw [if_neg hz, if_neg hM0, Jvm.Free.XT.add64 (by rw [show ((1 : Int32).toInt64).toInt = 1 by decide]; exact ⟨by omega, by omega⟩), hd, show ((1 : Int32).toInt64).toInt = 1 by decide]
  have hs : (t / r + (1 : Int64)).toInt = D + 1 := by
    rw [Jvm.Free.XT.add64 (by rw [own_one64]; exact ⟨by omega, by omega⟩), hd, own_one64]
  have hw1 : 1 ≤ w.toInt ∧ w.toInt ≤ D + 1 := by
    by_cases hM0 : M = 0
    · rw [if_pos hM0] at hw
      have : D ≠ 0 := fun q => by rw [q, hM0] at e; omega
      omega
    · rw [if_neg hM0] at hw
      omega
  have hwr : w.toInt * r.toInt = r.toInt * D + (if M = 0 then 0 else r.toInt) := by
    rw [hw, Int.add_mul, Int.mul_comm D]
    split <;> simp
  have hwr1 : (w.toInt - 1) * r.toInt = w.toInt * r.toInt - r.toInt := by rw [Int.sub_mul, Int.one_mul]
  have hsub : (w - (1 : Int64)).toInt = w.toInt - 1 := by
    rw [Jvm.Free.XT.sub64 (by rw [own_one64]; exact ⟨by omega, by omega⟩), own_one64]
  refine ⟨hw1.1, by omega, ?_, ?_⟩
  · rw [Jvm.Free.XT.mul64 (by rw [hwr]; constructor <;> split <;> omega), hwr]
    split <;> omega
  · rw [Jvm.Free.XT.mul64 (by rw [hsub, hwr1, hwr]; constructor <;> split <;> omega), hsub, hwr1, hwr]
    split <;> omega

theorem d2_0 : decode jdk_30_method_1_code 0 = .ok (.aload_n 0, 1) := by decide +kernel
theorem d2_1 : decode jdk_30_method_1_code 1 = .ok (.invokespecial 1, 3) := by decide +kernel
theorem wd_14 {Z : State} {a0 : Array Value} (hw : ∀ d ∈ tables_1, d.before a0 Z = true) : ((Jvm.Cond.methodLink "java/lang/Record" (1 : Nat) ({ cls := "java/lang/Object", name := "<init>", desc := "()V" } : Jvm.MethodName)) : Jvm.Cond).before a0 Z = true := hw _ (List.mem_of_getElem? (i := 14) rfl)
theorem wd_15 {Z : State} {a0 : Array Value} (hw : ∀ d ∈ tables_1, d.before a0 Z = true) : ((Jvm.Cond.instanceMethod ({ cls := "java/lang/Object", name := "<init>", desc := "()V" } : Jvm.MethodName)) : Jvm.Cond).before a0 Z = true := hw _ (List.mem_of_getElem? (i := 15) rfl)
theorem wd_16 {Z : State} {a0 : Array Value} (hw : ∀ d ∈ tables_1, d.before a0 Z = true) : ((Jvm.Cond.code ({ cls := "java/lang/Object", name := "<init>", desc := "()V" } : Jvm.MethodName) object_method_1_code (1 : Nat) (Option.none : Option Jvm.ClassFile.FieldType)) : Jvm.Cond).before a0 Z = true := hw _ (List.mem_of_getElem? (i := 16) rfl)
theorem d2_4 : decode jdk_30_method_1_code 4 = .ok (.return_, 1) := by decide +kernel
theorem pn_0 : plainName "java/lang/Record" = true := by first | (simp [plainName, overriddenIn]; done) | decide +kernel
theorem ef_rmR (m : MethodId) (a1 : Addr) : entryFrame m #[(.ref a1)] 1 = mkF m 0 #[.val (.ref a1)] [] := by first | (simp [entryFrame, mkF, argsToLocals, Value.category]; done) | rfl
def Q_rmR (Z : State) (a1 : Addr) (h0 : Heap) (n0 : Nat) (v : Option Value) (h : Heap) (L : List Loc) : Prop := v = none ∧ Fr n0 L ∧ h = h0
set_option maxRecDepth 65536 in
set_option maxHeartbeats 40000000 in
theorem rmR (l : Launch) (Z : State) (a0 : Array Value) (hw : ∀ d ∈ tables_1, d.before a0 Z = true) (ws : List Jvm.Cond) (a1 : Addr) (h0 : Heap) (n0 : Nat) (Z0 : n0 ≤ h0.size)  :
    MetFree l (⟨"java/lang/Record", "<init>", "()V"⟩ : MethodName) (head1 (Jvm.Cond.code (⟨"java/lang/Record", "<init>", "()V"⟩ : MethodName) jdk_30_method_1_code 1 none :: ws) ({ frames := 1, cells := 0, slots := 0, locals := 12 } : Room)) (fun a U => a = #[(.ref a1)] ∧ Z.Warmed39 U.vm ∧ U.heap = h0) (fun _ _ _ _ _ => True) (fun _ U o U' => ∃ v L, o = .returned v ∧ Q_rmR Z a1 h0 n0 v U'.heap L ∧ FrameEnd U o U' L ({ frames := 1, cells := 0, slots := 0, locals := 12 } : Room).cells ({ frames := 1, cells := 0, slots := 0, locals := 12 } : Room).slots) := by
  refine MetFree.of_bodySF (plainFor_of_name pn_0) hisR ?_
  intro p e s m args below meth c s₁ Bd hml0 hP hK
  obtain ⟨rfl, hZ, hh⟩ := hP
  have hx := Bd.exec
  have hby := Bd.bytes
  have hml : c.maxLocals = 1 := hml0
  have hown : s.vm.findClass "java/lang/Record" = some m.cls := findClass_of_methodNamed Bd.named
  have hnm := (name_of_methodNamed Bd.named Bd.method).1
  have X0 : Stand p l e ({ frames := 1, cells := 0, slots := 0, locals := 12 } : Room) s m #[(.ref a1)] below meth c s₁ [] 0 0 := Stand.of_body Bd
  have e0 : s₁.heap = h0 := by rw [← hh, Bd.state]; rfl
  have N0 := Fr.nil n0
  suffices G0 : own_G p e below (own_E s below (Q_rmR Z a1 h0 n0) ({ frames := 1, cells := 0, slots := 0, locals := 12 } : Room).cells ({ frames := 1, cells := 0, slots := 0, locals := 12 } : Room).slots) s₁ (mkF m 0 #[.val (.ref a1)] []) by
    obtain ⟨zt, zst, zo, zq1, zq2, zq3⟩ := G0
    exact ⟨zt, zo, castTop (ef_rmR m a1) zst, zq1, zq2, zq3⟩
  obtain ⟨Φ, hΦ⟩ : ∃ Φ, Φ = own_E s below (Q_rmR Z a1 h0 n0) ({ frames := 1, cells := 0, slots := 0, locals := 12 } : Room).cells ({ frames := 1, cells := 0, slots := 0, locals := 12 } : Room).slots := ⟨_, rfl⟩
  rw [← hΦ]
  show own_G p e below Φ s₁ (mkF m 0 #[.val (.ref a1)] [])
  refine own_go (fun _ => XS.aloadN X0.here hx rfl (hb hby d2_0) rfl rfl) ?_
  show own_G p e below Φ s₁ (mkF m 1 #[.val (.ref a1)] [(.ref a1)])
  obtain ⟨T1, X1, e1, st1⟩ := initO X0 hx hZ hown (wd_14 hw) (wd_15 hw) (wd_16 hw) e0 (g := (mkF m 1 #[.val (.ref a1)] [(.ref a1)])) rfl (by rw [hml]; rfl) rfl (hb hby d2_1) (by decide) (W := 0) (by show 2 * 0 + _ ≤ _; exact Nat.le_of_eq rfl) (by decide)
  refine own_go st1 ?_
  show own_G p e below Φ T1 (mkF m 4 #[.val (.ref a1)] [])
  rw [hΦ]
  refine own_ret X1 (v := none) (fun _ => rfl) (BodyLoose.notSynchronized Bd) (fun fs hr => X1.returnOut hx Bd.returns (hb hby d2_4) hr) ?_ (by decide) (by decide)
  rw [e1]
  exact ⟨rfl, N0, rfl⟩
theorem d4_0 : decode prog_4_method_2_code 0 = .ok (.lload_n 1, 1) := by decide +kernel
theorem d4_1 : decode prog_4_method_2_code 1 = .ok (.ldc2_w 9, 3) := by decide +kernel
theorem wd_32 {Z : State} {a0 : Array Value} (hw : ∀ d ∈ tables_1, d.before a0 Z = true) : ((Jvm.Cond.constantLong "com/example/enough_per_caller/enoughpercaller/ExactRange" (9 : Nat) (9007199254740992 : Int64)) : Jvm.Cond).before a0 Z = true := hw _ (List.mem_of_getElem? (i := 32) rfl)
theorem d4_4 : decode prog_4_method_2_code 4 = .ok (.lcmp, 1) := by decide +kernel
theorem d4_5 : decode prog_4_method_2_code 5 = .ok (.ifCond .le 18, 3) := by decide +kernel
theorem d4_23 : decode prog_4_method_2_code 23 = .ok (.return_, 1) := by decide +kernel
theorem pn_1 : plainName "com/example/enough_per_caller/enoughpercaller/ExactRange" = true := by first | (simp [plainName, overriddenIn]; done) | decide +kernel
theorem ef_rmE (m : MethodId) (a1 : Addr) (q1 : Int64) : entryFrame m #[(.ref a1), (.long q1)] 3 = mkF m 0 #[.val (.ref a1), .val (.long q1), .second] [] := by first | (simp [entryFrame, mkF, argsToLocals, Value.category]; done) | rfl
def Q_rmE (Z : State) (a1 : Addr) (q1 : Int64) (h0 : Heap) (n0 : Nat) (v : Option Value) (h : Heap) (L : List Loc) : Prop := v = none ∧ Fr n0 L ∧ h = h0
set_option maxRecDepth 65536 in
set_option maxHeartbeats 40000000 in
theorem rmE (l : Launch) (Z : State) (a0 : Array Value) (hw : ∀ d ∈ tables_1, d.before a0 Z = true) (ws : List Jvm.Cond) (a1 : Addr) (q1 : Int64) (h0 : Heap) (n0 : Nat) (Z0 : n0 ≤ h0.size) (hq : ¬ ((9007199254740992 : Int64) < q1)) :
    MetFree l (⟨"com/example/enough_per_caller/enoughpercaller/ExactRange", "requireExact", "(Ljava/lang/String;J)V"⟩ : MethodName) (head1 (Jvm.Cond.code (⟨"com/example/enough_per_caller/enoughpercaller/ExactRange", "requireExact", "(Ljava/lang/String;J)V"⟩ : MethodName) prog_4_method_2_code 3 none :: ws) ({ frames := 0, cells := 0, slots := 0, locals := 0 } : Room)) (fun a U => a = #[(.ref a1), (.long q1)] ∧ Z.Warmed39 U.vm ∧ U.heap = h0) (fun _ _ _ _ _ => True) (fun _ U o U' => ∃ v L, o = .returned v ∧ Q_rmE Z a1 q1 h0 n0 v U'.heap L ∧ FrameEnd U o U' L ({ frames := 0, cells := 0, slots := 0, locals := 0 } : Room).cells ({ frames := 0, cells := 0, slots := 0, locals := 0 } : Room).slots) := by
  refine MetFree.of_bodySF (plainFor_of_name pn_1) hisR ?_
  intro p e s m args below meth c s₁ Bd hml0 hP hK
  obtain ⟨rfl, hZ, hh⟩ := hP
  have hx := Bd.exec
  have hby := Bd.bytes
  have hml : c.maxLocals = 3 := hml0
  have hown : s.vm.findClass "com/example/enough_per_caller/enoughpercaller/ExactRange" = some m.cls := findClass_of_methodNamed Bd.named
  have hnm := (name_of_methodNamed Bd.named Bd.method).1
  have X0 : Stand p l e ({ frames := 0, cells := 0, slots := 0, locals := 0 } : Room) s m #[(.ref a1), (.long q1)] below meth c s₁ [] 0 0 := Stand.of_body Bd
  have e0 : s₁.heap = h0 := by rw [← hh, Bd.state]; rfl
  have N0 := Fr.nil n0
  suffices G0 : own_G p e below (own_E s below (Q_rmE Z a1 q1 h0 n0) ({ frames := 0, cells := 0, slots := 0, locals := 0 } : Room).cells ({ frames := 0, cells := 0, slots := 0, locals := 0 } : Room).slots) s₁ (mkF m 0 #[.val (.ref a1), .val (.long q1), .second] []) by
    obtain ⟨zt, zst, zo, zq1, zq2, zq3⟩ := G0
    exact ⟨zt, zo, castTop (ef_rmE m a1 q1) zst, zq1, zq2, zq3⟩
  obtain ⟨Φ, hΦ⟩ : ∃ Φ, Φ = own_E s below (Q_rmE Z a1 q1 h0 n0) ({ frames := 0, cells := 0, slots := 0, locals := 0 } : Room).cells ({ frames := 0, cells := 0, slots := 0, locals := 0 } : Room).slots := ⟨_, rfl⟩
  rw [← hΦ]
  show own_G p e below Φ s₁ (mkF m 0 #[.val (.ref a1), .val (.long q1), .second] [])
  refine own_go (fun _ => XS.lloadN X0.here hx rfl (hb hby d4_0) rfl) ?_
  show own_G p e below Φ s₁ (mkF m 1 #[.val (.ref a1), .val (.long q1), .second] [(.long q1)])
  refine own_go (fun _ => X0.ldc2Long hx hown (mvT hZ (wd_32 hw)) (g := (mkF m 1 #[.val (.ref a1), .val (.long q1), .second] [(.long q1)])) rfl (hb hby d4_1) _) ?_
  show own_G p e below Φ s₁ (mkF m 4 #[.val (.ref a1), .val (.long q1), .second] [(.long (9007199254740992 : Int64)), (.long q1)])
  refine own_go (fun _ => XS.lcmp X0.here hx rfl (hb hby d4_4) rfl) ?_
  show own_G p e below Φ s₁ (mkF m 5 #[.val (.ref a1), .val (.long q1), .second] [(.int (lcmpW q1 (9007199254740992 : Int64)))])
  refine own_go (fun _ => XS.ifYes X0.here hx rfl (pc0 := 5) (pc' := 23) rfl (hb hby d4_5) rfl (Jvm.Free.XT.ll_le_t hq) (by decide) (by decide)) ?_
  show own_G p e below Φ s₁ (mkF m 23 #[.val (.ref a1), .val (.long q1), .second] [])
  rw [hΦ]
  refine own_ret X0 (v := none) (fun _ => rfl) (BodyLoose.notSynchronized Bd) (fun fs hr => X0.returnOut hx Bd.returns (hb hby d4_23) hr) ?_ (by decide) (by decide)
  rw [e0]
  exact ⟨rfl, N0, rfl⟩
theorem d1_0 : decode prog_23_method_1_code 0 = .ok (.aload_n 0, 1) := by decide +kernel
theorem d1_1 : decode prog_23_method_1_code 1 = .ok (.invokespecial 1, 3) := by decide +kernel
theorem wd_9 {Z : State} {a0 : Array Value} (hw : ∀ d ∈ tables_1, d.before a0 Z = true) : ((Jvm.Cond.methodLink "com/example/enough_per_caller/enoughpercaller/TokenBucket" (1 : Nat) ({ cls := "java/lang/Record", name := "<init>", desc := "()V" } : Jvm.MethodName)) : Jvm.Cond).before a0 Z = true := hw _ (List.mem_of_getElem? (i := 9) rfl)
theorem wd_13 {Z : State} {a0 : Array Value} (hw : ∀ d ∈ tables_1, d.before a0 Z = true) : ((Jvm.Cond.code ({ cls := "java/lang/Record", name := "<init>", desc := "()V" } : Jvm.MethodName) jdk_30_method_1_code (1 : Nat) (Option.none : Option Jvm.ClassFile.FieldType)) : Jvm.Cond).before a0 Z = true := hw _ (List.mem_of_getElem? (i := 13) rfl)
theorem wd_12 {Z : State} {a0 : Array Value} (hw : ∀ d ∈ tables_1, d.before a0 Z = true) : ((Jvm.Cond.initialized "java/lang/Record") : Jvm.Cond).before a0 Z = true := hw _ (List.mem_of_getElem? (i := 12) rfl)
theorem pd_0 : parseMethodDescriptor "()V" = some ⟨[], none⟩ := by decide +kernel
theorem wd_10 {Z : State} {a0 : Array Value} (hw : ∀ d ∈ tables_1, d.before a0 Z = true) : ((Jvm.Cond.instanceMethod ({ cls := "java/lang/Record", name := "<init>", desc := "()V" } : Jvm.MethodName)) : Jvm.Cond).before a0 Z = true := hw _ (List.mem_of_getElem? (i := 10) rfl)
theorem d1_4 : decode prog_23_method_1_code 4 = .ok (.lload_n 1, 1) := by decide +kernel
theorem d1_5 : decode prog_23_method_1_code 5 = .ok (.lconst 1, 1) := by decide +kernel
theorem d1_6 : decode prog_23_method_1_code 6 = .ok (.lcmp, 1) := by decide +kernel
theorem d1_7 : decode prog_23_method_1_code 7 = .ok (.ifCond .lt 16, 3) := by decide +kernel
theorem d1_10 : decode prog_23_method_1_code 10 = .ok (.lload_n 3, 1) := by decide +kernel
theorem d1_11 : decode prog_23_method_1_code 11 = .ok (.lconst 1, 1) := by decide +kernel
theorem d1_12 : decode prog_23_method_1_code 12 = .ok (.lcmp, 1) := by decide +kernel
theorem d1_13 : decode prog_23_method_1_code 13 = .ok (.ifCond .lt 10, 3) := by decide +kernel
theorem d1_16 : decode prog_23_method_1_code 16 = .ok (.lload 5, 2) := by decide +kernel
theorem d1_18 : decode prog_23_method_1_code 18 = .ok (.lconst 1, 1) := by decide +kernel
theorem d1_19 : decode prog_23_method_1_code 19 = .ok (.lcmp, 1) := by decide +kernel
theorem d1_20 : decode prog_23_method_1_code 20 = .ok (.ifCond .ge 13, 3) := by decide +kernel
theorem d1_33 : decode prog_23_method_1_code 33 = .ok (.lload 5, 2) := by decide +kernel
theorem d1_35 : decode prog_23_method_1_code 35 = .ok (.ldc2_w 18, 3) := by decide +kernel
theorem wd_17 {Z : State} {a0 : Array Value} (hw : ∀ d ∈ tables_1, d.before a0 Z = true) : ((Jvm.Cond.constantLong "com/example/enough_per_caller/enoughpercaller/TokenBucket" (18 : Nat) (9007199254740 : Int64)) : Jvm.Cond).before a0 Z = true := hw _ (List.mem_of_getElem? (i := 17) rfl)
theorem d1_38 : decode prog_23_method_1_code 38 = .ok (.lcmp, 1) := by decide +kernel
theorem d1_39 : decode prog_23_method_1_code 39 = .ok (.ifCond .gt 18, 3) := by decide +kernel
theorem d1_42 : decode prog_23_method_1_code 42 = .ok (.lload_n 1, 1) := by decide +kernel
theorem d1_43 : decode prog_23_method_1_code 43 = .ok (.ldc2_w 20, 3) := by decide +kernel
theorem wd_18 {Z : State} {a0 : Array Value} (hw : ∀ d ∈ tables_1, d.before a0 Z = true) : ((Jvm.Cond.constantLong "com/example/enough_per_caller/enoughpercaller/TokenBucket" (20 : Nat) (9007199254740992 : Int64)) : Jvm.Cond).before a0 Z = true := hw _ (List.mem_of_getElem? (i := 18) rfl)
theorem d1_46 : decode prog_23_method_1_code 46 = .ok (.lload 5, 2) := by decide +kernel
theorem d1_48 : decode prog_23_method_1_code 48 = .ok (.ldc2_w 22, 3) := by decide +kernel
theorem wd_19 {Z : State} {a0 : Array Value} (hw : ∀ d ∈ tables_1, d.before a0 Z = true) : ((Jvm.Cond.constantLong "com/example/enough_per_caller/enoughpercaller/TokenBucket" (22 : Nat) (1000 : Int64)) : Jvm.Cond).before a0 Z = true := hw _ (List.mem_of_getElem? (i := 19) rfl)
theorem d1_51 : decode prog_23_method_1_code 51 = .ok (.lmul, 1) := by decide +kernel
theorem d1_52 : decode prog_23_method_1_code 52 = .ok (.ldiv, 1) := by decide +kernel
theorem d1_53 : decode prog_23_method_1_code 53 = .ok (.lcmp, 1) := by decide +kernel
theorem d1_54 : decode prog_23_method_1_code 54 = .ok (.ifCond .le 19, 3) := by decide +kernel
theorem d1_73 : decode prog_23_method_1_code 73 = .ok (.ldc 28, 2) := by decide +kernel
theorem wd_20 {Z : State} {a0 : Array Value} (hw : ∀ d ∈ tables_1, d.before a0 Z = true) : ((Jvm.Cond.stringLink "com/example/enough_per_caller/enoughpercaller/TokenBucket" (28 : Nat) "refillTokens") : Jvm.Cond).before a0 Z = true := hw _ (List.mem_of_getElem? (i := 20) rfl)
theorem d1_75 : decode prog_23_method_1_code 75 = .ok (.lload_n 3, 1) := by decide +kernel
theorem d1_76 : decode prog_23_method_1_code 76 = .ok (.invokestatic 30, 3) := by decide +kernel
theorem wd_28 {Z : State} {a0 : Array Value} (hw : ∀ d ∈ tables_1, d.before a0 Z = true) : ((Jvm.Cond.methodLink "com/example/enough_per_caller/enoughpercaller/TokenBucket" (30 : Nat) ({ cls := "com/example/enough_per_caller/enoughpercaller/ExactRange", name := "requireExact", desc := "(Ljava/lang/String;J)V" } : Jvm.MethodName)) : Jvm.Cond).before a0 Z = true := hw _ (List.mem_of_getElem? (i := 28) rfl)
theorem wd_31 {Z : State} {a0 : Array Value} (hw : ∀ d ∈ tables_1, d.before a0 Z = true) : ((Jvm.Cond.code ({ cls := "com/example/enough_per_caller/enoughpercaller/ExactRange", name := "requireExact", desc := "(Ljava/lang/String;J)V" } : Jvm.MethodName) prog_4_method_2_code (3 : Nat) (Option.none : Option Jvm.ClassFile.FieldType)) : Jvm.Cond).before a0 Z = true := hw _ (List.mem_of_getElem? (i := 31) rfl)
theorem wd_30 {Z : State} {a0 : Array Value} (hw : ∀ d ∈ tables_1, d.before a0 Z = true) : ((Jvm.Cond.initialized "com/example/enough_per_caller/enoughpercaller/ExactRange") : Jvm.Cond).before a0 Z = true := hw _ (List.mem_of_getElem? (i := 30) rfl)
theorem pd_1 : parseMethodDescriptor "(Ljava/lang/String;J)V" = some ⟨[(.object "java/lang/String"), .long], none⟩ := by decide +kernel
theorem wd_29 {Z : State} {a0 : Array Value} (hw : ∀ d ∈ tables_1, d.before a0 Z = true) : ((Jvm.Cond.static ({ cls := "com/example/enough_per_caller/enoughpercaller/ExactRange", name := "requireExact", desc := "(Ljava/lang/String;J)V" } : Jvm.MethodName)) : Jvm.Cond).before a0 Z = true := hw _ (List.mem_of_getElem? (i := 29) rfl)
theorem d1_79 : decode prog_23_method_1_code 79 = .ok (.aload_n 0, 1) := by decide +kernel
theorem d1_80 : decode prog_23_method_1_code 80 = .ok (.lload_n 1, 1) := by decide +kernel
theorem d1_81 : decode prog_23_method_1_code 81 = .ok (.putfield 34, 3) := by decide +kernel
theorem wd_33 {Z : State} {a0 : Array Value} (hw : ∀ d ∈ tables_1, d.before a0 Z = true) : ((Jvm.Cond.fieldLink "com/example/enough_per_caller/enoughpercaller/TokenBucket" (34 : Nat) "com/example/enough_per_caller/enoughpercaller/TokenBucket" "capacity" "J") : Jvm.Cond).before a0 Z = true := hw _ (List.mem_of_getElem? (i := 33) rfl)
theorem wd_34 {Z : State} {a0 : Array Value} (hw : ∀ d ∈ tables_1, d.before a0 Z = true) : ((Jvm.Cond.laysFinal "com/example/enough_per_caller/enoughpercaller/TokenBucket" "com/example/enough_per_caller/enoughpercaller/TokenBucket" "capacity" "J") : Jvm.Cond).before a0 Z = true := hw _ (List.mem_of_getElem? (i := 34) rfl)
theorem wd_4 {Z : State} {a0 : Array Value} (hw : ∀ d ∈ tables_1, d.before a0 Z = true) : ((Jvm.Cond.instantiable "com/example/enough_per_caller/enoughpercaller/TokenBucket" (3 : Nat)) : Jvm.Cond).before a0 Z = true := hw _ (List.mem_of_getElem? (i := 4) rfl)
theorem d1_84 : decode prog_23_method_1_code 84 = .ok (.aload_n 0, 1) := by decide +kernel
theorem d1_85 : decode prog_23_method_1_code 85 = .ok (.lload_n 3, 1) := by decide +kernel
theorem d1_86 : decode prog_23_method_1_code 86 = .ok (.putfield 40, 3) := by decide +kernel
theorem wd_35 {Z : State} {a0 : Array Value} (hw : ∀ d ∈ tables_1, d.before a0 Z = true) : ((Jvm.Cond.fieldLink "com/example/enough_per_caller/enoughpercaller/TokenBucket" (40 : Nat) "com/example/enough_per_caller/enoughpercaller/TokenBucket" "refillTokens" "J") : Jvm.Cond).before a0 Z = true := hw _ (List.mem_of_getElem? (i := 35) rfl)
theorem wd_36 {Z : State} {a0 : Array Value} (hw : ∀ d ∈ tables_1, d.before a0 Z = true) : ((Jvm.Cond.laysFinal "com/example/enough_per_caller/enoughpercaller/TokenBucket" "com/example/enough_per_caller/enoughpercaller/TokenBucket" "refillTokens" "J") : Jvm.Cond).before a0 Z = true := hw _ (List.mem_of_getElem? (i := 36) rfl)
theorem sl_0 {Z : State} {a0 : Array Value} (hw : ∀ d ∈ tables_1, d.before a0 Z = true) : Jvm.RoadKit.slotOf Z "com/example/enough_per_caller/enoughpercaller/TokenBucket" "refillTokens" "J" ≠ Jvm.RoadKit.slotOf Z "com/example/enough_per_caller/enoughpercaller/TokenBucket" "capacity" "J" := slot_ne (C := "com/example/enough_per_caller/enoughpercaller/TokenBucket") (Or.inr (wd_36 hw)) (Or.inr (wd_34 hw)) (by decide) (t := .long) (t' := .long) (by decide) (by decide)
theorem d1_89 : decode prog_23_method_1_code 89 = .ok (.aload_n 0, 1) := by decide +kernel
theorem d1_90 : decode prog_23_method_1_code 90 = .ok (.lload 5, 2) := by decide +kernel
theorem d1_92 : decode prog_23_method_1_code 92 = .ok (.putfield 42, 3) := by decide +kernel
theorem wd_37 {Z : State} {a0 : Array Value} (hw : ∀ d ∈ tables_1, d.before a0 Z = true) : ((Jvm.Cond.fieldLink "com/example/enough_per_caller/enoughpercaller/TokenBucket" (42 : Nat) "com/example/enough_per_caller/enoughpercaller/TokenBucket" "refillPeriodSeconds" "J") : Jvm.Cond).before a0 Z = true := hw _ (List.mem_of_getElem? (i := 37) rfl)
theorem wd_38 {Z : State} {a0 : Array Value} (hw : ∀ d ∈ tables_1, d.before a0 Z = true) : ((Jvm.Cond.laysFinal "com/example/enough_per_caller/enoughpercaller/TokenBucket" "com/example/enough_per_caller/enoughpercaller/TokenBucket" "refillPeriodSeconds" "J") : Jvm.Cond).before a0 Z = true := hw _ (List.mem_of_getElem? (i := 38) rfl)
theorem sl_1 {Z : State} {a0 : Array Value} (hw : ∀ d ∈ tables_1, d.before a0 Z = true) : Jvm.RoadKit.slotOf Z "com/example/enough_per_caller/enoughpercaller/TokenBucket" "refillPeriodSeconds" "J" ≠ Jvm.RoadKit.slotOf Z "com/example/enough_per_caller/enoughpercaller/TokenBucket" "capacity" "J" := slot_ne (C := "com/example/enough_per_caller/enoughpercaller/TokenBucket") (Or.inr (wd_38 hw)) (Or.inr (wd_34 hw)) (by decide) (t := .long) (t' := .long) (by decide) (by decide)
theorem sl_2 {Z : State} {a0 : Array Value} (hw : ∀ d ∈ tables_1, d.before a0 Z = true) : Jvm.RoadKit.slotOf Z "com/example/enough_per_caller/enoughpercaller/TokenBucket" "refillPeriodSeconds" "J" ≠ Jvm.RoadKit.slotOf Z "com/example/enough_per_caller/enoughpercaller/TokenBucket" "refillTokens" "J" := slot_ne (C := "com/example/enough_per_caller/enoughpercaller/TokenBucket") (Or.inr (wd_38 hw)) (Or.inr (wd_36 hw)) (by decide) (t := .long) (t' := .long) (by decide) (by decide)
theorem d1_95 : decode prog_23_method_1_code 95 = .ok (.return_, 1) := by decide +kernel
theorem sl_3 {Z : State} {a0 : Array Value} (hw : ∀ d ∈ tables_1, d.before a0 Z = true) : Jvm.RoadKit.slotOf Z "com/example/enough_per_caller/enoughpercaller/TokenBucket" "capacity" "J" ≠ Jvm.RoadKit.slotOf Z "com/example/enough_per_caller/enoughpercaller/TokenBucket" "refillTokens" "J" := slot_ne (C := "com/example/enough_per_caller/enoughpercaller/TokenBucket") (Or.inr (wd_34 hw)) (Or.inr (wd_36 hw)) (by decide) (t := .long) (t' := .long) (by decide) (by decide)
theorem sl_4 {Z : State} {a0 : Array Value} (hw : ∀ d ∈ tables_1, d.before a0 Z = true) : Jvm.RoadKit.slotOf Z "com/example/enough_per_caller/enoughpercaller/TokenBucket" "capacity" "J" ≠ Jvm.RoadKit.slotOf Z "com/example/enough_per_caller/enoughpercaller/TokenBucket" "refillPeriodSeconds" "J" := slot_ne (C := "com/example/enough_per_caller/enoughpercaller/TokenBucket") (Or.inr (wd_34 hw)) (Or.inr (wd_38 hw)) (by decide) (t := .long) (t' := .long) (by decide) (by decide)
theorem sl_5 {Z : State} {a0 : Array Value} (hw : ∀ d ∈ tables_1, d.before a0 Z = true) : Jvm.RoadKit.slotOf Z "com/example/enough_per_caller/enoughpercaller/TokenBucket" "refillTokens" "J" ≠ Jvm.RoadKit.slotOf Z "com/example/enough_per_caller/enoughpercaller/TokenBucket" "refillPeriodSeconds" "J" := slot_ne (C := "com/example/enough_per_caller/enoughpercaller/TokenBucket") (Or.inr (wd_36 hw)) (Or.inr (wd_38 hw)) (by decide) (t := .long) (t' := .long) (by decide) (by decide)
theorem pn_2 : plainName "com/example/enough_per_caller/enoughpercaller/TokenBucket" = true := by first | (simp [plainName, overriddenIn]; done) | decide +kernel
theorem ef_rmC (m : MethodId) (a1 : Addr) (q1 : Int64) (q2 : Int64) (q3 : Int64) : entryFrame m #[(.ref a1), (.long q1), (.long q2), (.long q3)] 7 = mkF m 0 #[.val (.ref a1), .val (.long q1), .second, .val (.long q2), .second, .val (.long q3), .second] [] := by first | (simp [entryFrame, mkF, argsToLocals, Value.category]; done) | rfl
def Q_rmC (Z : State) (a1 : Addr) (q1 : Int64) (q2 : Int64) (q3 : Int64) (u1 : Value) (u2 : Value) (u3 : Value) (h0 : Heap) (n0 : Nat) (v : Option Value) (h : Heap) (L : List Loc) : Prop := v = none ∧ Fr n0 L ∧ Keep h0 h [a1] ∧ Exa Z h a1 "com/example/enough_per_caller/enoughpercaller/TokenBucket" ∧ Fld Z h a1 "com/example/enough_per_caller/enoughpercaller/TokenBucket" "capacity" "J" (.long q1) ∧ Fld Z h a1 "com/example/enough_per_caller/enoughpercaller/TokenBucket" "refillTokens" "J" (.long q2) ∧ Fld Z h a1 "com/example/enough_per_caller/enoughpercaller/TokenBucket" "refillPeriodSeconds" "J" (.long q3)
set_option maxRecDepth 65536 in
set_option maxHeartbeats 40000000 in
theorem rmC (l : Launch) (Z : State) (a0 : Array Value) (hw : ∀ d ∈ tables_1, d.before a0 Z = true) (ws : List Jvm.Cond) (a1 : Addr) (q1 : Int64) (q2 : Int64) (q3 : Int64) (u1 : Value) (u2 : Value) (u3 : Value) (h0 : Heap) (n0 : Nat) (Z0 : n0 ≤ h0.size) (E_a1 : Exa Z h0 a1 "com/example/enough_per_caller/enoughpercaller/TokenBucket") (F_capacity_a1 : Fld Z h0 a1 "com/example/enough_per_caller/enoughpercaller/TokenBucket" "capacity" "J" u1) (F_refillTokens_a1 : Fld Z h0 a1 "com/example/enough_per_caller/enoughpercaller/TokenBucket" "refillTokens" "J" u2) (F_refillPeriodSeconds_a1 : Fld Z h0 a1 "com/example/enough_per_caller/enoughpercaller/TokenBucket" "refillPeriodSeconds" "J" u3) (g_a1 : n0 ≤ a1) (pr1 : ¬ q1 < (1 : Int64)) (pr2 : ¬ q2 < (1 : Int64)) (pr3 : ¬ q3 < (1 : Int64)) (pr4 : ¬ ((9007199254740 : Int64) < q3)) (pr5 : q3 * (1000 : Int64) ≠ 0) (pr6 : ¬ ((9007199254740992 : Int64) / (q3 * (1000 : Int64)) < q1)) (pr7 : ¬ ((9007199254740992 : Int64) < q2)) :
    MetFree l (⟨"com/example/enough_per_caller/enoughpercaller/TokenBucket", "<init>", "(JJJ)V"⟩ : MethodName) (head1 (Jvm.Cond.code (⟨"com/example/enough_per_caller/enoughpercaller/TokenBucket", "<init>", "(JJJ)V"⟩ : MethodName) prog_23_method_1_code 7 none :: ws) ({ frames := 2, cells := 2, slots := 52, locals := 24 } : Room)) (fun a U => a = #[(.ref a1), (.long q1), (.long q2), (.long q3)] ∧ Z.Warmed39 U.vm ∧ U.heap = h0) (fun _ _ _ _ _ => True) (fun _ U o U' => ∃ v L, o = .returned v ∧ Q_rmC Z a1 q1 q2 q3 u1 u2 u3 h0 n0 v U'.heap L ∧ ReturnedEndW U o U' L ({ frames := 2, cells := 2, slots := 52, locals := 24 } : Room).cells ({ frames := 2, cells := 2, slots := 52, locals := 24 } : Room).slots) := by
  refine MetFree.of_bodySF (plainFor_of_name pn_2) hisR ?_
  intro p e s m args below meth c s₁ Bd hml0 hP hK
  obtain ⟨rfl, hZ, hh⟩ := hP
  have hx := Bd.exec
  have hby := Bd.bytes
  have hml : c.maxLocals = 7 := hml0
  have hown : s.vm.findClass "com/example/enough_per_caller/enoughpercaller/TokenBucket" = some m.cls := findClass_of_methodNamed Bd.named
  have hnm := (name_of_methodNamed Bd.named Bd.method).1
  have X0 : Stand p l e ({ frames := 2, cells := 2, slots := 52, locals := 24 } : Room) (s.setVm s.vm) m #[(.ref a1), (.long q1), (.long q2), (.long q3)] below meth c s₁ [] 0 0 := Stand.of_body Bd
  have e0 : s₁.heap = h0 := by rw [← hh, Bd.state]; rfl
  have N0 := Fr.nil n0
  have K0 : Keep h0 h0 [a1] := Keep.refl _ _
  have hS0 : s.Since s.vm 0 := (State.WarmedH.refl s).since 0
  have hk0 : 0 ≤ h0.size := Nat.zero_le _
  replace hZ : Z.Warmed39 (s.setVm s.vm).vm := hZ
  replace hown : (s.setVm s.vm).vm.findClass "com/example/enough_per_caller/enoughpercaller/TokenBucket" = some m.cls := hown
  suffices G0 : own_G p e below (own_EW s below (Q_rmC Z a1 q1 q2 q3 u1 u2 u3 h0 n0) ({ frames := 2, cells := 2, slots := 52, locals := 24 } : Room).cells ({ frames := 2, cells := 2, slots := 52, locals := 24 } : Room).slots) s₁ (mkF m 0 #[.val (.ref a1), .val (.long q1), .second, .val (.long q2), .second, .val (.long q3), .second] []) by
    obtain ⟨zt, zst, zo, zq1, zq2, zq3⟩ := G0
    exact ⟨zt, zo, castTop (ef_rmC m a1 q1 q2 q3) zst, zq1, zq2, zq3⟩
  obtain ⟨Φ, hΦ⟩ : ∃ Φ, Φ = own_EW s below (Q_rmC Z a1 q1 q2 q3 u1 u2 u3 h0 n0) ({ frames := 2, cells := 2, slots := 52, locals := 24 } : Room).cells ({ frames := 2, cells := 2, slots := 52, locals := 24 } : Room).slots := ⟨_, rfl⟩
  rw [← hΦ]
  show own_G p e below Φ s₁ (mkF m 0 #[.val (.ref a1), .val (.long q1), .second, .val (.long q2), .second, .val (.long q3), .second] [])
  refine own_go (fun _ => XS.aloadN X0.here hx rfl (hb hby d1_0) rfl rfl) ?_
  show own_G p e below Φ s₁ (mkF m 1 #[.val (.ref a1), .val (.long q1), .second, .val (.long q2), .second, .val (.long q3), .second] [(.ref a1)])
  obtain ⟨_, _, ⟨T1, zL1, zk1, zn1⟩, -, X1, ⟨Lc1, hQ1, l1, y1, z1⟩, st1⟩ := X0.specialBack hx (y := (⟨"java/lang/Record", "<init>", "()V"⟩ : MethodName)) rfl hown (mvT hZ (wd_9 hw)) (mvT hZ (wd_10 hw)) (mvT hZ (wd_13 hw)) (by decide) (backOf (W := 0) (rmR l Z a0 hw [] a1 h0 n0 Z0 ) hZ (wd_13 hw) (wd_12 hw) (by decide) (by decide)) (g := (mkF m 1 #[.val (.ref a1), .val (.long q1), .second, .val (.long q2), .second, .val (.long q3), .second] [(.ref a1)])) rfl (by rw [hml]; rfl) (Steps.refl _) (a := a1) (argsL := []) (rest := []) (lenOf pd_0 rfl) rfl (by show 2 * 0 + _ ≤ _; exact Nat.le_of_eq rfl) (hb hby d1_1) (fun _ _ => ⟨rfl, e0, (by decide : 0 + 0 ≤ _), (by decide : 0 + 0 ≤ _)⟩)
  dsimp only [Pt.U, Pt.locs, Pt.cells, Pt.slots] at X1 l1 y1 z1 st1 hQ1
  subst l1 y1 z1
  obtain ⟨rfl, N1q, hs1⟩ := hQ1
  have N1 := Fr.app N0 N1q
  refine own_on st1 ?_
  show own_G p e below Φ T1 (mkF m 4 #[.val (.ref a1), .val (.long q1), .second, .val (.long q2), .second, .val (.long q3), .second] [])
  refine own_go (fun _ => XS.lloadN X1.here hx rfl (hb hby d1_4) rfl) ?_
  show own_G p e below Φ T1 (mkF m 5 #[.val (.ref a1), .val (.long q1), .second, .val (.long q2), .second, .val (.long q3), .second] [(.long q1)])
  refine own_go (fun _ => XS.lconst X1.here hx rfl (hb hby d1_5)) ?_
  show own_G p e below Φ T1 (mkF m 6 #[.val (.ref a1), .val (.long q1), .second, .val (.long q2), .second, .val (.long q3), .second] [(.long (1 : Int64)), (.long q1)])
  refine own_go (fun _ => XS.lcmp X1.here hx rfl (hb hby d1_6) rfl) ?_
  show own_G p e below Φ T1 (mkF m 7 #[.val (.ref a1), .val (.long q1), .second, .val (.long q2), .second, .val (.long q3), .second] [(.int (lcmpW q1 (1 : Int64)))])
  refine own_go (fun _ => XS.ifNo X1.here hx rfl (hb hby d1_7) rfl (Jvm.Free.XT.ll_lt_f pr1)) ?_
  show own_G p e below Φ T1 (mkF m 10 #[.val (.ref a1), .val (.long q1), .second, .val (.long q2), .second, .val (.long q3), .second] [])
  refine own_go (fun _ => XS.lloadN X1.here hx rfl (hb hby d1_10) rfl) ?_
  show own_G p e below Φ T1 (mkF m 11 #[.val (.ref a1), .val (.long q1), .second, .val (.long q2), .second, .val (.long q3), .second] [(.long q2)])
  refine own_go (fun _ => XS.lconst X1.here hx rfl (hb hby d1_11)) ?_
  show own_G p e below Φ T1 (mkF m 12 #[.val (.ref a1), .val (.long q1), .second, .val (.long q2), .second, .val (.long q3), .second] [(.long (1 : Int64)), (.long q2)])
  refine own_go (fun _ => XS.lcmp X1.here hx rfl (hb hby d1_12) rfl) ?_
  show own_G p e below Φ T1 (mkF m 13 #[.val (.ref a1), .val (.long q1), .second, .val (.long q2), .second, .val (.long q3), .second] [(.int (lcmpW q2 (1 : Int64)))])
  refine own_go (fun _ => XS.ifNo X1.here hx rfl (hb hby d1_13) rfl (Jvm.Free.XT.ll_lt_f pr2)) ?_
  show own_G p e below Φ T1 (mkF m 16 #[.val (.ref a1), .val (.long q1), .second, .val (.long q2), .second, .val (.long q3), .second] [])
  refine own_go (fun _ => XS.lload X1.here hx rfl (hb hby d1_16) rfl) ?_
  show own_G p e below Φ T1 (mkF m 18 #[.val (.ref a1), .val (.long q1), .second, .val (.long q2), .second, .val (.long q3), .second] [(.long q3)])
  refine own_go (fun _ => XS.lconst X1.here hx rfl (hb hby d1_18)) ?_
  show own_G p e below Φ T1 (mkF m 19 #[.val (.ref a1), .val (.long q1), .second, .val (.long q2), .second, .val (.long q3), .second] [(.long (1 : Int64)), (.long q3)])
  refine own_go (fun _ => XS.lcmp X1.here hx rfl (hb hby d1_19) rfl) ?_
  show own_G p e below Φ T1 (mkF m 20 #[.val (.ref a1), .val (.long q1), .second, .val (.long q2), .second, .val (.long q3), .second] [(.int (lcmpW q3 (1 : Int64)))])
  refine own_go (fun _ => XS.ifYes X1.here hx rfl (pc0 := 20) (pc' := 33) rfl (hb hby d1_20) rfl (Jvm.Free.XT.ll_ge_t pr3) (by decide) (by decide)) ?_
  show own_G p e below Φ T1 (mkF m 33 #[.val (.ref a1), .val (.long q1), .second, .val (.long q2), .second, .val (.long q3), .second] [])
  refine own_go (fun _ => XS.lload X1.here hx rfl (hb hby d1_33) rfl) ?_
  show own_G p e below Φ T1 (mkF m 35 #[.val (.ref a1), .val (.long q1), .second, .val (.long q2), .second, .val (.long q3), .second] [(.long q3)])
  refine own_go (fun _ => X1.ldc2Long hx hown (mvT hZ (wd_17 hw)) (g := (mkF m 35 #[.val (.ref a1), .val (.long q1), .second, .val (.long q2), .second, .val (.long q3), .second] [(.long q3)])) rfl (hb hby d1_35) _) ?_
  show own_G p e below Φ T1 (mkF m 38 #[.val (.ref a1), .val (.long q1), .second, .val (.long q2), .second, .val (.long q3), .second] [(.long (9007199254740 : Int64)), (.long q3)])
  refine own_go (fun _ => XS.lcmp X1.here hx rfl (hb hby d1_38) rfl) ?_
  show own_G p e below Φ T1 (mkF m 39 #[.val (.ref a1), .val (.long q1), .second, .val (.long q2), .second, .val (.long q3), .second] [(.int (lcmpW q3 (9007199254740 : Int64)))])
  refine own_go (fun _ => XS.ifNo X1.here hx rfl (hb hby d1_39) rfl (Jvm.Free.XT.ll_gt_f pr4)) ?_
  show own_G p e below Φ T1 (mkF m 42 #[.val (.ref a1), .val (.long q1), .second, .val (.long q2), .second, .val (.long q3), .second] [])
  refine own_go (fun _ => XS.lloadN X1.here hx rfl (hb hby d1_42) rfl) ?_
  show own_G p e below Φ T1 (mkF m 43 #[.val (.ref a1), .val (.long q1), .second, .val (.long q2), .second, .val (.long q3), .second] [(.long q1)])
  refine own_go (fun _ => X1.ldc2Long hx hown (mvT hZ (wd_18 hw)) (g := (mkF m 43 #[.val (.ref a1), .val (.long q1), .second, .val (.long q2), .second, .val (.long q3), .second] [(.long q1)])) rfl (hb hby d1_43) _) ?_
  show own_G p e below Φ T1 (mkF m 46 #[.val (.ref a1), .val (.long q1), .second, .val (.long q2), .second, .val (.long q3), .second] [(.long (9007199254740992 : Int64)), (.long q1)])
  refine own_go (fun _ => XS.lload X1.here hx rfl (hb hby d1_46) rfl) ?_
  show own_G p e below Φ T1 (mkF m 48 #[.val (.ref a1), .val (.long q1), .second, .val (.long q2), .second, .val (.long q3), .second] [(.long q3), (.long (9007199254740992 : Int64)), (.long q1)])
  refine own_go (fun _ => X1.ldc2Long hx hown (mvT hZ (wd_19 hw)) (g := (mkF m 48 #[.val (.ref a1), .val (.long q1), .second, .val (.long q2), .second, .val (.long q3), .second] [(.long q3), (.long (9007199254740992 : Int64)), (.long q1)])) rfl (hb hby d1_48) _) ?_
  show own_G p e below Φ T1 (mkF m 51 #[.val (.ref a1), .val (.long q1), .second, .val (.long q2), .second, .val (.long q3), .second] [(.long (1000 : Int64)), (.long q3), (.long (9007199254740992 : Int64)), (.long q1)])
  refine own_go (fun _ => XS.lmul X1.here hx rfl (hb hby d1_51) rfl) ?_
  show own_G p e below Φ T1 (mkF m 52 #[.val (.ref a1), .val (.long q1), .second, .val (.long q2), .second, .val (.long q3), .second] [(.long (q3 * (1000 : Int64))), (.long (9007199254740992 : Int64)), (.long q1)])
  refine own_go (fun _ => XS.ldiv X1.here hx rfl (hb hby d1_52) rfl pr5) ?_
  show own_G p e below Φ T1 (mkF m 53 #[.val (.ref a1), .val (.long q1), .second, .val (.long q2), .second, .val (.long q3), .second] [(.long ((9007199254740992 : Int64) / (q3 * (1000 : Int64)))), (.long q1)])
  refine own_go (fun _ => XS.lcmp X1.here hx rfl (hb hby d1_53) rfl) ?_
  show own_G p e below Φ T1 (mkF m 54 #[.val (.ref a1), .val (.long q1), .second, .val (.long q2), .second, .val (.long q3), .second] [(.int (lcmpW q1 ((9007199254740992 : Int64) / (q3 * (1000 : Int64)))))])
  refine own_go (fun _ => XS.ifYes X1.here hx rfl (pc0 := 54) (pc' := 73) rfl (hb hby d1_54) rfl (Jvm.Free.XT.ll_le_t pr6) (by decide) (by decide)) ?_
  show own_G p e below Φ T1 (mkF m 73 #[.val (.ref a1), .val (.long q1), .second, .val (.long q2), .second, .val (.long q3), .second] [])
  obtain ⟨os2, T2, h2, zk2, X2, e2, E2, hS2, hk2, hZ, hown, st2⟩ := ldcS X1 hx hZ hown (wd_20 hw) (fun d hd => hw d (own_sub d hd)) hs1 hS0 hk0 (g := (mkF m 73 #[.val (.ref a1), .val (.long q1), .second, .val (.long q2), .second, .val (.long q3), .second] [])) rfl (hb hby d1_73) (n := 48) (by decide +kernel) (by decide) (by decide) (by decide)
  have K2 := K0.ext E2
  have Zp2 : n0 ≤ h2.size := Nat.le_trans Z0 E2.1
  refine own_go st2 ?_
  show own_G p e below Φ T2 (mkF m 75 #[.val (.ref a1), .val (.long q1), .second, .val (.long q2), .second, .val (.long q3), .second] [(.ref os2)])
  refine own_go (fun _ => XS.lloadN X2.here hx rfl (hb hby d1_75) rfl) ?_
  show own_G p e below Φ T2 (mkF m 76 #[.val (.ref a1), .val (.long q1), .second, .val (.long q2), .second, .val (.long q3), .second] [(.long q2), (.ref os2)])
  obtain ⟨_, _, ⟨T3, zL3, zk3, zn3⟩, -, X3, ⟨Lc3, hQ3, l3, y3, z3⟩, st3⟩ := Jvm.LawKit.callS X2 hx (y := (⟨"com/example/enough_per_caller/enoughpercaller/ExactRange", "requireExact", "(Ljava/lang/String;J)V"⟩ : MethodName)) hown (mvT hZ (wd_28 hw)) (mvT hZ (wd_29 hw)) (mvT hZ (wd_30 hw)) (mvT hZ (wd_31 hw)) (by decide) (backOf (W := 0) (rmE l Z a0 hw [] os2 q2 h2 n0 Zp2 pr7) hZ (wd_31 hw) (wd_30 hw) (by decide) (by decide)) (g := (mkF m 76 #[.val (.ref a1), .val (.long q1), .second, .val (.long q2), .second, .val (.long q3), .second] [(.long q2), (.ref os2)])) rfl (by rw [hml]; rfl) (argsL := [(.ref os2), (.long q2)]) (rest := []) (lenOf pd_1 rfl) rfl (by show 2 * 0 + _ ≤ _; exact Nat.le_of_eq rfl) (hb hby d1_76) (fun _ _ => ⟨rfl, e2, (by decide : 2 + 0 ≤ _), (by decide : 52 + 0 ≤ _)⟩)
  dsimp only [Pt.U, Pt.locs, Pt.cells, Pt.slots] at X3 l3 y3 z3 st3 hQ3
  subst l3 y3 z3
  obtain ⟨rfl, N3q, hs3⟩ := hQ3
  have N3 := Fr.app N1 N3q
  refine own_go st3 ?_
  show own_G p e below Φ T3 (mkF m 79 #[.val (.ref a1), .val (.long q1), .second, .val (.long q2), .second, .val (.long q3), .second] [])
  refine own_go (fun _ => XS.aloadN X3.here hx rfl (hb hby d1_79) rfl rfl) ?_
  show own_G p e below Φ T3 (mkF m 80 #[.val (.ref a1), .val (.long q1), .second, .val (.long q2), .second, .val (.long q3), .second] [(.ref a1)])
  refine own_go (fun _ => XS.lloadN X3.here hx rfl (hb hby d1_80) rfl) ?_
  show own_G p e below Φ T3 (mkF m 81 #[.val (.ref a1), .val (.long q1), .second, .val (.long q2), .second, .val (.long q3), .second] [(.long q1), (.ref a1)])
  have f4 : Exa Z h2 a1 "com/example/enough_per_caller/enoughpercaller/TokenBucket" := E_a1.ext E2
  have f5 : Fld Z h2 a1 "com/example/enough_per_caller/enoughpercaller/TokenBucket" "capacity" "J" u1 := F_capacity_a1.ext E2
  obtain ⟨T6, h6, X6, e6, W6, st6⟩ := putF X3 hx hZ hown (host := "") (Or.inl (wd_33 hw)) Via.refl hs3 f5 f4 (Or.inr ⟨(wd_34 hw), rfl, hnm⟩) (wd_4 hw) (ty := .long) (by decide) rfl rfl (g := (mkF m 81 #[.val (.ref a1), .val (.long q1), .second, .val (.long q2), .second, .val (.long q3), .second] [(.long q1), (.ref a1)])) rfl rfl (hb hby d1_81)
  refine own_go st6 ?_
  have N6 := Fr.snoc X6 N3 g_a1
  have K6 := K2.wr W6 (Or.inl (List.mem_of_getElem? (i := 0) rfl))
  have Zp6 : n0 ≤ h6.size := Nat.le_trans Zp2 (Keep.of_wr W6).1
  have hk6 := Nat.le_trans hk2 (Keep.of_wr W6).1
  have f6w := f5.same W6
  show own_G p e below Φ T6 (mkF m 84 #[.val (.ref a1), .val (.long q1), .second, .val (.long q2), .second, .val (.long q3), .second] [])
  refine own_go (fun _ => XS.aloadN X6.here hx rfl (hb hby d1_84) rfl rfl) ?_
  show own_G p e below Φ T6 (mkF m 85 #[.val (.ref a1), .val (.long q1), .second, .val (.long q2), .second, .val (.long q3), .second] [(.ref a1)])
  refine own_go (fun _ => XS.lloadN X6.here hx rfl (hb hby d1_85) rfl) ?_
  show own_G p e below Φ T6 (mkF m 86 #[.val (.ref a1), .val (.long q1), .second, .val (.long q2), .second, .val (.long q3), .second] [(.long q2), (.ref a1)])
  have f7 : Exa Z h6 a1 "com/example/enough_per_caller/enoughpercaller/TokenBucket" := f4.wr W6
  have f8 : Fld Z h2 a1 "com/example/enough_per_caller/enoughpercaller/TokenBucket" "refillTokens" "J" u2 := F_refillTokens_a1.ext E2
  have f9 : Fld Z h6 a1 "com/example/enough_per_caller/enoughpercaller/TokenBucket" "refillTokens" "J" u2 := f8.other W6 (Or.inr (sl_0 hw))
  obtain ⟨T10, h10, X10, e10, W10, st10⟩ := putF X6 hx hZ hown (host := "") (Or.inl (wd_35 hw)) Via.refl e6 f9 f7 (Or.inr ⟨(wd_36 hw), rfl, hnm⟩) (wd_4 hw) (ty := .long) (by decide) rfl rfl (g := (mkF m 86 #[.val (.ref a1), .val (.long q1), .second, .val (.long q2), .second, .val (.long q3), .second] [(.long q2), (.ref a1)])) rfl rfl (hb hby d1_86)
  refine own_go st10 ?_
  have N10 := Fr.snoc X10 N6 g_a1
  have K10 := K6.wr W10 (Or.inl (List.mem_of_getElem? (i := 0) rfl))
  have Zp10 : n0 ≤ h10.size := Nat.le_trans Zp6 (Keep.of_wr W10).1
  have hk10 := Nat.le_trans hk6 (Keep.of_wr W10).1
  have f10w := f9.same W10
  show own_G p e below Φ T10 (mkF m 89 #[.val (.ref a1), .val (.long q1), .second, .val (.long q2), .second, .val (.long q3), .second] [])
  refine own_go (fun _ => XS.aloadN X10.here hx rfl (hb hby d1_89) rfl rfl) ?_
  show own_G p e below Φ T10 (mkF m 90 #[.val (.ref a1), .val (.long q1), .second, .val (.long q2), .second, .val (.long q3), .second] [(.ref a1)])
  refine own_go (fun _ => XS.lload X10.here hx rfl (hb hby d1_90) rfl) ?_
  show own_G p e below Φ T10 (mkF m 92 #[.val (.ref a1), .val (.long q1), .second, .val (.long q2), .second, .val (.long q3), .second] [(.long q3), (.ref a1)])
  have f11 : Exa Z h10 a1 "com/example/enough_per_caller/enoughpercaller/TokenBucket" := f7.wr W10
  have f12 : Fld Z h2 a1 "com/example/enough_per_caller/enoughpercaller/TokenBucket" "refillPeriodSeconds" "J" u3 := F_refillPeriodSeconds_a1.ext E2
  have f13 : Fld Z h6 a1 "com/example/enough_per_caller/enoughpercaller/TokenBucket" "refillPeriodSeconds" "J" u3 := f12.other W6 (Or.inr (sl_1 hw))
  have f14 : Fld Z h10 a1 "com/example/enough_per_caller/enoughpercaller/TokenBucket" "refillPeriodSeconds" "J" u3 := f13.other W10 (Or.inr (sl_2 hw))
  obtain ⟨T15, h15, X15, e15, W15, st15⟩ := putF X10 hx hZ hown (host := "") (Or.inl (wd_37 hw)) Via.refl e10 f14 f11 (Or.inr ⟨(wd_38 hw), rfl, hnm⟩) (wd_4 hw) (ty := .long) (by decide) rfl rfl (g := (mkF m 92 #[.val (.ref a1), .val (.long q1), .second, .val (.long q2), .second, .val (.long q3), .second] [(.long q3), (.ref a1)])) rfl rfl (hb hby d1_92)
  refine own_go st15 ?_
  have N15 := Fr.snoc X15 N10 g_a1
  have K15 := K10.wr W15 (Or.inl (List.mem_of_getElem? (i := 0) rfl))
  have Zp15 : n0 ≤ h15.size := Nat.le_trans Zp10 (Keep.of_wr W15).1
  have hk15 := Nat.le_trans hk10 (Keep.of_wr W15).1
  have f15w := f14.same W15
  show own_G p e below Φ T15 (mkF m 95 #[.val (.ref a1), .val (.long q1), .second, .val (.long q2), .second, .val (.long q3), .second] [])
  have f16 : Exa Z h15 a1 "com/example/enough_per_caller/enoughpercaller/TokenBucket" := f11.wr W15
  have f17 : Fld Z h10 a1 "com/example/enough_per_caller/enoughpercaller/TokenBucket" "capacity" "J" (.long q1) := f6w.other W10 (Or.inr (sl_3 hw))
  have f18 : Fld Z h15 a1 "com/example/enough_per_caller/enoughpercaller/TokenBucket" "capacity" "J" (.long q1) := f17.other W15 (Or.inr (sl_4 hw))
  have f19 : Fld Z h15 a1 "com/example/enough_per_caller/enoughpercaller/TokenBucket" "refillTokens" "J" (.long q2) := f10w.other W15 (Or.inr (sl_5 hw))
  rw [hΦ]
  refine own_retW X15 hS2 (by rw [e15]; exact hk15) (v := none) (fun _ => rfl) (BodyLoose.notSynchronized Bd) (fun fs hr => X15.returnOut hx Bd.returns (hb hby d1_95) hr) ?_ (by decide) (by decide)
  rw [e15]
  exact ⟨rfl, N15, K15, f16, f18, f19, f15w⟩
theorem d6_0 : decode prog_23_method_9_code 0 = .ok (.lload_n 0, 1) := by decide +kernel
theorem d6_1 : decode prog_23_method_9_code 1 = .ok (.lload_n 2, 1) := by decide +kernel
theorem d6_2 : decode prog_23_method_9_code 2 = .ok (.ldiv, 1) := by decide +kernel
theorem d6_3 : decode prog_23_method_9_code 3 = .ok (.lload_n 0, 1) := by decide +kernel
theorem d6_4 : decode prog_23_method_9_code 4 = .ok (.lload_n 2, 1) := by decide +kernel
theorem d6_5 : decode prog_23_method_9_code 5 = .ok (.lrem, 1) := by decide +kernel
theorem d6_6 : decode prog_23_method_9_code 6 = .ok (.lconst 0, 1) := by decide +kernel
theorem d6_7 : decode prog_23_method_9_code 7 = .ok (.lcmp, 1) := by decide +kernel
theorem d6_8 : decode prog_23_method_9_code 8 = .ok (.ifCond .ne 7, 3) := by decide +kernel
theorem d6_16 : decode prog_23_method_9_code 16 = .ok (.i2l, 1) := by decide +kernel
theorem d6_17 : decode prog_23_method_9_code 17 = .ok (.ladd, 1) := by decide +kernel
theorem d6_18 : decode prog_23_method_9_code 18 = .ok (.lreturn, 1) := by decide +kernel
theorem d6_11 : decode prog_23_method_9_code 11 = .ok (.iconst 0, 1) := by decide +kernel
theorem d6_12 : decode prog_23_method_9_code 12 = .ok (.goto 4, 3) := by decide +kernel
theorem d6_15 : decode prog_23_method_9_code 15 = .ok (.iconst 1, 1) := by decide +kernel
theorem ef_rmD (m : MethodId) (q1 : Int64) (q2 : Int64) : entryFrame m #[(.long q1), (.long q2)] 4 = mkF m 0 #[.val (.long q1), .second, .val (.long q2), .second] [] := by first | (simp [entryFrame, mkF, argsToLocals, Value.category]; done) | rfl
def Q_rmD (Z : State) (q1 : Int64) (q2 : Int64) (h0 : Heap) (n0 : Nat) (v : Option Value) (h : Heap) (L : List Loc) : Prop := v = some (.long (own_ceil q1 q2)) ∧ Fr n0 L ∧ h = h0
set_option maxRecDepth 65536 in
set_option maxHeartbeats 40000000 in
theorem rmD (l : Launch) (Z : State) (a0 : Array Value) (hw : ∀ d ∈ tables_1, d.before a0 Z = true) (ws : List Jvm.Cond) (q1 : Int64) (q2 : Int64) (h0 : Heap) (n0 : Nat) (Z0 : n0 ≤ h0.size) (pr0 : q2 ≠ 0) :
    MetFree l (⟨"com/example/enough_per_caller/enoughpercaller/TokenBucket", "ceilDiv", "(JJ)J"⟩ : MethodName) (head1 (Jvm.Cond.code (⟨"com/example/enough_per_caller/enoughpercaller/TokenBucket", "ceilDiv", "(JJ)J"⟩ : MethodName) prog_23_method_9_code 4 (some .long) :: ws) ({ frames := 0, cells := 0, slots := 0, locals := 0 } : Room)) (fun a U => a = #[(.long q1), (.long q2)] ∧ Z.Warmed39 U.vm ∧ U.heap = h0) (fun _ _ _ _ _ => True) (fun _ U o U' => ∃ v L, o = .returned v ∧ Q_rmD Z q1 q2 h0 n0 v U'.heap L ∧ FrameEnd U o U' L ({ frames := 0, cells := 0, slots := 0, locals := 0 } : Room).cells ({ frames := 0, cells := 0, slots := 0, locals := 0 } : Room).slots) := by
  refine MetFree.of_bodySF (plainFor_of_name pn_2) hisR ?_
  intro p e s m args below meth c s₁ Bd hml0 hP hK
  obtain ⟨rfl, hZ, hh⟩ := hP
  have hx := Bd.exec
  have hby := Bd.bytes
  have hml : c.maxLocals = 4 := hml0
  have hown : s.vm.findClass "com/example/enough_per_caller/enoughpercaller/TokenBucket" = some m.cls := findClass_of_methodNamed Bd.named
  have hnm := (name_of_methodNamed Bd.named Bd.method).1
  have X0 : Stand p l e ({ frames := 0, cells := 0, slots := 0, locals := 0 } : Room) s m #[(.long q1), (.long q2)] below meth c s₁ [] 0 0 := Stand.of_body Bd
  have e0 : s₁.heap = h0 := by rw [← hh, Bd.state]; rfl
  have N0 := Fr.nil n0
  suffices G0 : own_G p e below (own_E s below (Q_rmD Z q1 q2 h0 n0) ({ frames := 0, cells := 0, slots := 0, locals := 0 } : Room).cells ({ frames := 0, cells := 0, slots := 0, locals := 0 } : Room).slots) s₁ (mkF m 0 #[.val (.long q1), .second, .val (.long q2), .second] []) by
    obtain ⟨zt, zst, zo, zq1, zq2, zq3⟩ := G0
    exact ⟨zt, zo, castTop (ef_rmD m q1 q2) zst, zq1, zq2, zq3⟩
  obtain ⟨Φ, hΦ⟩ : ∃ Φ, Φ = own_E s below (Q_rmD Z q1 q2 h0 n0) ({ frames := 0, cells := 0, slots := 0, locals := 0 } : Room).cells ({ frames := 0, cells := 0, slots := 0, locals := 0 } : Room).slots := ⟨_, rfl⟩
  rw [← hΦ]
  show own_G p e below Φ s₁ (mkF m 0 #[.val (.long q1), .second, .val (.long q2), .second] [])
  refine own_go (fun _ => XS.lloadN X0.here hx rfl (hb hby d6_0) rfl) ?_
  show own_G p e below Φ s₁ (mkF m 1 #[.val (.long q1), .second, .val (.long q2), .second] [(.long q1)])
  refine own_go (fun _ => XS.lloadN X0.here hx rfl (hb hby d6_1) rfl) ?_
  show own_G p e below Φ s₁ (mkF m 2 #[.val (.long q1), .second, .val (.long q2), .second] [(.long q2), (.long q1)])
  refine own_go (fun _ => XS.ldiv X0.here hx rfl (hb hby d6_2) rfl pr0) ?_
  show own_G p e below Φ s₁ (mkF m 3 #[.val (.long q1), .second, .val (.long q2), .second] [(.long (q1 / q2))])
  refine own_go (fun _ => XS.lloadN X0.here hx rfl (hb hby d6_3) rfl) ?_
  show own_G p e below Φ s₁ (mkF m 4 #[.val (.long q1), .second, .val (.long q2), .second] [(.long q1), (.long (q1 / q2))])
  refine own_go (fun _ => XS.lloadN X0.here hx rfl (hb hby d6_4) rfl) ?_
  show own_G p e below Φ s₁ (mkF m 5 #[.val (.long q1), .second, .val (.long q2), .second] [(.long q2), (.long q1), (.long (q1 / q2))])
  refine own_go (fun _ => own_lremM X0 hx rfl (hb hby d6_5) rfl pr0) ?_
  show own_G p e below Φ s₁ (mkF m 6 #[.val (.long q1), .second, .val (.long q2), .second] [(.long (q1 % q2)), (.long (q1 / q2))])
  refine own_go (fun _ => XS.lconst X0.here hx rfl (hb hby d6_6)) ?_
  show own_G p e below Φ s₁ (mkF m 7 #[.val (.long q1), .second, .val (.long q2), .second] [(.long (0 : Int64)), (.long (q1 % q2)), (.long (q1 / q2))])
  refine own_go (fun _ => XS.lcmp X0.here hx rfl (hb hby d6_7) rfl) ?_
  show own_G p e below Φ s₁ (mkF m 8 #[.val (.long q1), .second, .val (.long q2), .second] [(.int (lcmpW (q1 % q2) (0 : Int64))), (.long (q1 / q2))])
  have hJ16_1 : ∀ (T' : State), own_Al X0 T' → T'.heap = h0 → ∀ (z : Int32), (z = if q1 % q2 = 0 then (0 : Int32) else (1 : Int32)) → own_G p e below Φ T' (mkF m 16 #[.val (.long q1), .second, .val (.long q2), .second] [(.int z), (.long (q1 / q2))]) := by
    intro T1 X1' e1 z h_z
    have X1 : Stand _ _ _ _ _ _ _ _ _ _ T1 _ _ _ := X1'
    show own_G p e below Φ T1 (mkF m 16 #[.val (.long q1), .second, .val (.long q2), .second] [(.int z), (.long (q1 / q2))])
    refine own_go (fun _ => XS.i2l X1.here hx rfl (hb hby d6_16) rfl) ?_
    show own_G p e below Φ T1 (mkF m 17 #[.val (.long q1), .second, .val (.long q2), .second] [(.long (z.toInt64)), (.long (q1 / q2))])
    refine own_go (fun _ => XS.ladd X1.here hx rfl (hb hby d6_17) rfl) ?_
    show own_G p e below Φ T1 (mkF m 18 #[.val (.long q1), .second, .val (.long q2), .second] [(.long ((q1 / q2) + (z.toInt64)))])
    rw [hΦ]
    refine own_ret X1 (v := some (.long ((q1 / q2) + (z.toInt64)))) (fun h => by rw [Bd.returns] at h; cases h) (BodyLoose.notSynchronized Bd) (fun fs hr => retOut X1 hx Bd.returns rfl (Or.inr (Or.inl ⟨rfl, rfl, _, rfl⟩)) (hb hby d6_18) hr) ?_ (by decide) (by decide)
    rw [e1]
    exact ⟨(by rw [h_z]; rfl), N0, rfl⟩
  by_cases hc8 : (q1 % q2) = (0 : Int64)
  · refine own_go (fun _ => XS.ifNo X0.here hx rfl (hb hby d6_8) rfl (Jvm.Free.XT.ll_ne_f hc8)) ?_
    show own_G p e below Φ s₁ (mkF m 11 #[.val (.long q1), .second, .val (.long q2), .second] [(.long (q1 / q2))])
    refine own_go (fun _ => XS.iconst X0.here hx rfl (hb hby d6_11)) ?_
    show own_G p e below Φ s₁ (mkF m 12 #[.val (.long q1), .second, .val (.long q2), .second] [(.int (0 : Int32)), (.long (q1 / q2))])
    refine own_go (fun _ => XS.goto X0.here hx rfl (pc0 := 12) (pc' := 16) rfl (hb hby d6_12) (by decide) (by decide)) ?_
    exact hJ16_1 _ X0 e0 _ (by simp [hc8])
  · refine own_go (fun _ => XS.ifYes X0.here hx rfl (pc0 := 8) (pc' := 15) rfl (hb hby d6_8) rfl (Jvm.Free.XT.ll_ne_t hc8) (by decide) (by decide)) ?_
    show own_G p e below Φ s₁ (mkF m 15 #[.val (.long q1), .second, .val (.long q2), .second] [(.long (q1 / q2))])
    refine own_go (fun _ => XS.iconst X0.here hx rfl (hb hby d6_15)) ?_
    exact hJ16_1 _ X0 e0 _ (by simp [hc8])
theorem d5_0 : decode prog_23_method_5_code 0 = .ok (.aload_n 0, 1) := by decide +kernel
theorem d5_1 : decode prog_23_method_5_code 1 = .ok (.getfield 34, 3) := by decide +kernel
theorem d5_4 : decode prog_23_method_5_code 4 = .ok (.aload_n 0, 1) := by decide +kernel
theorem d5_5 : decode prog_23_method_5_code 5 = .ok (.getfield 42, 3) := by decide +kernel
theorem d5_8 : decode prog_23_method_5_code 8 = .ok (.lmul, 1) := by decide +kernel
theorem d5_9 : decode prog_23_method_5_code 9 = .ok (.aload_n 0, 1) := by decide +kernel
theorem d5_10 : decode prog_23_method_5_code 10 = .ok (.getfield 40, 3) := by decide +kernel
theorem d5_13 : decode prog_23_method_5_code 13 = .ok (.invokestatic 61, 3) := by decide +kernel
theorem wd_44 {Z : State} {a0 : Array Value} (hw : ∀ d ∈ tables_1, d.before a0 Z = true) : ((Jvm.Cond.methodLink "com/example/enough_per_caller/enoughpercaller/TokenBucket" (61 : Nat) ({ cls := "com/example/enough_per_caller/enoughpercaller/TokenBucket", name := "ceilDiv", desc := "(JJ)J" } : Jvm.MethodName)) : Jvm.Cond).before a0 Z = true := hw _ (List.mem_of_getElem? (i := 44) rfl)
theorem wd_46 {Z : State} {a0 : Array Value} (hw : ∀ d ∈ tables_1, d.before a0 Z = true) : ((Jvm.Cond.code ({ cls := "com/example/enough_per_caller/enoughpercaller/TokenBucket", name := "ceilDiv", desc := "(JJ)J" } : Jvm.MethodName) prog_23_method_9_code (4 : Nat) (Option.some Jvm.ClassFile.FieldType.long)) : Jvm.Cond).before a0 Z = true := hw _ (List.mem_of_getElem? (i := 46) rfl)
theorem wd_5 {Z : State} {a0 : Array Value} (hw : ∀ d ∈ tables_1, d.before a0 Z = true) : ((Jvm.Cond.initialized "com/example/enough_per_caller/enoughpercaller/TokenBucket") : Jvm.Cond).before a0 Z = true := hw _ (List.mem_of_getElem? (i := 5) rfl)
theorem pd_2 : parseMethodDescriptor "(JJ)J" = some ⟨[.long, .long], some .long⟩ := by decide +kernel
theorem wd_45 {Z : State} {a0 : Array Value} (hw : ∀ d ∈ tables_1, d.before a0 Z = true) : ((Jvm.Cond.static ({ cls := "com/example/enough_per_caller/enoughpercaller/TokenBucket", name := "ceilDiv", desc := "(JJ)J" } : Jvm.MethodName)) : Jvm.Cond).before a0 Z = true := hw _ (List.mem_of_getElem? (i := 45) rfl)
theorem d5_16 : decode prog_23_method_5_code 16 = .ok (.lreturn, 1) := by decide +kernel
theorem ef_rmW (m : MethodId) (a1 : Addr) : entryFrame m #[(.ref a1)] 1 = mkF m 0 #[.val (.ref a1)] [] := by first | (simp [entryFrame, mkF, argsToLocals, Value.category]; done) | rfl
def Q_rmW (Z : State) (a1 : Addr) (q1 : Int64) (q2 : Int64) (q3 : Int64) (h0 : Heap) (n0 : Nat) (v : Option Value) (h : Heap) (L : List Loc) : Prop := v = some (.long (own_ceil (q1 * q3) q2)) ∧ Fr n0 L ∧ h = h0
set_option maxRecDepth 65536 in
set_option maxHeartbeats 40000000 in
theorem rmW (l : Launch) (Z : State) (a0 : Array Value) (hw : ∀ d ∈ tables_1, d.before a0 Z = true) (ws : List Jvm.Cond) (a1 : Addr) (q1 : Int64) (q2 : Int64) (q3 : Int64) (h0 : Heap) (n0 : Nat) (Z0 : n0 ≤ h0.size) (F_capacity_a1 : Fld Z h0 a1 "com/example/enough_per_caller/enoughpercaller/TokenBucket" "capacity" "J" (.long q1)) (F_refillTokens_a1 : Fld Z h0 a1 "com/example/enough_per_caller/enoughpercaller/TokenBucket" "refillTokens" "J" (.long q2)) (F_refillPeriodSeconds_a1 : Fld Z h0 a1 "com/example/enough_per_caller/enoughpercaller/TokenBucket" "refillPeriodSeconds" "J" (.long q3)) (pr0 : q2 ≠ 0) :
    MetFree l (⟨"com/example/enough_per_caller/enoughpercaller/TokenBucket", "windowSeconds", "()J"⟩ : MethodName) (head1 (Jvm.Cond.code (⟨"com/example/enough_per_caller/enoughpercaller/TokenBucket", "windowSeconds", "()J"⟩ : MethodName) prog_23_method_5_code 1 (some .long) :: ws) ({ frames := 1, cells := 0, slots := 0, locals := 15 } : Room)) (fun a U => a = #[(.ref a1)] ∧ Z.Warmed39 U.vm ∧ U.heap = h0) (fun _ _ _ _ _ => True) (fun _ U o U' => ∃ v L, o = .returned v ∧ Q_rmW Z a1 q1 q2 q3 h0 n0 v U'.heap L ∧ FrameEnd U o U' L ({ frames := 1, cells := 0, slots := 0, locals := 15 } : Room).cells ({ frames := 1, cells := 0, slots := 0, locals := 15 } : Room).slots) := by
  refine MetFree.of_bodySF (plainFor_of_name pn_2) hisR ?_
  intro p e s m args below meth c s₁ Bd hml0 hP hK
  obtain ⟨rfl, hZ, hh⟩ := hP
  have hx := Bd.exec
  have hby := Bd.bytes
  have hml : c.maxLocals = 1 := hml0
  have hown : s.vm.findClass "com/example/enough_per_caller/enoughpercaller/TokenBucket" = some m.cls := findClass_of_methodNamed Bd.named
  have hnm := (name_of_methodNamed Bd.named Bd.method).1
  have X0 : Stand p l e ({ frames := 1, cells := 0, slots := 0, locals := 15 } : Room) s m #[(.ref a1)] below meth c s₁ [] 0 0 := Stand.of_body Bd
  have e0 : s₁.heap = h0 := by rw [← hh, Bd.state]; rfl
  have N0 := Fr.nil n0
  suffices G0 : own_G p e below (own_E s below (Q_rmW Z a1 q1 q2 q3 h0 n0) ({ frames := 1, cells := 0, slots := 0, locals := 15 } : Room).cells ({ frames := 1, cells := 0, slots := 0, locals := 15 } : Room).slots) s₁ (mkF m 0 #[.val (.ref a1)] []) by
    obtain ⟨zt, zst, zo, zq1, zq2, zq3⟩ := G0
    exact ⟨zt, zo, castTop (ef_rmW m a1) zst, zq1, zq2, zq3⟩
  obtain ⟨Φ, hΦ⟩ : ∃ Φ, Φ = own_E s below (Q_rmW Z a1 q1 q2 q3 h0 n0) ({ frames := 1, cells := 0, slots := 0, locals := 15 } : Room).cells ({ frames := 1, cells := 0, slots := 0, locals := 15 } : Room).slots := ⟨_, rfl⟩
  rw [← hΦ]
  show own_G p e below Φ s₁ (mkF m 0 #[.val (.ref a1)] [])
  refine own_go (fun _ => XS.aloadN X0.here hx rfl (hb hby d5_0) rfl rfl) ?_
  show own_G p e below Φ s₁ (mkF m 1 #[.val (.ref a1)] [(.ref a1)])
  obtain ⟨T1, X1, e1, st1⟩ := getF X0 hx hZ hown (host := "") (Or.inl (wd_33 hw)) Via.refl e0 F_capacity_a1 (g := (mkF m 1 #[.val (.ref a1)] [(.ref a1)])) rfl rfl (hb hby d5_1)
  refine own_go st1 ?_
  show own_G p e below Φ T1 (mkF m 4 #[.val (.ref a1)] [(.long q1)])
  refine own_go (fun _ => XS.aloadN X1.here hx rfl (hb hby d5_4) rfl rfl) ?_
  show own_G p e below Φ T1 (mkF m 5 #[.val (.ref a1)] [(.ref a1), (.long q1)])
  obtain ⟨T2, X2, e2, st2⟩ := getF X1 hx hZ hown (host := "") (Or.inl (wd_37 hw)) Via.refl e1 F_refillPeriodSeconds_a1 (g := (mkF m 5 #[.val (.ref a1)] [(.ref a1), (.long q1)])) rfl rfl (hb hby d5_5)
  refine own_go st2 ?_
  show own_G p e below Φ T2 (mkF m 8 #[.val (.ref a1)] [(.long q3), (.long q1)])
  refine own_go (fun _ => XS.lmul X2.here hx rfl (hb hby d5_8) rfl) ?_
  show own_G p e below Φ T2 (mkF m 9 #[.val (.ref a1)] [(.long (q1 * q3))])
  refine own_go (fun _ => XS.aloadN X2.here hx rfl (hb hby d5_9) rfl rfl) ?_
  show own_G p e below Φ T2 (mkF m 10 #[.val (.ref a1)] [(.ref a1), (.long (q1 * q3))])
  obtain ⟨T3, X3, e3, st3⟩ := getF X2 hx hZ hown (host := "") (Or.inl (wd_35 hw)) Via.refl e2 F_refillTokens_a1 (g := (mkF m 10 #[.val (.ref a1)] [(.ref a1), (.long (q1 * q3))])) rfl rfl (hb hby d5_10)
  refine own_go st3 ?_
  show own_G p e below Φ T3 (mkF m 13 #[.val (.ref a1)] [(.long q2), (.long (q1 * q3))])
  obtain ⟨_, _, ⟨T4, zL4, zk4, zn4⟩, -, X4, ⟨Lc4, hQ4, l4, y4, z4⟩, st4⟩ := Jvm.LawKit.callS X3 hx (y := (⟨"com/example/enough_per_caller/enoughpercaller/TokenBucket", "ceilDiv", "(JJ)J"⟩ : MethodName)) hown (mvT hZ (wd_44 hw)) (mvT hZ (wd_45 hw)) (mvT hZ (wd_5 hw)) (mvT hZ (wd_46 hw)) (by decide) (backOf (W := 0) (rmD l Z a0 hw [] (q1 * q3) q2 h0 n0 Z0 pr0) hZ (wd_46 hw) (wd_5 hw) (by decide) (by decide)) (g := (mkF m 13 #[.val (.ref a1)] [(.long q2), (.long (q1 * q3))])) rfl (by rw [hml]; rfl) (argsL := [(.long (q1 * q3)), (.long q2)]) (rest := []) (lenOf pd_2 rfl) rfl (by show 2 * 0 + _ ≤ _; exact Nat.le_of_eq rfl) (hb hby d5_13) (fun _ _ => ⟨rfl, e3, (by decide : 0 + 0 ≤ _), (by decide : 0 + 0 ≤ _)⟩)
  dsimp only [Pt.U, Pt.locs, Pt.cells, Pt.slots] at X4 l4 y4 z4 st4 hQ4
  subst l4 y4 z4
  obtain ⟨rfl, N4q, hs4⟩ := hQ4
  have N4 := Fr.app N0 N4q
  refine own_go st4 ?_
  show own_G p e below Φ T4 (mkF m 16 #[.val (.ref a1)] [(.long (own_ceil (q1 * q3) q2))])
  rw [hΦ]
  refine own_ret X4 (v := some (.long (own_ceil (q1 * q3) q2))) (fun h => by rw [Bd.returns] at h; cases h) (BodyLoose.notSynchronized Bd) (fun fs hr => retOut X4 hx Bd.returns rfl (Or.inr (Or.inl ⟨rfl, rfl, _, rfl⟩)) (hb hby d5_16) hr) ?_ (by decide) (by decide)
  rw [hs4]
  exact ⟨rfl, N4, rfl⟩
theorem wd_0 {Z : State} {a0 : Array Value} (hw : ∀ d ∈ tables_1, d.before a0 Z = true) : ((Jvm.Cond.constantLong "com/example/enough_per_caller/enoughpercaller/TokenBucketWindowSecondsPinLaw" (7 : Nat) (9007199254740992 : Int64)) : Jvm.Cond).before a0 Z = true := hw _ (List.mem_of_getElem? (i := 0) rfl)
theorem wd_1 {Z : State} {a0 : Array Value} (hw : ∀ d ∈ tables_1, d.before a0 Z = true) : ((Jvm.Cond.constantLong "com/example/enough_per_caller/enoughpercaller/TokenBucketWindowSecondsPinLaw" (9 : Nat) (1000 : Int64)) : Jvm.Cond).before a0 Z = true := hw _ (List.mem_of_getElem? (i := 1) rfl)
theorem wd_2 {Z : State} {a0 : Array Value} (hw : ∀ d ∈ tables_1, d.before a0 Z = true) : ((Jvm.Cond.constantLong "com/example/enough_per_caller/enoughpercaller/TokenBucketWindowSecondsPinLaw" (13 : Nat) (9223372036854775807 : Int64)) : Jvm.Cond).before a0 Z = true := hw _ (List.mem_of_getElem? (i := 2) rfl)
theorem wd_3 {Z : State} {a0 : Array Value} (hw : ∀ d ∈ tables_1, d.before a0 Z = true) : ((Jvm.Cond.classLink "com/example/enough_per_caller/enoughpercaller/TokenBucketWindowSecondsPinLaw" (17 : Nat) "com/example/enough_per_caller/enoughpercaller/TokenBucket") : Jvm.Cond).before a0 Z = true := hw _ (List.mem_of_getElem? (i := 3) rfl)
theorem wd_6 {Z : State} {a0 : Array Value} (hw : ∀ d ∈ tables_1, d.before a0 Z = true) : ((Jvm.Cond.methodLink "com/example/enough_per_caller/enoughpercaller/TokenBucketWindowSecondsPinLaw" (19 : Nat) ({ cls := "com/example/enough_per_caller/enoughpercaller/TokenBucket", name := "<init>", desc := "(JJJ)V" } : Jvm.MethodName)) : Jvm.Cond).before a0 Z = true := hw _ (List.mem_of_getElem? (i := 6) rfl)
theorem wd_8 {Z : State} {a0 : Array Value} (hw : ∀ d ∈ tables_1, d.before a0 Z = true) : ((Jvm.Cond.code ({ cls := "com/example/enough_per_caller/enoughpercaller/TokenBucket", name := "<init>", desc := "(JJJ)V" } : Jvm.MethodName) prog_23_method_1_code (7 : Nat) (Option.none : Option Jvm.ClassFile.FieldType)) : Jvm.Cond).before a0 Z = true := hw _ (List.mem_of_getElem? (i := 8) rfl)
theorem pd_3 : parseMethodDescriptor "(JJJ)V" = some ⟨[.long, .long, .long], none⟩ := by decide +kernel
theorem wd_7 {Z : State} {a0 : Array Value} (hw : ∀ d ∈ tables_1, d.before a0 Z = true) : ((Jvm.Cond.instanceMethod ({ cls := "com/example/enough_per_caller/enoughpercaller/TokenBucket", name := "<init>", desc := "(JJJ)V" } : Jvm.MethodName)) : Jvm.Cond).before a0 Z = true := hw _ (List.mem_of_getElem? (i := 7) rfl)
theorem wd_39 {Z : State} {a0 : Array Value} (hw : ∀ d ∈ tables_1, d.before a0 Z = true) : ((Jvm.Cond.methodLink "com/example/enough_per_caller/enoughpercaller/TokenBucketWindowSecondsPinLaw" (22 : Nat) ({ cls := "com/example/enough_per_caller/enoughpercaller/TokenBucket", name := "windowSeconds", desc := "()J" } : Jvm.MethodName)) : Jvm.Cond).before a0 Z = true := hw _ (List.mem_of_getElem? (i := 39) rfl)
theorem wd_43 {Z : State} {a0 : Array Value} (hw : ∀ d ∈ tables_1, d.before a0 Z = true) : ((Jvm.Cond.code ({ cls := "com/example/enough_per_caller/enoughpercaller/TokenBucket", name := "windowSeconds", desc := "()J" } : Jvm.MethodName) prog_23_method_5_code (1 : Nat) (Option.some Jvm.ClassFile.FieldType.long)) : Jvm.Cond).before a0 Z = true := hw _ (List.mem_of_getElem? (i := 43) rfl)
theorem pd_4 : parseMethodDescriptor "()J" = some ⟨[], some .long⟩ := by decide +kernel
theorem wd_42 {Z : State} {a0 : Array Value} (hw : ∀ d ∈ tables_1, d.before a0 Z = true) : ((Jvm.Cond.selects "com/example/enough_per_caller/enoughpercaller/TokenBucket" ({ cls := "com/example/enough_per_caller/enoughpercaller/TokenBucket", name := "windowSeconds", desc := "()J" } : Jvm.MethodName) ({ cls := "com/example/enough_per_caller/enoughpercaller/TokenBucket", name := "windowSeconds", desc := "()J" } : Jvm.MethodName)) : Jvm.Cond).before a0 Z = true := hw _ (List.mem_of_getElem? (i := 42) rfl)
theorem wd_40 {Z : State} {a0 : Array Value} (hw : ∀ d ∈ tables_1, d.before a0 Z = true) : ((Jvm.Cond.declares ({ cls := "com/example/enough_per_caller/enoughpercaller/TokenBucket", name := "windowSeconds", desc := "()J" } : Jvm.MethodName)) : Jvm.Cond).before a0 Z = true := hw _ (List.mem_of_getElem? (i := 40) rfl)
theorem wd_41 {Z : State} {a0 : Array Value} (hw : ∀ d ∈ tables_1, d.before a0 Z = true) : ((Jvm.Cond.instanceMethod ({ cls := "com/example/enough_per_caller/enoughpercaller/TokenBucket", name := "windowSeconds", desc := "()J" } : Jvm.MethodName)) : Jvm.Cond).before a0 Z = true := hw _ (List.mem_of_getElem? (i := 41) rfl)
theorem wd_47 {Z : State} {a0 : Array Value} (hw : ∀ d ∈ tables_1, d.before a0 Z = true) : ((Jvm.Cond.constantLong "com/example/enough_per_caller/enoughpercaller/TokenBucketWindowSecondsPinLaw" (15 : Nat) (65535 : Int64)) : Jvm.Cond).before a0 Z = true := hw _ (List.mem_of_getElem? (i := 47) rfl)
theorem pn_3 : plainName "com/example/enough_per_caller/enoughpercaller/TokenBucketWindowSecondsPinLaw" = true := by first | (simp [plainName, overriddenIn]; done) | decide +kernel
theorem ef_rm0 (m : MethodId) (ax : Int64) (bx : Int64) (cx : Int64) (md : Int32) : entryFrame m #[(.long ax), (.long bx), (.long cx), (.int md)] maxLocals = mkF m 0 #[.val (.long ax), .second, .val (.long bx), .second, .val (.long cx), .second, .val (.int md), .unset, .unset, .unset, .unset, .unset, .unset, .unset, .unset, .unset, .unset, .unset, .unset, .unset, .unset, .unset, .unset, .unset] [] := by first | (simp [entryFrame, mkF, argsToLocals, Value.category, maxLocals]; done) | rfl
def Q_rm0 (Z : State) (ax : Int64) (bx : Int64) (cx : Int64) (md : Int32) (h0 : Heap) (n0 : Nat) (v : Option Value) (h : Heap) (L : List Loc) : Prop := v = some (.int (1 : Int32)) ∧ Fr n0 L
set_option maxRecDepth 65536 in
set_option maxHeartbeats 40000000 in
theorem rm0 (l : Launch) (Z : State) (a0 : Array Value) (hw : ∀ d ∈ tables_1, d.before a0 Z = true) (ws : List Jvm.Cond) (ax : Int64) (bx : Int64) (cx : Int64) (md : Int32) (h0 : Heap) (n0 : Nat) (Z0 : n0 ≤ h0.size)  :
    MetFree l x (head1 (Jvm.Cond.code x code maxLocals ret :: ws) room_1) (fun a U => a = #[(.long ax), (.long bx), (.long cx), (.int md)] ∧ Z.Warmed39 U.vm ∧ U.heap = h0) (fun _ _ _ _ _ => True) (fun _ U o U' => ∃ v L, o = .returned v ∧ Q_rm0 Z ax bx cx md h0 n0 v U'.heap L ∧ ReturnedEndW U o U' L room_1.cells room_1.slots) := by
  refine MetFree.of_bodySF (plainFor_of_name pn_3) hisR ?_
  intro p e s m args below meth c s₁ Bd hml0 hP hK
  obtain ⟨rfl, hZ, hh⟩ := hP
  have hx := Bd.exec
  have hby := Bd.bytes
  have hml : c.maxLocals = 24 := hml0
  have hown : s.vm.findClass "com/example/enough_per_caller/enoughpercaller/TokenBucketWindowSecondsPinLaw" = some m.cls := findClass_of_methodNamed Bd.named
  have hnm := (name_of_methodNamed Bd.named Bd.method).1
  have X0 : Stand p l e room_1 (s.setVm s.vm) m #[(.long ax), (.long bx), (.long cx), (.int md)] below meth c s₁ [] 0 0 := Stand.of_body Bd
  have e0 : s₁.heap = h0 := by rw [← hh, Bd.state]; rfl
  have N0 := Fr.nil n0
  have hS0 : s.Since s.vm 0 := (State.WarmedH.refl s).since 0
  have hk0 : 0 ≤ h0.size := Nat.zero_le _
  replace hZ : Z.Warmed39 (s.setVm s.vm).vm := hZ
  replace hown : (s.setVm s.vm).vm.findClass "com/example/enough_per_caller/enoughpercaller/TokenBucketWindowSecondsPinLaw" = some m.cls := hown
  suffices G0 : own_G p e below (own_EW s below (Q_rm0 Z ax bx cx md h0 n0) room_1.cells room_1.slots) s₁ (mkF m 0 #[.val (.long ax), .second, .val (.long bx), .second, .val (.long cx), .second, .val (.int md), .unset, .unset, .unset, .unset, .unset, .unset, .unset, .unset, .unset, .unset, .unset, .unset, .unset, .unset, .unset, .unset, .unset] []) by
    obtain ⟨zt, zst, zo, zq1, zq2, zq3⟩ := G0
    exact ⟨zt, zo, castTop (ef_rm0 m ax bx cx md) zst, zq1, zq2, zq3⟩
  obtain ⟨Φ, hΦ⟩ : ∃ Φ, Φ = own_EW s below (Q_rm0 Z ax bx cx md h0 n0) room_1.cells room_1.slots := ⟨_, rfl⟩
  rw [← hΦ]
  show own_G p e below Φ s₁ (mkF m 0 #[.val (.long ax), .second, .val (.long bx), .second, .val (.long cx), .second, .val (.int md), .unset, .unset, .unset, .unset, .unset, .unset, .unset, .unset, .unset, .unset, .unset, .unset, .unset, .unset, .unset, .unset, .unset] [])
  refine own_go (fun _ => X0.ldc2Long hx hown (mvT hZ (wd_0 hw)) (g := (mkF m 0 #[.val (.long ax), .second, .val (.long bx), .second, .val (.long cx), .second, .val (.int md), .unset, .unset, .unset, .unset, .unset, .unset, .unset, .unset, .unset, .unset, .unset, .unset, .unset, .unset, .unset, .unset, .unset] [])) rfl (hb hby at_0) _) ?_
  show own_G p e below Φ s₁ (mkF m 3 #[.val (.long ax), .second, .val (.long bx), .second, .val (.long cx), .second, .val (.int md), .unset, .unset, .unset, .unset, .unset, .unset, .unset, .unset, .unset, .unset, .unset, .unset, .unset, .unset, .unset, .unset, .unset] [(.long (9007199254740992 : Int64))])
  refine own_go (fun _ => XS.lstore X0.here hx rfl (hb hby at_3) rfl (l' := #[.val (.long ax), .second, .val (.long bx), .second, .val (.long cx), .second, .val (.int md), .val (.long (9007199254740992 : Int64)), .second, .unset, .unset, .unset, .unset, .unset, .unset, .unset, .unset, .unset, .unset, .unset, .unset, .unset, .unset, .unset]) rfl) ?_
  show own_G p e below Φ s₁ (mkF m 5 #[.val (.long ax), .second, .val (.long bx), .second, .val (.long cx), .second, .val (.int md), .val (.long (9007199254740992 : Int64)), .second, .unset, .unset, .unset, .unset, .unset, .unset, .unset, .unset, .unset, .unset, .unset, .unset, .unset, .unset, .unset] [])
  refine own_go (fun _ => XS.lload X0.here hx rfl (hb hby at_5) rfl) ?_
  show own_G p e below Φ s₁ (mkF m 7 #[.val (.long ax), .second, .val (.long bx), .second, .val (.long cx), .second, .val (.int md), .val (.long (9007199254740992 : Int64)), .second, .unset, .unset, .unset, .unset, .unset, .unset, .unset, .unset, .unset, .unset, .unset, .unset, .unset, .unset, .unset] [(.long (9007199254740992 : Int64))])
  refine own_go (fun _ => X0.ldc2Long hx hown (mvT hZ (wd_1 hw)) (g := (mkF m 7 #[.val (.long ax), .second, .val (.long bx), .second, .val (.long cx), .second, .val (.int md), .val (.long (9007199254740992 : Int64)), .second, .unset, .unset, .unset, .unset, .unset, .unset, .unset, .unset, .unset, .unset, .unset, .unset, .unset, .unset, .unset] [(.long (9007199254740992 : Int64))])) rfl (hb hby at_7) _) ?_
  show own_G p e below Φ s₁ (mkF m 10 #[.val (.long ax), .second, .val (.long bx), .second, .val (.long cx), .second, .val (.int md), .val (.long (9007199254740992 : Int64)), .second, .unset, .unset, .unset, .unset, .unset, .unset, .unset, .unset, .unset, .unset, .unset, .unset, .unset, .unset, .unset] [(.long (1000 : Int64)), (.long (9007199254740992 : Int64))])
  refine own_go (fun _ => XS.ldiv X0.here hx rfl (hb hby at_10) rfl (by decide)) ?_
  show own_G p e below Φ s₁ (mkF m 11 #[.val (.long ax), .second, .val (.long bx), .second, .val (.long cx), .second, .val (.int md), .val (.long (9007199254740992 : Int64)), .second, .unset, .unset, .unset, .unset, .unset, .unset, .unset, .unset, .unset, .unset, .unset, .unset, .unset, .unset, .unset] [(.long ((9007199254740992 : Int64) / (1000 : Int64)))])
  refine own_go (fun _ => XS.lstore X0.here hx rfl (hb hby at_11) rfl (l' := #[.val (.long ax), .second, .val (.long bx), .second, .val (.long cx), .second, .val (.int md), .val (.long (9007199254740992 : Int64)), .second, .val (.long ((9007199254740992 : Int64) / (1000 : Int64))), .second, .unset, .unset, .unset, .unset, .unset, .unset, .unset, .unset, .unset, .unset, .unset, .unset, .unset]) rfl) ?_
  show own_G p e below Φ s₁ (mkF m 13 #[.val (.long ax), .second, .val (.long bx), .second, .val (.long cx), .second, .val (.int md), .val (.long (9007199254740992 : Int64)), .second, .val (.long ((9007199254740992 : Int64) / (1000 : Int64))), .second, .unset, .unset, .unset, .unset, .unset, .unset, .unset, .unset, .unset, .unset, .unset, .unset, .unset] [])
  generalize hx9_11 : ((9007199254740992 : Int64) / (1000 : Int64)) = x9_11
  show own_G p e below Φ s₁ (mkF m 13 #[.val (.long ax), .second, .val (.long bx), .second, .val (.long cx), .second, .val (.int md), .val (.long (9007199254740992 : Int64)), .second, .val (.long x9_11), .second, .unset, .unset, .unset, .unset, .unset, .unset, .unset, .unset, .unset, .unset, .unset, .unset, .unset] [])
  refine own_go (fun _ => XS.lconst X0.here hx rfl (hb hby at_13)) ?_
  show own_G p e below Φ s₁ (mkF m 14 #[.val (.long ax), .second, .val (.long bx), .second, .val (.long cx), .second, .val (.int md), .val (.long (9007199254740992 : Int64)), .second, .val (.long x9_11), .second, .unset, .unset, .unset, .unset, .unset, .unset, .unset, .unset, .unset, .unset, .unset, .unset, .unset] [(.long (1 : Int64))])
  refine own_go (fun _ => XS.lloadN X0.here hx rfl (hb hby at_14) rfl) ?_
  show own_G p e below Φ s₁ (mkF m 15 #[.val (.long ax), .second, .val (.long bx), .second, .val (.long cx), .second, .val (.int md), .val (.long (9007199254740992 : Int64)), .second, .val (.long x9_11), .second, .unset, .unset, .unset, .unset, .unset, .unset, .unset, .unset, .unset, .unset, .unset, .unset, .unset] [(.long ax), (.long (1 : Int64))])
  refine own_go (fun _ => X0.ldc2Long hx hown (mvT hZ (wd_2 hw)) (g := (mkF m 15 #[.val (.long ax), .second, .val (.long bx), .second, .val (.long cx), .second, .val (.int md), .val (.long (9007199254740992 : Int64)), .second, .val (.long x9_11), .second, .unset, .unset, .unset, .unset, .unset, .unset, .unset, .unset, .unset, .unset, .unset, .unset, .unset] [(.long ax), (.long (1 : Int64))])) rfl (hb hby at_15) _) ?_
  show own_G p e below Φ s₁ (mkF m 18 #[.val (.long ax), .second, .val (.long bx), .second, .val (.long cx), .second, .val (.int md), .val (.long (9007199254740992 : Int64)), .second, .val (.long x9_11), .second, .unset, .unset, .unset, .unset, .unset, .unset, .unset, .unset, .unset, .unset, .unset, .unset, .unset] [(.long (9223372036854775807 : Int64)), (.long ax), (.long (1 : Int64))])
  refine own_go (fun _ => XS.land X0.here hx rfl (hb hby at_18) rfl) ?_
  show own_G p e below Φ s₁ (mkF m 19 #[.val (.long ax), .second, .val (.long bx), .second, .val (.long cx), .second, .val (.int md), .val (.long (9007199254740992 : Int64)), .second, .val (.long x9_11), .second, .unset, .unset, .unset, .unset, .unset, .unset, .unset, .unset, .unset, .unset, .unset, .unset, .unset] [(.long (ax &&& (9223372036854775807 : Int64))), (.long (1 : Int64))])
  refine own_go (fun _ => XS.lload X0.here hx rfl (hb hby at_19) rfl) ?_
  show own_G p e below Φ s₁ (mkF m 21 #[.val (.long ax), .second, .val (.long bx), .second, .val (.long cx), .second, .val (.int md), .val (.long (9007199254740992 : Int64)), .second, .val (.long x9_11), .second, .unset, .unset, .unset, .unset, .unset, .unset, .unset, .unset, .unset, .unset, .unset, .unset, .unset] [(.long x9_11), (.long (ax &&& (9223372036854775807 : Int64))), (.long (1 : Int64))])
  refine own_go (fun _ => own_lremM X0 hx rfl (hb hby at_21) rfl (by rw [← hx9_11]; decide)) ?_
  show own_G p e below Φ s₁ (mkF m 22 #[.val (.long ax), .second, .val (.long bx), .second, .val (.long cx), .second, .val (.int md), .val (.long (9007199254740992 : Int64)), .second, .val (.long x9_11), .second, .unset, .unset, .unset, .unset, .unset, .unset, .unset, .unset, .unset, .unset, .unset, .unset, .unset] [(.long ((ax &&& (9223372036854775807 : Int64)) % x9_11)), (.long (1 : Int64))])
  refine own_go (fun _ => XS.ladd X0.here hx rfl (hb hby at_22) rfl) ?_
  show own_G p e below Φ s₁ (mkF m 23 #[.val (.long ax), .second, .val (.long bx), .second, .val (.long cx), .second, .val (.int md), .val (.long (9007199254740992 : Int64)), .second, .val (.long x9_11), .second, .unset, .unset, .unset, .unset, .unset, .unset, .unset, .unset, .unset, .unset, .unset, .unset, .unset] [(.long ((1 : Int64) + ((ax &&& (9223372036854775807 : Int64)) % x9_11)))])
  refine own_go (fun _ => XS.lstore X0.here hx rfl (hb hby at_23) rfl (l' := #[.val (.long ax), .second, .val (.long bx), .second, .val (.long cx), .second, .val (.int md), .val (.long (9007199254740992 : Int64)), .second, .val (.long x9_11), .second, .val (.long ((1 : Int64) + ((ax &&& (9223372036854775807 : Int64)) % x9_11))), .second, .unset, .unset, .unset, .unset, .unset, .unset, .unset, .unset, .unset, .unset, .unset]) rfl) ?_
  show own_G p e below Φ s₁ (mkF m 25 #[.val (.long ax), .second, .val (.long bx), .second, .val (.long cx), .second, .val (.int md), .val (.long (9007199254740992 : Int64)), .second, .val (.long x9_11), .second, .val (.long ((1 : Int64) + ((ax &&& (9223372036854775807 : Int64)) % x9_11))), .second, .unset, .unset, .unset, .unset, .unset, .unset, .unset, .unset, .unset, .unset, .unset] [])
  generalize hx11_23 : ((1 : Int64) + ((ax &&& (9223372036854775807 : Int64)) % x9_11)) = x11_23
  have hp := own_per hx9_11 hx11_23
  show own_G p e below Φ s₁ (mkF m 25 #[.val (.long ax), .second, .val (.long bx), .second, .val (.long cx), .second, .val (.int md), .val (.long (9007199254740992 : Int64)), .second, .val (.long x9_11), .second, .val (.long x11_23), .second, .unset, .unset, .unset, .unset, .unset, .unset, .unset, .unset, .unset, .unset, .unset] [])
  refine own_go (fun _ => XS.lload X0.here hx rfl (hb hby at_25) rfl) ?_
  show own_G p e below Φ s₁ (mkF m 27 #[.val (.long ax), .second, .val (.long bx), .second, .val (.long cx), .second, .val (.int md), .val (.long (9007199254740992 : Int64)), .second, .val (.long x9_11), .second, .val (.long x11_23), .second, .unset, .unset, .unset, .unset, .unset, .unset, .unset, .unset, .unset, .unset, .unset] [(.long (9007199254740992 : Int64))])
  refine own_go (fun _ => XS.lload X0.here hx rfl (hb hby at_27) rfl) ?_
  show own_G p e below Φ s₁ (mkF m 29 #[.val (.long ax), .second, .val (.long bx), .second, .val (.long cx), .second, .val (.int md), .val (.long (9007199254740992 : Int64)), .second, .val (.long x9_11), .second, .val (.long x11_23), .second, .unset, .unset, .unset, .unset, .unset, .unset, .unset, .unset, .unset, .unset, .unset] [(.long x11_23), (.long (9007199254740992 : Int64))])
  refine own_go (fun _ => X0.ldc2Long hx hown (mvT hZ (wd_1 hw)) (g := (mkF m 29 #[.val (.long ax), .second, .val (.long bx), .second, .val (.long cx), .second, .val (.int md), .val (.long (9007199254740992 : Int64)), .second, .val (.long x9_11), .second, .val (.long x11_23), .second, .unset, .unset, .unset, .unset, .unset, .unset, .unset, .unset, .unset, .unset, .unset] [(.long x11_23), (.long (9007199254740992 : Int64))])) rfl (hb hby at_29) _) ?_
  show own_G p e below Φ s₁ (mkF m 32 #[.val (.long ax), .second, .val (.long bx), .second, .val (.long cx), .second, .val (.int md), .val (.long (9007199254740992 : Int64)), .second, .val (.long x9_11), .second, .val (.long x11_23), .second, .unset, .unset, .unset, .unset, .unset, .unset, .unset, .unset, .unset, .unset, .unset] [(.long (1000 : Int64)), (.long x11_23), (.long (9007199254740992 : Int64))])
  refine own_go (fun _ => XS.lmul X0.here hx rfl (hb hby at_32) rfl) ?_
  show own_G p e below Φ s₁ (mkF m 33 #[.val (.long ax), .second, .val (.long bx), .second, .val (.long cx), .second, .val (.int md), .val (.long (9007199254740992 : Int64)), .second, .val (.long x9_11), .second, .val (.long x11_23), .second, .unset, .unset, .unset, .unset, .unset, .unset, .unset, .unset, .unset, .unset, .unset] [(.long (x11_23 * (1000 : Int64))), (.long (9007199254740992 : Int64))])
  refine own_go (fun _ => XS.ldiv X0.here hx rfl (hb hby at_33) rfl (own_pk0 hp)) ?_
  show own_G p e below Φ s₁ (mkF m 34 #[.val (.long ax), .second, .val (.long bx), .second, .val (.long cx), .second, .val (.int md), .val (.long (9007199254740992 : Int64)), .second, .val (.long x9_11), .second, .val (.long x11_23), .second, .unset, .unset, .unset, .unset, .unset, .unset, .unset, .unset, .unset, .unset, .unset] [(.long ((9007199254740992 : Int64) / (x11_23 * (1000 : Int64))))])
  refine own_go (fun _ => XS.lstore X0.here hx rfl (hb hby at_34) rfl (l' := #[.val (.long ax), .second, .val (.long bx), .second, .val (.long cx), .second, .val (.int md), .val (.long (9007199254740992 : Int64)), .second, .val (.long x9_11), .second, .val (.long x11_23), .second, .val (.long ((9007199254740992 : Int64) / (x11_23 * (1000 : Int64)))), .second, .unset, .unset, .unset, .unset, .unset, .unset, .unset, .unset, .unset]) rfl) ?_
  show own_G p e below Φ s₁ (mkF m 36 #[.val (.long ax), .second, .val (.long bx), .second, .val (.long cx), .second, .val (.int md), .val (.long (9007199254740992 : Int64)), .second, .val (.long x9_11), .second, .val (.long x11_23), .second, .val (.long ((9007199254740992 : Int64) / (x11_23 * (1000 : Int64)))), .second, .unset, .unset, .unset, .unset, .unset, .unset, .unset, .unset, .unset] [])
  generalize hx13_34 : ((9007199254740992 : Int64) / (x11_23 * (1000 : Int64))) = x13_34
  have hmx := own_max hp hx13_34
  show own_G p e below Φ s₁ (mkF m 36 #[.val (.long ax), .second, .val (.long bx), .second, .val (.long cx), .second, .val (.int md), .val (.long (9007199254740992 : Int64)), .second, .val (.long x9_11), .second, .val (.long x11_23), .second, .val (.long x13_34), .second, .unset, .unset, .unset, .unset, .unset, .unset, .unset, .unset, .unset] [])
  refine own_go (fun _ => XS.lconst X0.here hx rfl (hb hby at_36)) ?_
  show own_G p e below Φ s₁ (mkF m 37 #[.val (.long ax), .second, .val (.long bx), .second, .val (.long cx), .second, .val (.int md), .val (.long (9007199254740992 : Int64)), .second, .val (.long x9_11), .second, .val (.long x11_23), .second, .val (.long x13_34), .second, .unset, .unset, .unset, .unset, .unset, .unset, .unset, .unset, .unset] [(.long (1 : Int64))])
  refine own_go (fun _ => XS.lloadN X0.here hx rfl (hb hby at_37) rfl) ?_
  show own_G p e below Φ s₁ (mkF m 38 #[.val (.long ax), .second, .val (.long bx), .second, .val (.long cx), .second, .val (.int md), .val (.long (9007199254740992 : Int64)), .second, .val (.long x9_11), .second, .val (.long x11_23), .second, .val (.long x13_34), .second, .unset, .unset, .unset, .unset, .unset, .unset, .unset, .unset, .unset] [(.long bx), (.long (1 : Int64))])
  refine own_go (fun _ => X0.ldc2Long hx hown (mvT hZ (wd_2 hw)) (g := (mkF m 38 #[.val (.long ax), .second, .val (.long bx), .second, .val (.long cx), .second, .val (.int md), .val (.long (9007199254740992 : Int64)), .second, .val (.long x9_11), .second, .val (.long x11_23), .second, .val (.long x13_34), .second, .unset, .unset, .unset, .unset, .unset, .unset, .unset, .unset, .unset] [(.long bx), (.long (1 : Int64))])) rfl (hb hby at_38) _) ?_
  show own_G p e below Φ s₁ (mkF m 41 #[.val (.long ax), .second, .val (.long bx), .second, .val (.long cx), .second, .val (.int md), .val (.long (9007199254740992 : Int64)), .second, .val (.long x9_11), .second, .val (.long x11_23), .second, .val (.long x13_34), .second, .unset, .unset, .unset, .unset, .unset, .unset, .unset, .unset, .unset] [(.long (9223372036854775807 : Int64)), (.long bx), (.long (1 : Int64))])
  refine own_go (fun _ => XS.land X0.here hx rfl (hb hby at_41) rfl) ?_
  show own_G p e below Φ s₁ (mkF m 42 #[.val (.long ax), .second, .val (.long bx), .second, .val (.long cx), .second, .val (.int md), .val (.long (9007199254740992 : Int64)), .second, .val (.long x9_11), .second, .val (.long x11_23), .second, .val (.long x13_34), .second, .unset, .unset, .unset, .unset, .unset, .unset, .unset, .unset, .unset] [(.long (bx &&& (9223372036854775807 : Int64))), (.long (1 : Int64))])
  refine own_go (fun _ => XS.lload X0.here hx rfl (hb hby at_42) rfl) ?_
  show own_G p e below Φ s₁ (mkF m 44 #[.val (.long ax), .second, .val (.long bx), .second, .val (.long cx), .second, .val (.int md), .val (.long (9007199254740992 : Int64)), .second, .val (.long x9_11), .second, .val (.long x11_23), .second, .val (.long x13_34), .second, .unset, .unset, .unset, .unset, .unset, .unset, .unset, .unset, .unset] [(.long x13_34), (.long (bx &&& (9223372036854775807 : Int64))), (.long (1 : Int64))])
  refine own_go (fun _ => own_lremM X0 hx rfl (hb hby at_44) rfl (own_ne64 hmx.2.1)) ?_
  show own_G p e below Φ s₁ (mkF m 45 #[.val (.long ax), .second, .val (.long bx), .second, .val (.long cx), .second, .val (.int md), .val (.long (9007199254740992 : Int64)), .second, .val (.long x9_11), .second, .val (.long x11_23), .second, .val (.long x13_34), .second, .unset, .unset, .unset, .unset, .unset, .unset, .unset, .unset, .unset] [(.long ((bx &&& (9223372036854775807 : Int64)) % x13_34)), (.long (1 : Int64))])
  refine own_go (fun _ => XS.ladd X0.here hx rfl (hb hby at_45) rfl) ?_
  show own_G p e below Φ s₁ (mkF m 46 #[.val (.long ax), .second, .val (.long bx), .second, .val (.long cx), .second, .val (.int md), .val (.long (9007199254740992 : Int64)), .second, .val (.long x9_11), .second, .val (.long x11_23), .second, .val (.long x13_34), .second, .unset, .unset, .unset, .unset, .unset, .unset, .unset, .unset, .unset] [(.long ((1 : Int64) + ((bx &&& (9223372036854775807 : Int64)) % x13_34)))])
  refine own_go (fun _ => XS.lstore X0.here hx rfl (hb hby at_46) rfl (l' := #[.val (.long ax), .second, .val (.long bx), .second, .val (.long cx), .second, .val (.int md), .val (.long (9007199254740992 : Int64)), .second, .val (.long x9_11), .second, .val (.long x11_23), .second, .val (.long x13_34), .second, .val (.long ((1 : Int64) + ((bx &&& (9223372036854775807 : Int64)) % x13_34))), .second, .unset, .unset, .unset, .unset, .unset, .unset, .unset]) rfl) ?_
  show own_G p e below Φ s₁ (mkF m 48 #[.val (.long ax), .second, .val (.long bx), .second, .val (.long cx), .second, .val (.int md), .val (.long (9007199254740992 : Int64)), .second, .val (.long x9_11), .second, .val (.long x11_23), .second, .val (.long x13_34), .second, .val (.long ((1 : Int64) + ((bx &&& (9223372036854775807 : Int64)) % x13_34))), .second, .unset, .unset, .unset, .unset, .unset, .unset, .unset] [])
  generalize hx15_46 : ((1 : Int64) + ((bx &&& (9223372036854775807 : Int64)) % x13_34)) = x15_46
  have hcap := own_cap hp hmx hx15_46
  have ht := own_tot hcap.2.2
  show own_G p e below Φ s₁ (mkF m 48 #[.val (.long ax), .second, .val (.long bx), .second, .val (.long cx), .second, .val (.int md), .val (.long (9007199254740992 : Int64)), .second, .val (.long x9_11), .second, .val (.long x11_23), .second, .val (.long x13_34), .second, .val (.long x15_46), .second, .unset, .unset, .unset, .unset, .unset, .unset, .unset] [])
  refine own_go (fun _ => XS.iload X0.here hx rfl (hb hby at_48) rfl) ?_
  show own_G p e below Φ s₁ (mkF m 50 #[.val (.long ax), .second, .val (.long bx), .second, .val (.long cx), .second, .val (.int md), .val (.long (9007199254740992 : Int64)), .second, .val (.long x9_11), .second, .val (.long x11_23), .second, .val (.long x13_34), .second, .val (.long x15_46), .second, .unset, .unset, .unset, .unset, .unset, .unset, .unset] [(.int md)])
  refine own_go (fun _ => XS.iconst X0.here hx rfl (hb hby at_50)) ?_
  show own_G p e below Φ s₁ (mkF m 51 #[.val (.long ax), .second, .val (.long bx), .second, .val (.long cx), .second, .val (.int md), .val (.long (9007199254740992 : Int64)), .second, .val (.long x9_11), .second, .val (.long x11_23), .second, .val (.long x13_34), .second, .val (.long x15_46), .second, .unset, .unset, .unset, .unset, .unset, .unset, .unset] [(.int (1 : Int32)), (.int md)])
  refine own_go (fun _ => XS.iand X0.here hx rfl (hb hby at_51) rfl) ?_
  show own_G p e below Φ s₁ (mkF m 52 #[.val (.long ax), .second, .val (.long bx), .second, .val (.long cx), .second, .val (.int md), .val (.long (9007199254740992 : Int64)), .second, .val (.long x9_11), .second, .val (.long x11_23), .second, .val (.long x13_34), .second, .val (.long x15_46), .second, .unset, .unset, .unset, .unset, .unset, .unset, .unset] [(.int (md &&& (1 : Int32)))])
  have hJ81_1 : ∀ (T' : State), own_Al X0 T' → T'.heap = h0 → ∀ (z17 : Int64), (own_rg z17) → own_G p e below Φ T' (mkF m 81 #[.val (.long ax), .second, .val (.long bx), .second, .val (.long cx), .second, .val (.int md), .val (.long (9007199254740992 : Int64)), .second, .val (.long x9_11), .second, .val (.long x11_23), .second, .val (.long x13_34), .second, .val (.long x15_46), .second, .val (.long z17), .second, .unset, .unset, .unset, .unset, .unset] []) := by
    intro T1 X1' e1 z17 h_z17
    have X1 : Stand _ _ _ _ _ _ _ _ _ _ T1 _ _ _ := X1'
    show own_G p e below Φ T1 (mkF m 81 #[.val (.long ax), .second, .val (.long bx), .second, .val (.long cx), .second, .val (.int md), .val (.long (9007199254740992 : Int64)), .second, .val (.long x9_11), .second, .val (.long x11_23), .second, .val (.long x13_34), .second, .val (.long x15_46), .second, .val (.long z17), .second, .unset, .unset, .unset, .unset, .unset] [])
    obtain ⟨T2, h2, X2, e2, E2, A2, D2, -, st2⟩ := newO X1 hx hZ hown (wd_3 hw) (wd_4 hw) (wd_5 hw) e1 (g := (mkF m 81 #[.val (.long ax), .second, .val (.long bx), .second, .val (.long cx), .second, .val (.int md), .val (.long (9007199254740992 : Int64)), .second, .val (.long x9_11), .second, .val (.long x11_23), .second, .val (.long x13_34), .second, .val (.long x15_46), .second, .val (.long z17), .second, .unset, .unset, .unset, .unset, .unset] [])) rfl (hb hby at_81) (by decide) (by decide)
    obtain ⟨ob2, g2⟩ : ∃ z, z = h0.size := ⟨_, rfl⟩
    rw [← g2] at A2 D2 st2
    have g_ob2 : n0 ≤ ob2 := Nat.le_trans Z0 (Nat.le_of_eq g2.symm)
    have Zp2 : n0 ≤ h2.size := Nat.le_trans Z0 E2.1
    have hk2 := Nat.le_trans hk0 E2.1
    refine own_go st2 ?_
    have F_capacity_ob2 : Fld Z h2 ob2 "com/example/enough_per_caller/enoughpercaller/TokenBucket" "capacity" "J" (.long (0 : Int64)) := D2 (Or.inr (wd_34 hw)) (ty := .long) (by decide)
    have F_refillTokens_ob2 : Fld Z h2 ob2 "com/example/enough_per_caller/enoughpercaller/TokenBucket" "refillTokens" "J" (.long (0 : Int64)) := D2 (Or.inr (wd_36 hw)) (ty := .long) (by decide)
    have F_refillPeriodSeconds_ob2 : Fld Z h2 ob2 "com/example/enough_per_caller/enoughpercaller/TokenBucket" "refillPeriodSeconds" "J" (.long (0 : Int64)) := D2 (Or.inr (wd_38 hw)) (ty := .long) (by decide)
    show own_G p e below Φ T2 (mkF m 84 #[.val (.long ax), .second, .val (.long bx), .second, .val (.long cx), .second, .val (.int md), .val (.long (9007199254740992 : Int64)), .second, .val (.long x9_11), .second, .val (.long x11_23), .second, .val (.long x13_34), .second, .val (.long x15_46), .second, .val (.long z17), .second, .unset, .unset, .unset, .unset, .unset] [(.ref ob2)])
    refine own_go (fun _ => XS.dup X2.here hx rfl (hb hby at_84) rfl rfl) ?_
    show own_G p e below Φ T2 (mkF m 85 #[.val (.long ax), .second, .val (.long bx), .second, .val (.long cx), .second, .val (.int md), .val (.long (9007199254740992 : Int64)), .second, .val (.long x9_11), .second, .val (.long x11_23), .second, .val (.long x13_34), .second, .val (.long x15_46), .second, .val (.long z17), .second, .unset, .unset, .unset, .unset, .unset] [(.ref ob2), (.ref ob2)])
    refine own_go (fun _ => XS.lload X2.here hx rfl (hb hby at_85) rfl) ?_
    show own_G p e below Φ T2 (mkF m 87 #[.val (.long ax), .second, .val (.long bx), .second, .val (.long cx), .second, .val (.int md), .val (.long (9007199254740992 : Int64)), .second, .val (.long x9_11), .second, .val (.long x11_23), .second, .val (.long x13_34), .second, .val (.long x15_46), .second, .val (.long z17), .second, .unset, .unset, .unset, .unset, .unset] [(.long x15_46), (.ref ob2), (.ref ob2)])
    refine own_go (fun _ => XS.lload X2.here hx rfl (hb hby at_87) rfl) ?_
    show own_G p e below Φ T2 (mkF m 89 #[.val (.long ax), .second, .val (.long bx), .second, .val (.long cx), .second, .val (.int md), .val (.long (9007199254740992 : Int64)), .second, .val (.long x9_11), .second, .val (.long x11_23), .second, .val (.long x13_34), .second, .val (.long x15_46), .second, .val (.long z17), .second, .unset, .unset, .unset, .unset, .unset] [(.long z17), (.long x15_46), (.ref ob2), (.ref ob2)])
    refine own_go (fun _ => XS.lload X2.here hx rfl (hb hby at_89) rfl) ?_
    show own_G p e below Φ T2 (mkF m 91 #[.val (.long ax), .second, .val (.long bx), .second, .val (.long cx), .second, .val (.int md), .val (.long (9007199254740992 : Int64)), .second, .val (.long x9_11), .second, .val (.long x11_23), .second, .val (.long x13_34), .second, .val (.long x15_46), .second, .val (.long z17), .second, .unset, .unset, .unset, .unset, .unset] [(.long x11_23), (.long z17), (.long x15_46), (.ref ob2), (.ref ob2)])
    obtain ⟨_, _, ⟨T3, zL3, zk3, zn3⟩, -, X3, hS3q, hg3, ⟨Lc3, hQ3, l3, y3, z3⟩, st3⟩ := X2.specialBackS hx (y := (⟨"com/example/enough_per_caller/enoughpercaller/TokenBucket", "<init>", "(JJJ)V"⟩ : MethodName)) rfl hown (mvT hZ (wd_6 hw)) (mvT hZ (wd_7 hw)) (mvT hZ (wd_8 hw)) (by decide) (backOfS (W := 1) (rmC l Z a0 hw [] ob2 x15_46 z17 x11_23 (.long (0 : Int64)) (.long (0 : Int64)) (.long (0 : Int64)) h2 n0 Zp2 A2 F_capacity_ob2 F_refillTokens_ob2 F_refillPeriodSeconds_ob2 g_ob2 (own_lt1 hcap.1) (own_lt1 h_z17.1) (own_lt1 hp.1) (own_nlt (by rw [own_C]; exact hp.2)) (own_pk0 hp) (by rw [hx13_34]; exact own_nlt (by rw [hmx.1]; exact hcap.2.1)) (own_nlt (by rw [own_D]; exact h_z17.2))) hZ (wd_8 hw) (wd_5 hw) (by decide) (by decide)) (g := (mkF m 91 #[.val (.long ax), .second, .val (.long bx), .second, .val (.long cx), .second, .val (.int md), .val (.long (9007199254740992 : Int64)), .second, .val (.long x9_11), .second, .val (.long x11_23), .second, .val (.long x13_34), .second, .val (.long x15_46), .second, .val (.long z17), .second, .unset, .unset, .unset, .unset, .unset] [(.long x11_23), (.long z17), (.long x15_46), (.ref ob2), (.ref ob2)])) rfl (by rw [hml]; rfl) (Steps.refl _) (a := ob2) (argsL := [(.long x15_46), (.long z17), (.long x11_23)]) (rest := [(.ref ob2)]) (lenOf pd_3 rfl) rfl (by show 2 * 0 + _ ≤ _; exact Nat.le_of_eq rfl) (hb hby at_91) (fun _ _ => ⟨rfl, e2, (by decide : 1 + 2 ≤ _), (by decide : 3 + 52 ≤ _)⟩)
    dsimp only [Pt.U, Pt.locs, Pt.cells, Pt.slots] at X3 l3 y3 z3 st3 hQ3 hS3q hg3
    obtain ⟨X3, hS3, hZ, hown⟩ := rebS hS0 (by rw [e2]; exact hk2 : _ ≤ T2.heap.size) X3 hS3q hg3 hZ hown
    subst l3 y3 z3
    obtain ⟨rfl, N3q, Kq3, p3_0, p3_1, p3_2, p3_3⟩ := hQ3
    have N3 := Fr.app N0 N3q
    refine own_on st3 ?_
    have Zp3 : n0 ≤ T3.heap.size := Nat.le_trans Zp2 Kq3.1
    show own_G p e below Φ T3 (mkF m 94 #[.val (.long ax), .second, .val (.long bx), .second, .val (.long cx), .second, .val (.int md), .val (.long (9007199254740992 : Int64)), .second, .val (.long x9_11), .second, .val (.long x11_23), .second, .val (.long x13_34), .second, .val (.long x15_46), .second, .val (.long z17), .second, .unset, .unset, .unset, .unset, .unset] [(.ref ob2)])
    refine own_go (fun _ => XS.astore X3.here hx rfl (hb hby at_94) rfl rfl (l' := #[.val (.long ax), .second, .val (.long bx), .second, .val (.long cx), .second, .val (.int md), .val (.long (9007199254740992 : Int64)), .second, .val (.long x9_11), .second, .val (.long x11_23), .second, .val (.long x13_34), .second, .val (.long x15_46), .second, .val (.long z17), .second, .val (.ref ob2), .unset, .unset, .unset, .unset]) rfl) ?_
    show own_G p e below Φ T3 (mkF m 96 #[.val (.long ax), .second, .val (.long bx), .second, .val (.long cx), .second, .val (.int md), .val (.long (9007199254740992 : Int64)), .second, .val (.long x9_11), .second, .val (.long x11_23), .second, .val (.long x13_34), .second, .val (.long x15_46), .second, .val (.long z17), .second, .val (.ref ob2), .unset, .unset, .unset, .unset] [])
    refine own_go (fun _ => XS.aload X3.here hx rfl (hb hby at_96) rfl rfl) ?_
    show own_G p e below Φ T3 (mkF m 98 #[.val (.long ax), .second, .val (.long bx), .second, .val (.long cx), .second, .val (.int md), .val (.long (9007199254740992 : Int64)), .second, .val (.long x9_11), .second, .val (.long x11_23), .second, .val (.long x13_34), .second, .val (.long x15_46), .second, .val (.long z17), .second, .val (.ref ob2), .unset, .unset, .unset, .unset] [(.ref ob2)])
    obtain ⟨cq4, kq4, q4a, q4b, q4c⟩ := isOf hZ rfl p3_0
    obtain ⟨_, _, ⟨T4, zL4, zk4, zn4⟩, -, X4, ⟨Lc4, hQ4, l4, y4, z4⟩, st4⟩ := X3.virtualBack hx (y := (⟨"com/example/enough_per_caller/enoughpercaller/TokenBucket", "windowSeconds", "()J"⟩ : MethodName)) (z := (⟨"com/example/enough_per_caller/enoughpercaller/TokenBucket", "windowSeconds", "()J"⟩ : MethodName)) hown (mvT hZ (wd_39 hw)) (mvT hZ (wd_40 hw)) (notFace_of_selects (args := #[]) (mvT hZ (wd_42 hw))) (mvT hZ (wd_42 hw)) (mvT hZ (wd_41 hw)) (by decide) (backOf (W := 0) (rmW l Z a0 hw [] ob2 x15_46 z17 x11_23 T3.heap n0 Zp3 p3_1 p3_2 p3_3 (own_ne64 h_z17.1)) hZ (wd_43 hw) (wd_5 hw) (by decide) (by decide)) q4a q4c (g := (mkF m 98 #[.val (.long ax), .second, .val (.long bx), .second, .val (.long cx), .second, .val (.int md), .val (.long (9007199254740992 : Int64)), .second, .val (.long x9_11), .second, .val (.long x11_23), .second, .val (.long x13_34), .second, .val (.long x15_46), .second, .val (.long z17), .second, .val (.ref ob2), .unset, .unset, .unset, .unset] [(.ref ob2)])) rfl (by rw [hml]; rfl) (Steps.refl _) (argsL := []) (rest := []) (lenOf pd_4 rfl) rfl (by show 2 * 0 + _ ≤ _; exact Nat.le_of_eq rfl) (hb hby at_98) (fun _ _ => ⟨rfl, rfl, (by decide : 3 + 0 ≤ _), (by decide : 55 + 0 ≤ _)⟩)
    dsimp only [Pt.U, Pt.locs, Pt.cells, Pt.slots] at X4 l4 y4 z4 st4 hQ4
    subst l4 y4 z4
    obtain ⟨rfl, N4q, hs4⟩ := hQ4
    have N4 := Fr.app N3 N4q
    refine own_on st4 ?_
    show own_G p e below Φ T4 (mkF m 101 #[.val (.long ax), .second, .val (.long bx), .second, .val (.long cx), .second, .val (.int md), .val (.long (9007199254740992 : Int64)), .second, .val (.long x9_11), .second, .val (.long x11_23), .second, .val (.long x13_34), .second, .val (.long x15_46), .second, .val (.long z17), .second, .val (.ref ob2), .unset, .unset, .unset, .unset] [(.long (own_ceil (x15_46 * x11_23) z17))])
    refine own_go (fun _ => XS.lstore X4.here hx rfl (hb hby at_101) rfl (l' := #[.val (.long ax), .second, .val (.long bx), .second, .val (.long cx), .second, .val (.int md), .val (.long (9007199254740992 : Int64)), .second, .val (.long x9_11), .second, .val (.long x11_23), .second, .val (.long x13_34), .second, .val (.long x15_46), .second, .val (.long z17), .second, .val (.ref ob2), .val (.long (own_ceil (x15_46 * x11_23) z17)), .second, .unset, .unset]) rfl) ?_
    show own_G p e below Φ T4 (mkF m 103 #[.val (.long ax), .second, .val (.long bx), .second, .val (.long cx), .second, .val (.int md), .val (.long (9007199254740992 : Int64)), .second, .val (.long x9_11), .second, .val (.long x11_23), .second, .val (.long x13_34), .second, .val (.long x15_46), .second, .val (.long z17), .second, .val (.ref ob2), .val (.long (own_ceil (x15_46 * x11_23) z17)), .second, .unset, .unset] [])
    generalize hx20_101 : (own_ceil (x15_46 * x11_23) z17) = x20_101
    have hup := own_up (by rw [ht]; exact ⟨hcap.2.2.2, hcap.2.2.1⟩) h_z17 hx20_101
    show own_G p e below Φ T4 (mkF m 103 #[.val (.long ax), .second, .val (.long bx), .second, .val (.long cx), .second, .val (.int md), .val (.long (9007199254740992 : Int64)), .second, .val (.long x9_11), .second, .val (.long x11_23), .second, .val (.long x13_34), .second, .val (.long x15_46), .second, .val (.long z17), .second, .val (.ref ob2), .val (.long x20_101), .second, .unset, .unset] [])
    refine own_go (fun _ => XS.lload X4.here hx rfl (hb hby at_103) rfl) ?_
    show own_G p e below Φ T4 (mkF m 105 #[.val (.long ax), .second, .val (.long bx), .second, .val (.long cx), .second, .val (.int md), .val (.long (9007199254740992 : Int64)), .second, .val (.long x9_11), .second, .val (.long x11_23), .second, .val (.long x13_34), .second, .val (.long x15_46), .second, .val (.long z17), .second, .val (.ref ob2), .val (.long x20_101), .second, .unset, .unset] [(.long x15_46)])
    refine own_go (fun _ => XS.lload X4.here hx rfl (hb hby at_105) rfl) ?_
    show own_G p e below Φ T4 (mkF m 107 #[.val (.long ax), .second, .val (.long bx), .second, .val (.long cx), .second, .val (.int md), .val (.long (9007199254740992 : Int64)), .second, .val (.long x9_11), .second, .val (.long x11_23), .second, .val (.long x13_34), .second, .val (.long x15_46), .second, .val (.long z17), .second, .val (.ref ob2), .val (.long x20_101), .second, .unset, .unset] [(.long x11_23), (.long x15_46)])
    refine own_go (fun _ => XS.lmul X4.here hx rfl (hb hby at_107) rfl) ?_
    show own_G p e below Φ T4 (mkF m 108 #[.val (.long ax), .second, .val (.long bx), .second, .val (.long cx), .second, .val (.int md), .val (.long (9007199254740992 : Int64)), .second, .val (.long x9_11), .second, .val (.long x11_23), .second, .val (.long x13_34), .second, .val (.long x15_46), .second, .val (.long z17), .second, .val (.ref ob2), .val (.long x20_101), .second, .unset, .unset] [(.long (x15_46 * x11_23))])
    refine own_go (fun _ => XS.lstore X4.here hx rfl (hb hby at_108) rfl (l' := #[.val (.long ax), .second, .val (.long bx), .second, .val (.long cx), .second, .val (.int md), .val (.long (9007199254740992 : Int64)), .second, .val (.long x9_11), .second, .val (.long x11_23), .second, .val (.long x13_34), .second, .val (.long x15_46), .second, .val (.long z17), .second, .val (.ref ob2), .val (.long x20_101), .second, .val (.long (x15_46 * x11_23)), .second]) rfl) ?_
    show own_G p e below Φ T4 (mkF m 110 #[.val (.long ax), .second, .val (.long bx), .second, .val (.long cx), .second, .val (.int md), .val (.long (9007199254740992 : Int64)), .second, .val (.long x9_11), .second, .val (.long x11_23), .second, .val (.long x13_34), .second, .val (.long x15_46), .second, .val (.long z17), .second, .val (.ref ob2), .val (.long x20_101), .second, .val (.long (x15_46 * x11_23)), .second] [])
    refine own_go (fun _ => XS.lload X4.here hx rfl (hb hby at_110) rfl) ?_
    show own_G p e below Φ T4 (mkF m 112 #[.val (.long ax), .second, .val (.long bx), .second, .val (.long cx), .second, .val (.int md), .val (.long (9007199254740992 : Int64)), .second, .val (.long x9_11), .second, .val (.long x11_23), .second, .val (.long x13_34), .second, .val (.long x15_46), .second, .val (.long z17), .second, .val (.ref ob2), .val (.long x20_101), .second, .val (.long (x15_46 * x11_23)), .second] [(.long x20_101)])
    refine own_go (fun _ => XS.lconst X4.here hx rfl (hb hby at_112)) ?_
    show own_G p e below Φ T4 (mkF m 113 #[.val (.long ax), .second, .val (.long bx), .second, .val (.long cx), .second, .val (.int md), .val (.long (9007199254740992 : Int64)), .second, .val (.long x9_11), .second, .val (.long x11_23), .second, .val (.long x13_34), .second, .val (.long x15_46), .second, .val (.long z17), .second, .val (.ref ob2), .val (.long x20_101), .second, .val (.long (x15_46 * x11_23)), .second] [(.long (1 : Int64)), (.long x20_101)])
    refine own_go (fun _ => XS.lcmp X4.here hx rfl (hb hby at_113) rfl) ?_
    show own_G p e below Φ T4 (mkF m 114 #[.val (.long ax), .second, .val (.long bx), .second, .val (.long cx), .second, .val (.int md), .val (.long (9007199254740992 : Int64)), .second, .val (.long x9_11), .second, .val (.long x11_23), .second, .val (.long x13_34), .second, .val (.long x15_46), .second, .val (.long z17), .second, .val (.ref ob2), .val (.long x20_101), .second, .val (.long (x15_46 * x11_23)), .second] [(.int (lcmpW x20_101 (1 : Int64)))])
    refine own_go (fun _ => XS.ifNo X4.here hx rfl (hb hby at_114) rfl (Jvm.Free.XT.ll_lt_f (own_lt1 hup.1))) ?_
    show own_G p e below Φ T4 (mkF m 117 #[.val (.long ax), .second, .val (.long bx), .second, .val (.long cx), .second, .val (.int md), .val (.long (9007199254740992 : Int64)), .second, .val (.long x9_11), .second, .val (.long x11_23), .second, .val (.long x13_34), .second, .val (.long x15_46), .second, .val (.long z17), .second, .val (.ref ob2), .val (.long x20_101), .second, .val (.long (x15_46 * x11_23)), .second] [])
    refine own_go (fun _ => XS.lload X4.here hx rfl (hb hby at_117) rfl) ?_
    show own_G p e below Φ T4 (mkF m 119 #[.val (.long ax), .second, .val (.long bx), .second, .val (.long cx), .second, .val (.int md), .val (.long (9007199254740992 : Int64)), .second, .val (.long x9_11), .second, .val (.long x11_23), .second, .val (.long x13_34), .second, .val (.long x15_46), .second, .val (.long z17), .second, .val (.ref ob2), .val (.long x20_101), .second, .val (.long (x15_46 * x11_23)), .second] [(.long x20_101)])
    refine own_go (fun _ => XS.lload X4.here hx rfl (hb hby at_119) rfl) ?_
    show own_G p e below Φ T4 (mkF m 121 #[.val (.long ax), .second, .val (.long bx), .second, .val (.long cx), .second, .val (.int md), .val (.long (9007199254740992 : Int64)), .second, .val (.long x9_11), .second, .val (.long x11_23), .second, .val (.long x13_34), .second, .val (.long x15_46), .second, .val (.long z17), .second, .val (.ref ob2), .val (.long x20_101), .second, .val (.long (x15_46 * x11_23)), .second] [(.long (x15_46 * x11_23)), (.long x20_101)])
    refine own_go (fun _ => XS.lload X4.here hx rfl (hb hby at_121) rfl) ?_
    show own_G p e below Φ T4 (mkF m 123 #[.val (.long ax), .second, .val (.long bx), .second, .val (.long cx), .second, .val (.int md), .val (.long (9007199254740992 : Int64)), .second, .val (.long x9_11), .second, .val (.long x11_23), .second, .val (.long x13_34), .second, .val (.long x15_46), .second, .val (.long z17), .second, .val (.ref ob2), .val (.long x20_101), .second, .val (.long (x15_46 * x11_23)), .second] [(.long z17), (.long (x15_46 * x11_23)), (.long x20_101)])
    refine own_go (fun _ => XS.ldiv X4.here hx rfl (hb hby at_123) rfl (own_ne64 h_z17.1)) ?_
    show own_G p e below Φ T4 (mkF m 124 #[.val (.long ax), .second, .val (.long bx), .second, .val (.long cx), .second, .val (.int md), .val (.long (9007199254740992 : Int64)), .second, .val (.long x9_11), .second, .val (.long x11_23), .second, .val (.long x13_34), .second, .val (.long x15_46), .second, .val (.long z17), .second, .val (.ref ob2), .val (.long x20_101), .second, .val (.long (x15_46 * x11_23)), .second] [(.long ((x15_46 * x11_23) / z17)), (.long x20_101)])
    refine own_go (fun _ => XS.lconst X4.here hx rfl (hb hby at_124)) ?_
    show own_G p e below Φ T4 (mkF m 125 #[.val (.long ax), .second, .val (.long bx), .second, .val (.long cx), .second, .val (.int md), .val (.long (9007199254740992 : Int64)), .second, .val (.long x9_11), .second, .val (.long x11_23), .second, .val (.long x13_34), .second, .val (.long x15_46), .second, .val (.long z17), .second, .val (.ref ob2), .val (.long x20_101), .second, .val (.long (x15_46 * x11_23)), .second] [(.long (1 : Int64)), (.long ((x15_46 * x11_23) / z17)), (.long x20_101)])
    refine own_go (fun _ => XS.ladd X4.here hx rfl (hb hby at_125) rfl) ?_
    show own_G p e below Φ T4 (mkF m 126 #[.val (.long ax), .second, .val (.long bx), .second, .val (.long cx), .second, .val (.int md), .val (.long (9007199254740992 : Int64)), .second, .val (.long x9_11), .second, .val (.long x11_23), .second, .val (.long x13_34), .second, .val (.long x15_46), .second, .val (.long z17), .second, .val (.ref ob2), .val (.long x20_101), .second, .val (.long (x15_46 * x11_23)), .second] [(.long (((x15_46 * x11_23) / z17) + (1 : Int64))), (.long x20_101)])
    refine own_go (fun _ => XS.lcmp X4.here hx rfl (hb hby at_126) rfl) ?_
    show own_G p e below Φ T4 (mkF m 127 #[.val (.long ax), .second, .val (.long bx), .second, .val (.long cx), .second, .val (.int md), .val (.long (9007199254740992 : Int64)), .second, .val (.long x9_11), .second, .val (.long x11_23), .second, .val (.long x13_34), .second, .val (.long x15_46), .second, .val (.long z17), .second, .val (.ref ob2), .val (.long x20_101), .second, .val (.long (x15_46 * x11_23)), .second] [(.int (lcmpW x20_101 (((x15_46 * x11_23) / z17) + (1 : Int64))))])
    refine own_go (fun _ => XS.ifNo X4.here hx rfl (hb hby at_127) rfl (Jvm.Free.XT.ll_gt_f (own_nlt hup.2.1))) ?_
    show own_G p e below Φ T4 (mkF m 130 #[.val (.long ax), .second, .val (.long bx), .second, .val (.long cx), .second, .val (.int md), .val (.long (9007199254740992 : Int64)), .second, .val (.long x9_11), .second, .val (.long x11_23), .second, .val (.long x13_34), .second, .val (.long x15_46), .second, .val (.long z17), .second, .val (.ref ob2), .val (.long x20_101), .second, .val (.long (x15_46 * x11_23)), .second] [])
    refine own_go (fun _ => XS.lload X4.here hx rfl (hb hby at_130) rfl) ?_
    show own_G p e below Φ T4 (mkF m 132 #[.val (.long ax), .second, .val (.long bx), .second, .val (.long cx), .second, .val (.int md), .val (.long (9007199254740992 : Int64)), .second, .val (.long x9_11), .second, .val (.long x11_23), .second, .val (.long x13_34), .second, .val (.long x15_46), .second, .val (.long z17), .second, .val (.ref ob2), .val (.long x20_101), .second, .val (.long (x15_46 * x11_23)), .second] [(.long x20_101)])
    refine own_go (fun _ => XS.lload X4.here hx rfl (hb hby at_132) rfl) ?_
    show own_G p e below Φ T4 (mkF m 134 #[.val (.long ax), .second, .val (.long bx), .second, .val (.long cx), .second, .val (.int md), .val (.long (9007199254740992 : Int64)), .second, .val (.long x9_11), .second, .val (.long x11_23), .second, .val (.long x13_34), .second, .val (.long x15_46), .second, .val (.long z17), .second, .val (.ref ob2), .val (.long x20_101), .second, .val (.long (x15_46 * x11_23)), .second] [(.long z17), (.long x20_101)])
    refine own_go (fun _ => XS.lmul X4.here hx rfl (hb hby at_134) rfl) ?_
    show own_G p e below Φ T4 (mkF m 135 #[.val (.long ax), .second, .val (.long bx), .second, .val (.long cx), .second, .val (.int md), .val (.long (9007199254740992 : Int64)), .second, .val (.long x9_11), .second, .val (.long x11_23), .second, .val (.long x13_34), .second, .val (.long x15_46), .second, .val (.long z17), .second, .val (.ref ob2), .val (.long x20_101), .second, .val (.long (x15_46 * x11_23)), .second] [(.long (x20_101 * z17))])
    refine own_go (fun _ => XS.lload X4.here hx rfl (hb hby at_135) rfl) ?_
    show own_G p e below Φ T4 (mkF m 137 #[.val (.long ax), .second, .val (.long bx), .second, .val (.long cx), .second, .val (.int md), .val (.long (9007199254740992 : Int64)), .second, .val (.long x9_11), .second, .val (.long x11_23), .second, .val (.long x13_34), .second, .val (.long x15_46), .second, .val (.long z17), .second, .val (.ref ob2), .val (.long x20_101), .second, .val (.long (x15_46 * x11_23)), .second] [(.long (x15_46 * x11_23)), (.long (x20_101 * z17))])
    refine own_go (fun _ => XS.lcmp X4.here hx rfl (hb hby at_137) rfl) ?_
    show own_G p e below Φ T4 (mkF m 138 #[.val (.long ax), .second, .val (.long bx), .second, .val (.long cx), .second, .val (.int md), .val (.long (9007199254740992 : Int64)), .second, .val (.long x9_11), .second, .val (.long x11_23), .second, .val (.long x13_34), .second, .val (.long x15_46), .second, .val (.long z17), .second, .val (.ref ob2), .val (.long x20_101), .second, .val (.long (x15_46 * x11_23)), .second] [(.int (lcmpW (x20_101 * z17) (x15_46 * x11_23)))])
    refine own_go (fun _ => XS.ifNo X4.here hx rfl (hb hby at_138) rfl (Jvm.Free.XT.ll_lt_f (own_nlt hup.2.2.1))) ?_
    show own_G p e below Φ T4 (mkF m 141 #[.val (.long ax), .second, .val (.long bx), .second, .val (.long cx), .second, .val (.int md), .val (.long (9007199254740992 : Int64)), .second, .val (.long x9_11), .second, .val (.long x11_23), .second, .val (.long x13_34), .second, .val (.long x15_46), .second, .val (.long z17), .second, .val (.ref ob2), .val (.long x20_101), .second, .val (.long (x15_46 * x11_23)), .second] [])
    refine own_go (fun _ => XS.lload X4.here hx rfl (hb hby at_141) rfl) ?_
    show own_G p e below Φ T4 (mkF m 143 #[.val (.long ax), .second, .val (.long bx), .second, .val (.long cx), .second, .val (.int md), .val (.long (9007199254740992 : Int64)), .second, .val (.long x9_11), .second, .val (.long x11_23), .second, .val (.long x13_34), .second, .val (.long x15_46), .second, .val (.long z17), .second, .val (.ref ob2), .val (.long x20_101), .second, .val (.long (x15_46 * x11_23)), .second] [(.long x20_101)])
    refine own_go (fun _ => XS.lconst X4.here hx rfl (hb hby at_143)) ?_
    show own_G p e below Φ T4 (mkF m 144 #[.val (.long ax), .second, .val (.long bx), .second, .val (.long cx), .second, .val (.int md), .val (.long (9007199254740992 : Int64)), .second, .val (.long x9_11), .second, .val (.long x11_23), .second, .val (.long x13_34), .second, .val (.long x15_46), .second, .val (.long z17), .second, .val (.ref ob2), .val (.long x20_101), .second, .val (.long (x15_46 * x11_23)), .second] [(.long (1 : Int64)), (.long x20_101)])
    refine own_go (fun _ => XS.lsub X4.here hx rfl (hb hby at_144) rfl) ?_
    show own_G p e below Φ T4 (mkF m 145 #[.val (.long ax), .second, .val (.long bx), .second, .val (.long cx), .second, .val (.int md), .val (.long (9007199254740992 : Int64)), .second, .val (.long x9_11), .second, .val (.long x11_23), .second, .val (.long x13_34), .second, .val (.long x15_46), .second, .val (.long z17), .second, .val (.ref ob2), .val (.long x20_101), .second, .val (.long (x15_46 * x11_23)), .second] [(.long (x20_101 - (1 : Int64)))])
    refine own_go (fun _ => XS.lload X4.here hx rfl (hb hby at_145) rfl) ?_
    show own_G p e below Φ T4 (mkF m 147 #[.val (.long ax), .second, .val (.long bx), .second, .val (.long cx), .second, .val (.int md), .val (.long (9007199254740992 : Int64)), .second, .val (.long x9_11), .second, .val (.long x11_23), .second, .val (.long x13_34), .second, .val (.long x15_46), .second, .val (.long z17), .second, .val (.ref ob2), .val (.long x20_101), .second, .val (.long (x15_46 * x11_23)), .second] [(.long z17), (.long (x20_101 - (1 : Int64)))])
    refine own_go (fun _ => XS.lmul X4.here hx rfl (hb hby at_147) rfl) ?_
    show own_G p e below Φ T4 (mkF m 148 #[.val (.long ax), .second, .val (.long bx), .second, .val (.long cx), .second, .val (.int md), .val (.long (9007199254740992 : Int64)), .second, .val (.long x9_11), .second, .val (.long x11_23), .second, .val (.long x13_34), .second, .val (.long x15_46), .second, .val (.long z17), .second, .val (.ref ob2), .val (.long x20_101), .second, .val (.long (x15_46 * x11_23)), .second] [(.long ((x20_101 - (1 : Int64)) * z17))])
    refine own_go (fun _ => XS.lload X4.here hx rfl (hb hby at_148) rfl) ?_
    show own_G p e below Φ T4 (mkF m 150 #[.val (.long ax), .second, .val (.long bx), .second, .val (.long cx), .second, .val (.int md), .val (.long (9007199254740992 : Int64)), .second, .val (.long x9_11), .second, .val (.long x11_23), .second, .val (.long x13_34), .second, .val (.long x15_46), .second, .val (.long z17), .second, .val (.ref ob2), .val (.long x20_101), .second, .val (.long (x15_46 * x11_23)), .second] [(.long (x15_46 * x11_23)), (.long ((x20_101 - (1 : Int64)) * z17))])
    refine own_go (fun _ => XS.lcmp X4.here hx rfl (hb hby at_150) rfl) ?_
    show own_G p e below Φ T4 (mkF m 151 #[.val (.long ax), .second, .val (.long bx), .second, .val (.long cx), .second, .val (.int md), .val (.long (9007199254740992 : Int64)), .second, .val (.long x9_11), .second, .val (.long x11_23), .second, .val (.long x13_34), .second, .val (.long x15_46), .second, .val (.long z17), .second, .val (.ref ob2), .val (.long x20_101), .second, .val (.long (x15_46 * x11_23)), .second] [(.int (lcmpW ((x20_101 - (1 : Int64)) * z17) (x15_46 * x11_23)))])
    refine own_go (fun _ => XS.ifNo X4.here hx rfl (hb hby at_151) rfl (Jvm.Free.XT.ll_ge_f (Int64.lt_iff_toInt_lt.mpr hup.2.2.2))) ?_
    show own_G p e below Φ T4 (mkF m 154 #[.val (.long ax), .second, .val (.long bx), .second, .val (.long cx), .second, .val (.int md), .val (.long (9007199254740992 : Int64)), .second, .val (.long x9_11), .second, .val (.long x11_23), .second, .val (.long x13_34), .second, .val (.long x15_46), .second, .val (.long z17), .second, .val (.ref ob2), .val (.long x20_101), .second, .val (.long (x15_46 * x11_23)), .second] [])
    refine own_go (fun _ => XS.iconst X4.here hx rfl (hb hby at_154)) ?_
    show own_G p e below Φ T4 (mkF m 155 #[.val (.long ax), .second, .val (.long bx), .second, .val (.long cx), .second, .val (.int md), .val (.long (9007199254740992 : Int64)), .second, .val (.long x9_11), .second, .val (.long x11_23), .second, .val (.long x13_34), .second, .val (.long x15_46), .second, .val (.long z17), .second, .val (.ref ob2), .val (.long x20_101), .second, .val (.long (x15_46 * x11_23)), .second] [(.int (1 : Int32))])
    refine own_go (fun _ => XS.goto X4.here hx rfl (pc0 := 155) (pc' := 159) rfl (hb hby at_155) (by decide) (by decide)) ?_
    show own_G p e below Φ T4 (mkF m 159 #[.val (.long ax), .second, .val (.long bx), .second, .val (.long cx), .second, .val (.int md), .val (.long (9007199254740992 : Int64)), .second, .val (.long x9_11), .second, .val (.long x11_23), .second, .val (.long x13_34), .second, .val (.long x15_46), .second, .val (.long z17), .second, .val (.ref ob2), .val (.long x20_101), .second, .val (.long (x15_46 * x11_23)), .second] [(.int (1 : Int32))])
    rw [hΦ]
    refine own_retW X4 hS3 (by rw [hs4]; exact (Nat.le_refl _)) (v := some (.int (1 : Int32))) (fun h => by rw [Bd.returns] at h; cases h) (BodyLoose.notSynchronized Bd) (fun fs hr => retN X4 hx (t := .boolean) Bd.returns (by simp) (hb hby at_159) hr) ?_ (by decide) (by decide)
    rw [hs4]
    exact ⟨rfl, N4⟩
  by_cases hc52 : (md &&& (1 : Int32)) = (0 : Int32)
  · refine own_go (fun _ => XS.ifYes X0.here hx rfl (pc0 := 52) (pc' := 68) rfl (hb hby at_52) rfl (Jvm.Free.XT.i0_eq_t hc52) (by decide) (by decide)) ?_
    show own_G p e below Φ s₁ (mkF m 68 #[.val (.long ax), .second, .val (.long bx), .second, .val (.long cx), .second, .val (.int md), .val (.long (9007199254740992 : Int64)), .second, .val (.long x9_11), .second, .val (.long x11_23), .second, .val (.long x13_34), .second, .val (.long x15_46), .second, .unset, .unset, .unset, .unset, .unset, .unset, .unset] [])
    refine own_go (fun _ => XS.lconst X0.here hx rfl (hb hby at_68)) ?_
    show own_G p e below Φ s₁ (mkF m 69 #[.val (.long ax), .second, .val (.long bx), .second, .val (.long cx), .second, .val (.int md), .val (.long (9007199254740992 : Int64)), .second, .val (.long x9_11), .second, .val (.long x11_23), .second, .val (.long x13_34), .second, .val (.long x15_46), .second, .unset, .unset, .unset, .unset, .unset, .unset, .unset] [(.long (1 : Int64))])
    refine own_go (fun _ => XS.lload X0.here hx rfl (hb hby at_69) rfl) ?_
    show own_G p e below Φ s₁ (mkF m 71 #[.val (.long ax), .second, .val (.long bx), .second, .val (.long cx), .second, .val (.int md), .val (.long (9007199254740992 : Int64)), .second, .val (.long x9_11), .second, .val (.long x11_23), .second, .val (.long x13_34), .second, .val (.long x15_46), .second, .unset, .unset, .unset, .unset, .unset, .unset, .unset] [(.long cx), (.long (1 : Int64))])
    refine own_go (fun _ => X0.ldc2Long hx hown (mvT hZ (wd_2 hw)) (g := (mkF m 71 #[.val (.long ax), .second, .val (.long bx), .second, .val (.long cx), .second, .val (.int md), .val (.long (9007199254740992 : Int64)), .second, .val (.long x9_11), .second, .val (.long x11_23), .second, .val (.long x13_34), .second, .val (.long x15_46), .second, .unset, .unset, .unset, .unset, .unset, .unset, .unset] [(.long cx), (.long (1 : Int64))])) rfl (hb hby at_71) _) ?_
    show own_G p e below Φ s₁ (mkF m 74 #[.val (.long ax), .second, .val (.long bx), .second, .val (.long cx), .second, .val (.int md), .val (.long (9007199254740992 : Int64)), .second, .val (.long x9_11), .second, .val (.long x11_23), .second, .val (.long x13_34), .second, .val (.long x15_46), .second, .unset, .unset, .unset, .unset, .unset, .unset, .unset] [(.long (9223372036854775807 : Int64)), (.long cx), (.long (1 : Int64))])
    refine own_go (fun _ => XS.land X0.here hx rfl (hb hby at_74) rfl) ?_
    show own_G p e below Φ s₁ (mkF m 75 #[.val (.long ax), .second, .val (.long bx), .second, .val (.long cx), .second, .val (.int md), .val (.long (9007199254740992 : Int64)), .second, .val (.long x9_11), .second, .val (.long x11_23), .second, .val (.long x13_34), .second, .val (.long x15_46), .second, .unset, .unset, .unset, .unset, .unset, .unset, .unset] [(.long (cx &&& (9223372036854775807 : Int64))), (.long (1 : Int64))])
    refine own_go (fun _ => XS.lload X0.here hx rfl (hb hby at_75) rfl) ?_
    show own_G p e below Φ s₁ (mkF m 77 #[.val (.long ax), .second, .val (.long bx), .second, .val (.long cx), .second, .val (.int md), .val (.long (9007199254740992 : Int64)), .second, .val (.long x9_11), .second, .val (.long x11_23), .second, .val (.long x13_34), .second, .val (.long x15_46), .second, .unset, .unset, .unset, .unset, .unset, .unset, .unset] [(.long (9007199254740992 : Int64)), (.long (cx &&& (9223372036854775807 : Int64))), (.long (1 : Int64))])
    refine own_go (fun _ => own_lremM X0 hx rfl (hb hby at_77) rfl (by decide)) ?_
    show own_G p e below Φ s₁ (mkF m 78 #[.val (.long ax), .second, .val (.long bx), .second, .val (.long cx), .second, .val (.int md), .val (.long (9007199254740992 : Int64)), .second, .val (.long x9_11), .second, .val (.long x11_23), .second, .val (.long x13_34), .second, .val (.long x15_46), .second, .unset, .unset, .unset, .unset, .unset, .unset, .unset] [(.long ((cx &&& (9223372036854775807 : Int64)) % (9007199254740992 : Int64))), (.long (1 : Int64))])
    refine own_go (fun _ => XS.ladd X0.here hx rfl (hb hby at_78) rfl) ?_
    show own_G p e below Φ s₁ (mkF m 79 #[.val (.long ax), .second, .val (.long bx), .second, .val (.long cx), .second, .val (.int md), .val (.long (9007199254740992 : Int64)), .second, .val (.long x9_11), .second, .val (.long x11_23), .second, .val (.long x13_34), .second, .val (.long x15_46), .second, .unset, .unset, .unset, .unset, .unset, .unset, .unset] [(.long ((1 : Int64) + ((cx &&& (9223372036854775807 : Int64)) % (9007199254740992 : Int64))))])
    refine own_go (fun _ => XS.lstore X0.here hx rfl (hb hby at_79) rfl (l' := #[.val (.long ax), .second, .val (.long bx), .second, .val (.long cx), .second, .val (.int md), .val (.long (9007199254740992 : Int64)), .second, .val (.long x9_11), .second, .val (.long x11_23), .second, .val (.long x13_34), .second, .val (.long x15_46), .second, .val (.long ((1 : Int64) + ((cx &&& (9223372036854775807 : Int64)) % (9007199254740992 : Int64)))), .second, .unset, .unset, .unset, .unset, .unset]) rfl) ?_
    show own_G p e below Φ s₁ (mkF m 81 #[.val (.long ax), .second, .val (.long bx), .second, .val (.long cx), .second, .val (.int md), .val (.long (9007199254740992 : Int64)), .second, .val (.long x9_11), .second, .val (.long x11_23), .second, .val (.long x13_34), .second, .val (.long x15_46), .second, .val (.long ((1 : Int64) + ((cx &&& (9223372036854775807 : Int64)) % (9007199254740992 : Int64)))), .second, .unset, .unset, .unset, .unset, .unset] [])
    generalize hx17_79 : ((1 : Int64) + ((cx &&& (9223372036854775807 : Int64)) % (9007199254740992 : Int64))) = x17_79
    exact hJ81_1 _ X0 e0 _ (own_rg2 hx17_79)
  · refine own_go (fun _ => XS.ifNo X0.here hx rfl (hb hby at_52) rfl (Jvm.Free.XT.i0_eq_f hc52)) ?_
    show own_G p e below Φ s₁ (mkF m 55 #[.val (.long ax), .second, .val (.long bx), .second, .val (.long cx), .second, .val (.int md), .val (.long (9007199254740992 : Int64)), .second, .val (.long x9_11), .second, .val (.long x11_23), .second, .val (.long x13_34), .second, .val (.long x15_46), .second, .unset, .unset, .unset, .unset, .unset, .unset, .unset] [])
    refine own_go (fun _ => XS.lconst X0.here hx rfl (hb hby at_55)) ?_
    show own_G p e below Φ s₁ (mkF m 56 #[.val (.long ax), .second, .val (.long bx), .second, .val (.long cx), .second, .val (.int md), .val (.long (9007199254740992 : Int64)), .second, .val (.long x9_11), .second, .val (.long x11_23), .second, .val (.long x13_34), .second, .val (.long x15_46), .second, .unset, .unset, .unset, .unset, .unset, .unset, .unset] [(.long (1 : Int64))])
    refine own_go (fun _ => XS.lload X0.here hx rfl (hb hby at_56) rfl) ?_
    show own_G p e below Φ s₁ (mkF m 58 #[.val (.long ax), .second, .val (.long bx), .second, .val (.long cx), .second, .val (.int md), .val (.long (9007199254740992 : Int64)), .second, .val (.long x9_11), .second, .val (.long x11_23), .second, .val (.long x13_34), .second, .val (.long x15_46), .second, .unset, .unset, .unset, .unset, .unset, .unset, .unset] [(.long cx), (.long (1 : Int64))])
    refine own_go (fun _ => X0.ldc2Long hx hown (mvT hZ (wd_47 hw)) (g := (mkF m 58 #[.val (.long ax), .second, .val (.long bx), .second, .val (.long cx), .second, .val (.int md), .val (.long (9007199254740992 : Int64)), .second, .val (.long x9_11), .second, .val (.long x11_23), .second, .val (.long x13_34), .second, .val (.long x15_46), .second, .unset, .unset, .unset, .unset, .unset, .unset, .unset] [(.long cx), (.long (1 : Int64))])) rfl (hb hby at_58) _) ?_
    show own_G p e below Φ s₁ (mkF m 61 #[.val (.long ax), .second, .val (.long bx), .second, .val (.long cx), .second, .val (.int md), .val (.long (9007199254740992 : Int64)), .second, .val (.long x9_11), .second, .val (.long x11_23), .second, .val (.long x13_34), .second, .val (.long x15_46), .second, .unset, .unset, .unset, .unset, .unset, .unset, .unset] [(.long (65535 : Int64)), (.long cx), (.long (1 : Int64))])
    refine own_go (fun _ => XS.land X0.here hx rfl (hb hby at_61) rfl) ?_
    show own_G p e below Φ s₁ (mkF m 62 #[.val (.long ax), .second, .val (.long bx), .second, .val (.long cx), .second, .val (.int md), .val (.long (9007199254740992 : Int64)), .second, .val (.long x9_11), .second, .val (.long x11_23), .second, .val (.long x13_34), .second, .val (.long x15_46), .second, .unset, .unset, .unset, .unset, .unset, .unset, .unset] [(.long (cx &&& (65535 : Int64))), (.long (1 : Int64))])
    refine own_go (fun _ => XS.ladd X0.here hx rfl (hb hby at_62) rfl) ?_
    show own_G p e below Φ s₁ (mkF m 63 #[.val (.long ax), .second, .val (.long bx), .second, .val (.long cx), .second, .val (.int md), .val (.long (9007199254740992 : Int64)), .second, .val (.long x9_11), .second, .val (.long x11_23), .second, .val (.long x13_34), .second, .val (.long x15_46), .second, .unset, .unset, .unset, .unset, .unset, .unset, .unset] [(.long ((1 : Int64) + (cx &&& (65535 : Int64))))])
    refine own_go (fun _ => XS.lstore X0.here hx rfl (hb hby at_63) rfl (l' := #[.val (.long ax), .second, .val (.long bx), .second, .val (.long cx), .second, .val (.int md), .val (.long (9007199254740992 : Int64)), .second, .val (.long x9_11), .second, .val (.long x11_23), .second, .val (.long x13_34), .second, .val (.long x15_46), .second, .val (.long ((1 : Int64) + (cx &&& (65535 : Int64)))), .second, .unset, .unset, .unset, .unset, .unset]) rfl) ?_
    show own_G p e below Φ s₁ (mkF m 65 #[.val (.long ax), .second, .val (.long bx), .second, .val (.long cx), .second, .val (.int md), .val (.long (9007199254740992 : Int64)), .second, .val (.long x9_11), .second, .val (.long x11_23), .second, .val (.long x13_34), .second, .val (.long x15_46), .second, .val (.long ((1 : Int64) + (cx &&& (65535 : Int64)))), .second, .unset, .unset, .unset, .unset, .unset] [])
    generalize hx17_63 : ((1 : Int64) + (cx &&& (65535 : Int64))) = x17_63
    show own_G p e below Φ s₁ (mkF m 65 #[.val (.long ax), .second, .val (.long bx), .second, .val (.long cx), .second, .val (.int md), .val (.long (9007199254740992 : Int64)), .second, .val (.long x9_11), .second, .val (.long x11_23), .second, .val (.long x13_34), .second, .val (.long x15_46), .second, .val (.long x17_63), .second, .unset, .unset, .unset, .unset, .unset] [])
    refine own_go (fun _ => XS.goto X0.here hx rfl (pc0 := 65) (pc' := 81) rfl (hb hby at_65) (by decide) (by decide)) ?_
    exact hJ81_1 _ X0 e0 _ (own_rg1 hx17_63)
set_option maxRecDepth 65536 in
set_option maxHeartbeats 40000000 in
theorem comes_1 {Post : Tables → Env → Array Value → State → Outcome → State → Prop} (hpost : ∀ tb e args s v u, (limb_1_1.after args s (.returned v) u = true ∧ limb_1_2.after args s (.returned v) u = true ∧ True) → ReturnedEndW s (.returned v) u (Jvm.fieldLocs frame_1_writes args s ++ Jvm.arrayLocs frame_1_arrays args s ++ Jvm.staticLocs frame_1_statics s) 16 1152 → Post tb e args s (.returned v) u) :
    ArmFor flags0 classFile x code maxLocals ret World_1 tables_1 room_1 Calls_1 rest_1 Pre_1 Post := by
  intro l hfl _ _ p e ha hc hk s m args below hf hA hF happ hP
  obtain ⟨hcalls, hrest, hpre⟩ := hP
  obtain ⟨-, -, -, hnamed, -, -, -, hat⟩ := (Spec.applies_iff hf).mp happ
  obtain ⟨hg, hn⟩ := and_e (Cond.before_iff.mp (show (Jvm.Cond.and given_1 narrow_1).before args s = true from hpre))
  obtain ⟨g1, g2⟩ := and_e hg
  obtain ⟨g3, g4⟩ := and_e g2
  obtain ⟨g5, g6⟩ := and_e g4
  obtain ⟨g7, g8⟩ := and_e g6
  obtain ⟨w0, w1, w2, w3, rfl⟩ : ∃ w0 w1 w2 w3 : Value, args = #[w0, w1, w2, w3] := by
    have hs : args.size = 4 := by simpa [Cond.value, given_1] using g1
    obtain ⟨L⟩ := args
    match L, hs with
    | [w0, w1, w2, w3], _ => exact ⟨w0, w1, w2, w3, rfl⟩
  have hw := fun d (hd : d ∈ tables_1) => atoms_spec (ws := Jvm.Cond.code x code maxLocals ret :: tables_1) hat d (List.mem_cons_of_mem _ hd)
  obtain ⟨i0, ei0⟩ := isL_v g3
  obtain rfl : w0 = (.long i0) := Option.some.inj ei0
  obtain ⟨i1, ei1⟩ := isL_v g5
  obtain rfl : w1 = (.long i1) := Option.some.inj ei1
  obtain ⟨i2, ei2⟩ := isL_v g7
  obtain rfl : w2 = (.long i2) := Option.some.inj ei2
  obtain ⟨i3, ei3⟩ := is_v g8
  obtain rfl : w3 = (.int i3) := Option.some.inj ei3
  obtain ⟨n, o, h1, h2, h3, _, L, rfl, ⟨rfl, N⟩, hq⟩ := rm0 l s _ hw tables_1 i0 i1 i2 i3 s.heap s.heap.size (Nat.le_refl _)  p e ha hc hk s m _ below hf ((Spec.applies_iff_loose hf).mp happ).1 ⟨rfl, State.Warmed39.refl s, rfl⟩ trivial
  refine ⟨n, _, h1, h2, h3, hpost _ _ _ _ _ _ ⟨Cond.after_iff.mpr rfl, Cond.after_iff.mpr (eq_i res_at (Term.int_eval (1)) rfl), trivial⟩ ⟨hq.1, hq.2.1, hq.2.2.1, (hq.2.2.2.sift fun y hy => Or.inr (N y hy)).mono (by decide) (by decide)⟩⟩
theorem main_1_1 : Claimed_1_1 := comes_1 fun _ _ _ _ _ _ h hF => ⟨h.1, hF⟩
theorem main_1_2 : Claimed_1_2 := comes_1 fun _ _ _ _ _ _ h hF => ⟨h.2.1, hF⟩
end Jvm.Pilot.@@N@@
namespace Jvm.Pilot.@@N@@
open Jvm Jvm.ClassFile Sem Op Lib Jvm.Free Jvm.Stand Jvm.Pilot.@@N@@.Jvm.D
/-! MADE BY PROGRAM (witnessworld.py) out of the Statement's table words and the real class files: 17 classes; the members and pool entries that the words name. The judged class is class 1, her method 1. -/
namespace start1
open Jvm.ClassFile
def u (s : String) : CpInfo := .utf8 (stringToUtf16 s)
/-- a pool by its gaps: so many unusable entries, then the entry; so many at the end -/
def gap : Nat → List CpInfo → List CpInfo
  | 0, r => r
  | n + 1, r => .unusable :: gap n r
def poolList (es : List (Nat × CpInfo)) (last : Nat) : List CpInfo := es.foldr (fun e r => gap e.1 (e.2 :: r)) (gap last [])
def pool (es : List (Nat × CpInfo)) (last : Nat) : Array CpInfo := ⟨poolList es last⟩
def fileOf (pool : Array CpInfo) (this : Nat) (attrs : Array Attribute := #[]) (ms : Array MethodInfo := #[]) (fl : Nat := 33) (sup : Nat := 0) (ifs : Array Nat := #[]) (fds : Array FieldInfo := #[]) : ClassFile where
  minorVersion := 0
  majorVersion := 65
  constantPool := pool
  accessFlags := fl
  thisClass := this
  superClass := sup
  interfaces := ifs
  fields := fds
  methods := ms
  attributes := attrs
def plain (name : String) (sup : Option ClassId) : Class where
  name := name
  kind := .ordinary
  loader := none
  accessFlags := 33
  super := sup
  interfaces := #[]
  cf := none
  fields := #[]
  methods := #[]
  instanceTypes := #[]
  staticTypes := #[]
  resolved := #[]
  callSites := []
  init := .initialized
  statics := none
  mirror := none

def pool0 : Array CpInfo := pool [(5, u "<init>"), (0, u "()V"), (1, .class_ 10), (1, u "java/lang/Object")] 113

def k0c0 : Code := { maxStack := 0, maxLocals := 1, code := object_method_1_code, exceptionTable := #[], attributes := #[] }
def k0m0 : Method := { name := "<init>", desc := "()V", sig := { parameters := [], returnType := none }, accessFlags := 1, code := some k0c0 }
/-- java/lang/Object -/
def k0 : Class := { plain "java/lang/Object" none with
  accessFlags := 33
  interfaces := #[]
  cf := some (fileOf pool0 8 #[] #[{ accessFlags := 1, nameIndex := 5, descriptorIndex := 6, attributes := #[] }] 33 0 #[] #[])
  fields := #[]
  methods := #[k0m0]
  instanceTypes := #[]
  staticTypes := #[]
  resolved := Array.replicate 124 none
  statics := none }

def pool1 : Array CpInfo := pool [(2, .class_ 4), (1, u "java/lang/Object"), (0, u "<init>"), (0, u "()V"), (0, .long 9007199254740992), (1, .long 1000), (3, .long 9223372036854775807), (1, .long 65535), (1, .class_ 18), (0, u "com/example/enough_per_caller/enoughpercaller/TokenBucket"), (0, .methodref 17 20), (0, .nameAndType 5 21), (0, u "(JJJ)V"), (0, .methodref 17 23), (0, .nameAndType 24 25), (0, u "windowSeconds"), (0, u "()J"), (0, .class_ 27), (0, u "com/example/enough_per_caller/enoughpercaller/TokenBucketWindowSecondsPinLaw"), (2, u "law"), (0, u "(JJJI)Z")] 3

def k1m0 : Method := { name := "<init>", desc := "()V", sig := { parameters := [], returnType := none }, accessFlags := 1, code := none }
def k1c1 : Code := { maxStack := 8, maxLocals := 24, code := code, exceptionTable := #[], attributes := #[] }
def k1m1 : Method := { name := "law", desc := "(JJJI)Z", sig := { parameters := [.long, .long, .long, .int], returnType := some .boolean }, accessFlags := 9, code := some k1c1 }
/-- com/example/enough_per_caller/enoughpercaller/TokenBucketWindowSecondsPinLaw -/
def k1 : Class := { plain "com/example/enough_per_caller/enoughpercaller/TokenBucketWindowSecondsPinLaw" (some 0) with
  accessFlags := 49
  interfaces := #[]
  cf := some (fileOf pool1 26 #[] #[{ accessFlags := 1, nameIndex := 5, descriptorIndex := 6, attributes := #[] }, { accessFlags := 9, nameIndex := 30, descriptorIndex := 31, attributes := #[] }] 49 2 #[] #[])
  fields := #[]
  methods := #[k1m0, k1m1]
  instanceTypes := #[]
  staticTypes := #[]
  resolved := Array.replicate 35 none
  statics := none }

def pool2 : Array CpInfo := pool [(1, .methodref 2 3), (0, .class_ 4), (0, .nameAndType 5 6), (0, u "java/lang/Object"), (0, u "<init>"), (0, u "()V"), (0, .class_ 8), (0, u "java/lang/Record")] 13

def k2c0 : Code := { maxStack := 1, maxLocals := 1, code := jdk_30_method_1_code, exceptionTable := #[], attributes := #[] }
def k2m0 : Method := { name := "<init>", desc := "()V", sig := { parameters := [], returnType := none }, accessFlags := 4, code := some k2c0 }
/-- java/lang/Record -/
def k2 : Class := { plain "java/lang/Record" (some 0) with
  accessFlags := 1057
  interfaces := #[]
  cf := some (fileOf pool2 7 #[] #[{ accessFlags := 4, nameIndex := 5, descriptorIndex := 6, attributes := #[] }] 1057 2 #[] #[])
  fields := #[]
  methods := #[k2m0]
  instanceTypes := #[]
  staticTypes := #[]
  resolved := Array.replicate 22 none
  statics := none }

def pool3 : Array CpInfo := pool [(1, .class_ 2), (0, u "com/example/enough_per_caller/enoughpercaller/Algorithm"), (0, .class_ 4), (0, u "java/lang/Object"), (0, u "MAX_EXACT"), (0, u "J")] 17

/-- com/example/enough_per_caller/enoughpercaller/Algorithm -/
def k3 : Class := { plain "com/example/enough_per_caller/enoughpercaller/Algorithm" (some 0) with
  accessFlags := 1537
  interfaces := #[]
  cf := some (fileOf pool3 1 #[] #[] 1537 3 #[] #[{ accessFlags := 25, nameIndex := 5, descriptorIndex := 6, attributes := #[] }])
  fields := #[{ name := "MAX_EXACT", type := .long, accessFlags := 25, slot := 0, constantValue := 0 }]
  methods := #[]
  instanceTypes := #[]
  staticTypes := #[.long]
  resolved := Array.replicate 24 none
  statics := none }

def pool4 : Array CpInfo := pool [(1, .methodref 2 3), (0, .class_ 4), (0, .nameAndType 5 6), (0, u "java/lang/Record"), (0, u "<init>"), (0, u "()V"), (7, .class_ 15), (0, u "com/example/enough_per_caller/enoughpercaller/Algorithm"), (0, .class_ 17), (0, u "com/example/enough_per_caller/enoughpercaller/ExactRange"), (0, .long 9007199254740), (1, .long 9007199254740992), (1, .long 1000), (5, .string 29), (0, u "refillTokens"), (0, .methodref 16 31), (0, .nameAndType 32 33), (0, u "requireExact"), (0, u "(Ljava/lang/String;J)V"), (0, .fieldref 35 36), (0, .class_ 37), (0, .nameAndType 38 39), (0, u "com/example/enough_per_caller/enoughpercaller/TokenBucket"), (0, u "capacity"), (0, u "J"), (0, .fieldref 35 41), (0, .nameAndType 29 39), (0, .fieldref 35 43), (0, .nameAndType 44 39), (0, u "refillPeriodSeconds"), (3, u "()J"), (5, .class_ 56), (1, u "com/example/enough_per_caller/enoughpercaller/TokenBucket$State"), (4, .methodref 35 62), (0, .nameAndType 63 64), (0, u "ceilDiv"), (0, u "(JJ)J"), (31, u "(JJJ)V"), (25, u "windowSeconds")] 52

def k4c0 : Code := { maxStack := 8, maxLocals := 7, code := prog_23_method_1_code, exceptionTable := #[], attributes := #[] }
def k4m0 : Method := { name := "<init>", desc := "(JJJ)V", sig := { parameters := [.long, .long, .long], returnType := none }, accessFlags := 1, code := some k4c0 }
def k4c1 : Code := { maxStack := 4, maxLocals := 1, code := prog_23_method_5_code, exceptionTable := #[], attributes := #[] }
def k4m1 : Method := { name := "windowSeconds", desc := "()J", sig := { parameters := [], returnType := some .long }, accessFlags := 1, code := some k4c1 }
def k4c2 : Code := { maxStack := 6, maxLocals := 4, code := prog_23_method_9_code, exceptionTable := #[], attributes := #[] }
def k4m2 : Method := { name := "ceilDiv", desc := "(JJ)J", sig := { parameters := [.long, .long], returnType := some .long }, accessFlags := 10, code := some k4c2 }
/-- com/example/enough_per_caller/enoughpercaller/TokenBucket -/
def k4 : Class := { plain "com/example/enough_per_caller/enoughpercaller/TokenBucket" (some 2) with
  accessFlags := 49
  interfaces := #[3]
  cf := some (fileOf pool4 35 #[.nestMembers #[54]] #[{ accessFlags := 1, nameIndex := 5, descriptorIndex := 96, attributes := #[] }, { accessFlags := 1, nameIndex := 122, descriptorIndex := 48, attributes := #[] }, { accessFlags := 10, nameIndex := 63, descriptorIndex := 64, attributes := #[] }] 49 2 #[14] #[{ accessFlags := 18, nameIndex := 38, descriptorIndex := 39, attributes := #[] }, { accessFlags := 18, nameIndex := 29, descriptorIndex := 39, attributes := #[] }, { accessFlags := 18, nameIndex := 44, descriptorIndex := 39, attributes := #[] }])
  fields := #[{ name := "capacity", type := .long, accessFlags := 18, slot := 0, constantValue := 0 }, { name := "refillTokens", type := .long, accessFlags := 18, slot := 1, constantValue := 0 }, { name := "refillPeriodSeconds", type := .long, accessFlags := 18, slot := 2, constantValue := 0 }]
  methods := #[k4m0, k4m1, k4m2]
  instanceTypes := #[.long, .long, .long]
  staticTypes := #[]
  resolved := Array.replicate 175 none
  statics := none }

def pool5 : Array CpInfo := pool [(1, .class_ 2), (0, u "java/io/Serializable"), (0, .class_ 4), (0, u "java/lang/Object")] 2

/-- java/io/Serializable -/
def k5 : Class := { plain "java/io/Serializable" (some 0) with
  accessFlags := 1537
  interfaces := #[]
  cf := some (fileOf pool5 1 #[] #[] 1537 3 #[] #[])
  fields := #[]
  methods := #[]
  instanceTypes := #[]
  staticTypes := #[]
  resolved := Array.replicate 7 none
  statics := none }

def pool6 : Array CpInfo := pool [(1, .class_ 2), (0, u "java/lang/Comparable"), (0, .class_ 4), (0, u "java/lang/Object")] 7

/-- java/lang/Comparable -/
def k6 : Class := { plain "java/lang/Comparable" (some 0) with
  accessFlags := 1537
  interfaces := #[]
  cf := some (fileOf pool6 1 #[] #[] 1537 3 #[] #[])
  fields := #[]
  methods := #[]
  instanceTypes := #[]
  staticTypes := #[]
  resolved := Array.replicate 12 none
  statics := none }

def pool7 : Array CpInfo := pool [(2, .class_ 4), (1, u "java/lang/CharSequence"), (42, .class_ 48), (0, u "java/lang/CharSequence$1CodePointIterator"), (10, .class_ 60), (0, u "java/lang/CharSequence$1CharIterator"), (5, .class_ 67), (0, u "java/lang/Object")] 63

/-- java/lang/CharSequence -/
def k7 : Class := { plain "java/lang/CharSequence" (some 0) with
  accessFlags := 1537
  interfaces := #[]
  cf := some (fileOf pool7 2 #[.nestMembers #[47, 59]] #[] 1537 66 #[] #[])
  fields := #[]
  methods := #[]
  instanceTypes := #[]
  staticTypes := #[]
  resolved := Array.replicate 131 none
  statics := none }

def pool8 : Array CpInfo := pool [(1, .class_ 2), (0, u "java/lang/constant/Constable"), (0, .class_ 4), (0, u "java/lang/Object")] 6

/-- java/lang/constant/Constable -/
def k8 : Class := { plain "java/lang/constant/Constable" (some 0) with
  accessFlags := 1537
  interfaces := #[]
  cf := some (fileOf pool8 1 #[] #[] 1537 3 #[] #[])
  fields := #[]
  methods := #[]
  instanceTypes := #[]
  staticTypes := #[]
  resolved := Array.replicate 11 none
  statics := none }

def pool9 : Array CpInfo := pool [(1, .class_ 2), (0, u "java/lang/constant/ConstantDesc"), (0, .class_ 4), (0, u "java/lang/Object")] 32

/-- java/lang/constant/ConstantDesc -/
def k9 : Class := { plain "java/lang/constant/ConstantDesc" (some 0) with
  accessFlags := 1537
  interfaces := #[]
  cf := some (fileOf pool9 1 #[] #[] 1537 3 #[] #[])
  fields := #[]
  methods := #[]
  instanceTypes := #[]
  staticTypes := #[]
  resolved := Array.replicate 37 none
  statics := none }

def pool10 : Array CpInfo := pool [(2, .class_ 4), (1, u "java/lang/Object"), (0, u "<init>"), (0, u "()V"), (3, .class_ 12), (1, u "java/lang/String"), (0, u "value"), (0, u "[B"), (2, u "coder"), (0, u "B"), (2, u "hash"), (0, u "I"), (2, u "hashIsZero"), (0, u "Z"), (13, u "COMPACT_STRINGS"), (534, .class_ 576), (0, u "java/lang/CharSequence"), (22, u "CASE_INSENSITIVE_ORDER"), (0, u "Ljava/util/Comparator;"), (500, u "serialPersistentFields"), (0, u "[Ljava/io/ObjectStreamField;"), (0, .class_ 1104), (0, u "java/lang/String$CaseInsensitiveComparator"), (1, .class_ 1107), (0, u "java/io/Serializable"), (0, .class_ 1109), (0, u "java/lang/Comparable"), (0, .class_ 1111), (0, u "java/lang/constant/Constable"), (0, .class_ 1113), (0, u "java/lang/constant/ConstantDesc"), (2, u "serialVersionUID"), (0, u "J"), (3, u "REPL"), (0, u "C"), (2, u "LATIN1"), (1, u "UTF16")] 323

def k10m0 : Method := { name := "<init>", desc := "()V", sig := { parameters := [], returnType := none }, accessFlags := 1, code := none }
/-- java/lang/String -/
def k10 : Class := { plain "java/lang/String" (some 0) with
  accessFlags := 49
  interfaces := #[5, 6, 7, 8, 9]
  cf := some (fileOf pool10 10 #[.nestMembers #[1103]] #[{ accessFlags := 1, nameIndex := 5, descriptorIndex := 6, attributes := #[] }] 49 2 #[1106, 1108, 575, 1110, 1112] #[{ accessFlags := 18, nameIndex := 13, descriptorIndex := 14, attributes := #[] }, { accessFlags := 18, nameIndex := 17, descriptorIndex := 18, attributes := #[] }, { accessFlags := 2, nameIndex := 21, descriptorIndex := 22, attributes := #[] }, { accessFlags := 2, nameIndex := 25, descriptorIndex := 26, attributes := #[] }, { accessFlags := 26, nameIndex := 1116, descriptorIndex := 1117, attributes := #[] }, { accessFlags := 24, nameIndex := 40, descriptorIndex := 26, attributes := #[] }, { accessFlags := 26, nameIndex := 1101, descriptorIndex := 1102, attributes := #[] }, { accessFlags := 26, nameIndex := 1121, descriptorIndex := 1122, attributes := #[] }, { accessFlags := 25, nameIndex := 599, descriptorIndex := 600, attributes := #[] }, { accessFlags := 24, nameIndex := 1125, descriptorIndex := 18, attributes := #[] }, { accessFlags := 24, nameIndex := 1127, descriptorIndex := 18, attributes := #[] }])
  fields := #[{ name := "value", type := (.array .byte), accessFlags := 18, slot := 0, constantValue := 0 }, { name := "coder", type := .byte, accessFlags := 18, slot := 1, constantValue := 0 }, { name := "hash", type := .int, accessFlags := 2, slot := 2, constantValue := 0 }, { name := "hashIsZero", type := .boolean, accessFlags := 2, slot := 3, constantValue := 0 }, { name := "serialVersionUID", type := .long, accessFlags := 26, slot := 0, constantValue := 0 }, { name := "COMPACT_STRINGS", type := .boolean, accessFlags := 24, slot := 1, constantValue := 0 }, { name := "serialPersistentFields", type := (.array (.object "java/io/ObjectStreamField")), accessFlags := 26, slot := 2, constantValue := 0 }, { name := "REPL", type := .char, accessFlags := 26, slot := 3, constantValue := 0 }, { name := "CASE_INSENSITIVE_ORDER", type := (.object "java/util/Comparator"), accessFlags := 25, slot := 4, constantValue := 0 }, { name := "LATIN1", type := .byte, accessFlags := 24, slot := 5, constantValue := 0 }, { name := "UTF16", type := .byte, accessFlags := 24, slot := 6, constantValue := 0 }]
  methods := #[k10m0]
  instanceTypes := #[(.array .byte), .byte, .int, .boolean]
  staticTypes := #[.long, .boolean, (.array (.object "java/io/ObjectStreamField")), .char, (.object "java/util/Comparator"), .byte, .byte]
  resolved := Array.replicate 1451 none
  statics := none }

def pool11 : Array CpInfo := pool [(2, .class_ 4), (1, u "java/lang/Object"), (0, u "<init>"), (0, u "()V"), (2, .long 9007199254740992), (10, .class_ 21), (0, u "com/example/enough_per_caller/enoughpercaller/ExactRange"), (36, u "MILLIS_PER_SECOND"), (0, u "J"), (5, u "requireExact"), (0, u "(Ljava/lang/String;J)V")] 23

def k11m0 : Method := { name := "<init>", desc := "()V", sig := { parameters := [], returnType := none }, accessFlags := 2, code := none }
def k11c1 : Code := { maxStack := 5, maxLocals := 3, code := prog_4_method_2_code, exceptionTable := #[], attributes := #[] }
def k11m1 : Method := { name := "requireExact", desc := "(Ljava/lang/String;J)V", sig := { parameters := [(.object "java/lang/String"), .long], returnType := none }, accessFlags := 8, code := some k11c1 }
/-- com/example/enough_per_caller/enoughpercaller/ExactRange -/
def k11 : Class := { plain "com/example/enough_per_caller/enoughpercaller/ExactRange" (some 0) with
  accessFlags := 32
  interfaces := #[]
  cf := some (fileOf pool11 20 #[] #[{ accessFlags := 2, nameIndex := 5, descriptorIndex := 6, attributes := #[] }, { accessFlags := 8, nameIndex := 65, descriptorIndex := 66, attributes := #[] }] 32 2 #[] #[{ accessFlags := 24, nameIndex := 58, descriptorIndex := 59, attributes := #[] }])
  fields := #[{ name := "MILLIS_PER_SECOND", type := .long, accessFlags := 24, slot := 0, constantValue := 0 }]
  methods := #[k11m0, k11m1]
  instanceTypes := #[]
  staticTypes := #[.long]
  resolved := Array.replicate 90 none
  statics := none }

def pool12 : Array CpInfo := pool [(1, u "java/lang/Cloneable"), (0, .class_ 1), (0, u "java/lang/Object"), (0, .class_ 3)] 3

/-- java/lang/Cloneable -/
def k12 : Class := { plain "java/lang/Cloneable" (some 0) with
  accessFlags := 1537
  interfaces := #[]
  cf := some (fileOf pool12 2 #[] #[] 1537 4 #[] #[])
  fields := #[]
  methods := #[]
  instanceTypes := #[]
  staticTypes := #[]
  resolved := Array.replicate 8 none
  statics := none }

/-- the primitive byte -/
def k13 : Class := { plain "byte" none with kind := .primitive 'B', accessFlags := 0x411 }
/-- [B -/
def k14 : Class := { plain "[B" (some 0) with kind := .array 13 .byte, interfaces := #[12, 5], accessFlags := 1041 }

/-- the primitive int -/
def k15 : Class := { plain "int" none with kind := .primitive 'I', accessFlags := 0x411 }
/-- [I -/
def k16 : Class := { plain "[I" (some 0) with kind := .array 15 .int, interfaces := #[12, 5], accessFlags := 1041 }

def heap : Heap := #[]
def classes : Array Class := #[k0, k1, k2, k3, k4, k5, k6, k7, k8, k9, k10, k11, k12, k13, k14, k15, k16]
def interned : List (Array UInt16 × Addr) := []
def slotsUsed : Nat := 0
def theMethod : MethodId := ⟨1, 1⟩
def args0 : Array Value := #[.long 5, .long 5, .long 5, .int 5]
def aboutOver (below : List Frame) : State where
  vm := { classes := classes, interned := interned.toArray }
  heap := heap
  slotsUsed := slotsUsed
  threads := #[{ frames := .invoking theMethod args0 :: below }]
def below0 : List Frame := [.native { method := ⟨0, 0⟩, args := #[] }]
def about1 : State := aboutOver below0
def p0 : Program := .bare "" "" ""
def e0 : Env := launch0.env 0 0 0
theorem w_frames : about1.frames = Frame.invoking theMethod args0 :: below0 := rfl
set_option maxRecDepth 65536 in
theorem w_args : argsFit about1.vm theMethod args0 = true := by decide +kernel
set_option maxRecDepth 65536 in
theorem w_heap : heapFits about1 = true := by decide +kernel
set_option maxRecDepth 65536 in
theorem w_runnable : about1.curStatus? = some .runnable := by decide +kernel
set_option maxRecDepth 65536 in
theorem w_alone : about1.alone = true := by decide +kernel
set_option maxRecDepth 65536 in
theorem w_named : about1.methodNamed? x = some theMethod := by decide +kernel
set_option maxRecDepth 65536 in
theorem w_hears : about1.hears theMethod below0 = true := by decide +kernel
set_option maxRecDepth 65536 in
theorem w_ripe : about1.ripe theMethod args0 below0 = true := by decide +kernel
theorem w_running : about1.status = .running := rfl
set_option maxRecDepth 65536 in
theorem w_room : about1.hasRoom e0.platform room_1 = true :=
  launch0.hasRoom_least _ room_1 (by decide +kernel) (by decide +kernel) (by decide +kernel) (by decide +kernel) (by decide +kernel) (by decide +kernel)
theorem allAtoms_all (ts : List Jvm.Cond) (a : Array Jvm.Value) (st : Jvm.State) : (allAtoms ts).before a st = ts.all (fun c => c.before a st) := by
  induction ts with
  | nil => rfl
  | cons c t ih =>
    show (Jvm.Cond.and c (allAtoms t)).before a st = _
    rw [Jvm.Cond.before_and, ih, List.all_cons]
def words1 : List Jvm.Cond := Jvm.Cond.code x code maxLocals ret :: tables_1
/-- a 'code' word, met by the world's own term for the bytes: nothing is compared byte by byte -/
theorem code_word {y : MethodName} {bytes : ByteArray} {mx : Nat} {rt : Option FieldType} {a : Array Value} {s : State} {m : MethodId} {meth : Method} {c : Code} (h1 : s.methodNamed? y = some m) (h2 : s.vm.method? m = some meth) (h3 : meth.code = some c) (h4 : c.code = bytes)
    (h5 : (c.maxLocals == mx && c.exceptionTable.isEmpty && decide (c.maxStack ≤ mostOperands) && decide (meth.sig.returnType = rt) && !meth.locks && decide (parseMethodDescriptor y.desc = some meth.sig)) = true) : (Jvm.Cond.code y bytes mx rt).before a s = true := by
  simp only [Bool.and_eq_true, beq_iff_eq, Bool.not_eq_true', decide_eq_true_eq] at h5
  obtain ⟨⟨⟨⟨⟨g1, g2⟩, g3⟩, g4⟩, g5⟩, g6⟩ := h5
  simp [Cond.before, Cond.holds, Cond.value, h1, h2, h3, h4, g1, g2, g3, g4, g5, g6]
def isCode : Jvm.Cond → Bool
  | .code _ _ _ _ => true
  | _ => false
theorem all_split {L : List Jvm.Cond} {P : Jvm.Cond → Bool} (h1 : L.all (fun c => isCode c || P c) = true) (h2 : ∀ c ∈ L.filter isCode, P c = true) : L.all P = true := by
  refine List.all_eq_true.mpr fun c hc => ?_
  have h := List.all_eq_true.mp h1 c hc
  rcases Bool.eq_false_or_eq_true (isCode c) with hi | hi
  · exact h2 c (List.mem_filter.mpr ⟨hc, hi⟩)
  · simpa [hi] using h
set_option maxRecDepth 65536 in
theorem w_c0 : (Jvm.Cond.code x code maxLocals ret).before args0 about1 = true := code_word (m := ⟨1, 1⟩) (meth := k1m1) (c := k1c1) (by decide +kernel) rfl rfl rfl (by decide +kernel)
set_option maxRecDepth 65536 in
theorem w_c1 : (Jvm.Cond.code ({ cls := "com/example/enough_per_caller/enoughpercaller/TokenBucket", name := "<init>", desc := "(JJJ)V" } : Jvm.MethodName) prog_23_method_1_code (7 : Nat) (Option.none : Option Jvm.ClassFile.FieldType)).before args0 about1 = true := code_word (m := ⟨4, 0⟩) (meth := k4m0) (c := k4c0) (by decide +kernel) rfl rfl rfl (by decide +kernel)
set_option maxRecDepth 65536 in
theorem w_c2 : (Jvm.Cond.code ({ cls := "java/lang/Record", name := "<init>", desc := "()V" } : Jvm.MethodName) jdk_30_method_1_code (1 : Nat) (Option.none : Option Jvm.ClassFile.FieldType)).before args0 about1 = true := code_word (m := ⟨2, 0⟩) (meth := k2m0) (c := k2c0) (by decide +kernel) rfl rfl rfl (by decide +kernel)
set_option maxRecDepth 65536 in
theorem w_c3 : (Jvm.Cond.code ({ cls := "java/lang/Object", name := "<init>", desc := "()V" } : Jvm.MethodName) object_method_1_code (1 : Nat) (Option.none : Option Jvm.ClassFile.FieldType)).before args0 about1 = true := code_word (m := ⟨0, 0⟩) (meth := k0m0) (c := k0c0) (by decide +kernel) rfl rfl rfl (by decide +kernel)
set_option maxRecDepth 65536 in
theorem w_c4 : (Jvm.Cond.code ({ cls := "com/example/enough_per_caller/enoughpercaller/ExactRange", name := "requireExact", desc := "(Ljava/lang/String;J)V" } : Jvm.MethodName) prog_4_method_2_code (3 : Nat) (Option.none : Option Jvm.ClassFile.FieldType)).before args0 about1 = true := code_word (m := ⟨11, 1⟩) (meth := k11m1) (c := k11c1) (by decide +kernel) rfl rfl rfl (by decide +kernel)
set_option maxRecDepth 65536 in
theorem w_c5 : (Jvm.Cond.code ({ cls := "com/example/enough_per_caller/enoughpercaller/TokenBucket", name := "windowSeconds", desc := "()J" } : Jvm.MethodName) prog_23_method_5_code (1 : Nat) (Option.some Jvm.ClassFile.FieldType.long)).before args0 about1 = true := code_word (m := ⟨4, 1⟩) (meth := k4m1) (c := k4c1) (by decide +kernel) rfl rfl rfl (by decide +kernel)
set_option maxRecDepth 65536 in
theorem w_c6 : (Jvm.Cond.code ({ cls := "com/example/enough_per_caller/enoughpercaller/TokenBucket", name := "ceilDiv", desc := "(JJ)J" } : Jvm.MethodName) prog_23_method_9_code (4 : Nat) (Option.some Jvm.ClassFile.FieldType.long)).before args0 about1 = true := code_word (m := ⟨4, 2⟩) (meth := k4m2) (c := k4c2) (by decide +kernel) rfl rfl rfl (by decide +kernel)
def codes1 : List Jvm.Cond := [Jvm.Cond.code x code maxLocals ret, Jvm.Cond.code ({ cls := "com/example/enough_per_caller/enoughpercaller/TokenBucket", name := "<init>", desc := "(JJJ)V" } : Jvm.MethodName) prog_23_method_1_code (7 : Nat) (Option.none : Option Jvm.ClassFile.FieldType), Jvm.Cond.code ({ cls := "java/lang/Record", name := "<init>", desc := "()V" } : Jvm.MethodName) jdk_30_method_1_code (1 : Nat) (Option.none : Option Jvm.ClassFile.FieldType), Jvm.Cond.code ({ cls := "java/lang/Object", name := "<init>", desc := "()V" } : Jvm.MethodName) object_method_1_code (1 : Nat) (Option.none : Option Jvm.ClassFile.FieldType), Jvm.Cond.code ({ cls := "com/example/enough_per_caller/enoughpercaller/ExactRange", name := "requireExact", desc := "(Ljava/lang/String;J)V" } : Jvm.MethodName) prog_4_method_2_code (3 : Nat) (Option.none : Option Jvm.ClassFile.FieldType), Jvm.Cond.code ({ cls := "com/example/enough_per_caller/enoughpercaller/TokenBucket", name := "windowSeconds", desc := "()J" } : Jvm.MethodName) prog_23_method_5_code (1 : Nat) (Option.some Jvm.ClassFile.FieldType.long), Jvm.Cond.code ({ cls := "com/example/enough_per_caller/enoughpercaller/TokenBucket", name := "ceilDiv", desc := "(JJ)J" } : Jvm.MethodName) prog_23_method_9_code (4 : Nat) (Option.some Jvm.ClassFile.FieldType.long)]
set_option maxRecDepth 65536 in
theorem codes_eq : words1.filter isCode = codes1 := rfl
theorem w_codes : ∀ c ∈ words1.filter isCode, c.before args0 about1 = true := by
  rw [codes_eq]
  intro c hc
  simp only [codes1, List.mem_cons, List.not_mem_nil, or_false] at hc
  rcases hc with rfl | rfl | rfl | rfl | rfl | rfl | rfl
  · exact w_c0
  · exact w_c1
  · exact w_c2
  · exact w_c3
  · exact w_c4
  · exact w_c5
  · exact w_c6
set_option maxRecDepth 65536 in
theorem w_t1 : (words1.take 24).all (fun c => isCode c || c.before args0 about1) = true := by decide +kernel
set_option maxRecDepth 65536 in
theorem w_t2 : ((words1.drop 24).take 24).all (fun c => isCode c || c.before args0 about1) = true := by decide +kernel
set_option maxRecDepth 65536 in
theorem w_t3 : ((words1.drop 24).drop 24).all (fun c => isCode c || c.before args0 about1) = true := by decide +kernel
theorem w_tables : (allAtoms (Jvm.Cond.code x code maxLocals ret :: tables_1)).before args0 about1 = true := by
  rw [allAtoms_all]
  show words1.all (fun c => c.before args0 about1) = true
  refine all_split ?_ w_codes
  rw [← List.take_append_drop 24 words1, List.all_append, w_t1, ← List.take_append_drop 24 (words1.drop 24), List.all_append, w_t2, w_t3]
  rfl
set_option maxRecDepth 65536 in
theorem w_case : (Jvm.Cond.and given_1 narrow_1).before args0 about1 = true := by decide +kernel
theorem w_applies : (headSpec (Jvm.Cond.code x code maxLocals ret :: tables_1) room_1).applies x e0.platform about1 = true :=
  (Spec.applies_iff w_frames).mpr ⟨w_running, w_runnable, w_alone, w_named, w_hears, w_ripe, w_room, w_tables⟩
theorem atStart : AtStart classFile x code maxLocals ret World_1 tables_1 room_1 Calls_1 rest_1 Pre_1 launch0 p0 e0 about1 theMethod args0 below0 :=
  ⟨lists_1, trivial, launch0.admits_env _ _ _, launch0.least_env, fairChoices_fair.cas, fairChoices_fair.clock, w_frames, w_args, w_heap, w_applies, trivial, trivial, w_case⟩
end start1
theorem witness_1 : WitnessClaimed_1 := ⟨start1.p0, start1.e0, start1.about1, start1.theMethod, start1.args0, start1.below0, start1.atStart⟩
end Jvm.Pilot.@@N@@
