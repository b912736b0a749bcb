import JvmDerived
import JvmDerived.Pilot.@@N@@Statement
import JvmDerived.Pilot.@@N@@Code
set_option linter.unusedVariables false
set_option linter.unusedSimpArgs false
namespace Jvm.Pilot.@@N@@
open Jvm Jvm.ClassFile Sem Op Lib Jvm.Free Jvm.Stand Jvm.LawKit Jvm.RoadKit Bundle Jvm.Pilot.@@N@@.Jvm.D
/-! the setting of a body's walk, a point of it, and 'it comes to its end' -/
def oCtx (p : Program) (s : State) (m : MethodId) (meth : Method) (c : Code) (Z : State) (own : String) (cb : ByteArray) (ml : Nat) (nm : String) (rt : Option FieldType) (yy : MethodName) : Prop :=
  p.tables.exec = Jvm.exec ∧ Z.Warmed39 s.vm ∧ c.code = cb ∧ c.maxLocals = ml ∧ s.vm.findClass own = some m.cls ∧ meth.name = nm ∧ meth.sig.returnType = rt ∧ meth.locks = false ∧ s.methodNamed? yy = some m
def oSt (p : Program) (l : Launch) (e : Env) (R : Room) (s : State) (m : MethodId) (args : Array Value) (below : List Frame) (meth : Method) (c : Code) (Z T : State) (h : Heap) (cells slots : Nat) : Prop :=
  ∃ locs, Stand p l e R s m args below meth c T locs cells slots ∧ T.heap = h ∧ Fr Z.heap.size locs ∧ Ext Z.heap h
def oGoes (p : Program) (e : Env) (below : List Frame) (s Z T : State) (f : JFrame) (Q : Option Value → Heap → Prop) (cl sl : Nat) : Prop :=
  ∃ t o, Steps p.tables e below (T.setTop f) t ∧ t.status = .running ∧ Ended t below o ∧ ∃ v L, o = .returned v ∧ Q v t.heap ∧ Fr Z.heap.size L ∧ Ext Z.heap t.heap ∧ FrameEnd s o t L cl sl
/-- a body's contract: called with 'as' at the heap h0 it returns, and Q says what it leaves -/
def oMet (l : Launch) (Z : State) (y : MethodName) (cb : ByteArray) (ml : Nat) (rt : Option FieldType) (rm : Room) (ws : List Jvm.Cond) (as : Array Value) (h0 : Heap) (Q : Option Value → Heap → Prop) : Prop :=
  Ext Z.heap h0 → MetFree l y (head1 (Jvm.Cond.code y cb ml rt :: ws) rm) (fun a U => a = as ∧ Z.Warmed39 U.vm ∧ U.heap = h0) (fun _ _ _ _ _ => True)
    (fun _ U o U' => ∃ v L, o = .returned v ∧ (Q v U'.heap ∧ Fr Z.heap.size L ∧ Ext Z.heap U'.heap) ∧ FrameEnd U o U' L rm.cells rm.slots)
section Own
variable {p : Program} {l : Launch} {e : Env} {R : Room} {s : State} {m : MethodId} {args : Array Value} {below : List Frame} {meth : Method} {c : Code} {Z T : State} {h : Heap} {cells slots cl sl : Nat} {own nm : String} {cb : ByteArray} {yy : MethodName} {ml : Nat} {rt : Option FieldType} {Q : Option Value → Heap → Prop} {L L' : Array Slot} {S : List Value} {pc pc' : Nat} {a0 : Array Value}
theorem oGoes.go {T' : State} {f f' : JFrame} (g : oGoes p e below s Z T' f' Q cl sl) (st : ∀ t, Steps p.tables e below (T'.setTop f') t → Steps p.tables e below (T.setTop f) t) : oGoes p e below s Z T f Q cl sl := by
  obtain ⟨t, o, h1, r⟩ := g
  exact ⟨t, o, st t h1, r⟩
theorem oSt.mono (X : oSt p l e R s m args below meth c Z T h cells slots) {c' n' : Nat} (hc : cells ≤ c') (hn : slots ≤ n') : oSt p l e R s m args below meth c Z T h c' n' := by
  obtain ⟨locs, X, r⟩ := X
  exact ⟨locs, ⟨X.admits, X.cas, X.clock, X.frames, X.room, X.hears, X.method, X.code, X.here, X.tail, X.warmed, X.limits, X.bytes, X.same.mono hc hn⟩, r⟩
theorem oSt.ext0 (X : oSt p l e R s m args below meth c Z T h cells slots) : Ext Z.heap h := by obtain ⟨_, _, _, _, E⟩ := X; exact E
theorem oEnter {y : MethodName} {ws : List Jvm.Cond} {rm : Room} {as : Array Value} {h0 : Heap} (hx : plainFor y = true) (ho : y.cls = own) (hn : y.name = nm) {L : Array Slot} (hf : ∀ m, entryFrame m as ml = mkF m 0 L [])
    (body : ∀ p e s m below meth c T, oCtx p s m meth c Z own cb ml nm rt y → oSt p l e rm s m as below meth c Z T h0 0 0 → oGoes p e below s Z T (mkF m 0 L []) Q rm.cells rm.slots) : oMet l Z y cb ml rt rm ws as h0 Q := by
  intro E
  subst ho hn
  refine MetFree.of_bodySF hx hisR ?_
  intro p e s m args below meth c s₁ Bd hml0 hP hK
  obtain ⟨rfl, hZ, hh⟩ := hP
  have e0 : s₁.heap = h0 := by rw [← hh, Bd.state]; rfl
  obtain ⟨t, o, h1, h2, h3, v, L', h4, h5, h6, h7, h8⟩ := body p e s m below meth c s₁ ⟨Bd.exec, hZ, Bd.bytes, hml0, findClass_of_methodNamed Bd.named, (name_of_methodNamed Bd.named Bd.method).1, Bd.returns, BodyLoose.notSynchronized Bd, Bd.named⟩ ⟨[], Stand.of_body Bd, e0, Fr.nil _, E⟩
  exact ⟨t, o, castTop (hf m) h1, h2, h3, v, L', h4, ⟨h5, h6, h7⟩, h8⟩
theorem oLeave (X : oSt p l e R s m args below meth c Z T h cells slots) (rv : Option Value) (hv : meth.sig.returnType = none → rv = none) (hlk : meth.locks = false) (hQ : Q rv h) (hc : cells ≤ cl) (hs : slots ≤ sl) {f : JFrame}
    (st : ∀ fs, (∀ (f : JFrame) (acts : List Action), f.method = m → f.locked = none → f.entered = [] → (doReturn e (T.setTop f) acts rv).1 = T.setFrames fs) → Steps p.tables e below (T.setTop f) (T.setFrames fs)) : oGoes p e below s Z T f Q cl sl := by
  obtain ⟨locs, X, eT, N, E⟩ := X
  obtain ⟨fs, hr, hrun, hended, hW, hsame⟩ := X.leave (v := rv) hv hlk
  have e2 : (T.setFrames fs).heap = h := eT
  refine ⟨_, _, st fs hr, hrun, hended, _, locs, rfl, ?_, N, ?_, ⟨_, rfl⟩, hW, hsame.mono hc hs⟩
  · rw [e2]; exact hQ
  · rw [e2]; exact E
theorem o_ireturnN (K : oCtx p s m meth c Z own cb ml nm rt yy) (X : oSt p l e R s m args below meth c Z T h cells slots) (t : FieldType) {z z' : Int32} (hd : decode cb pc = .ok (.ireturn, 1)) (hrt : rt = some t) (ht : t = .boolean ∨ t = .byte ∨ t = .char ∨ t = .short) (hz : nar t z = z') (hQ : Q (some (.int z')) h) (hc : cells ≤ cl) (hs : slots ≤ sl) : oGoes p e below s Z T (mkF m pc L (.int z :: S)) Q cl sl := by
  subst hz
  have hr0 : meth.sig.returnType = some t := K.2.2.2.2.2.2.1.trans hrt
  refine oLeave X (some (.int (nar t z))) (fun q => by rw [hr0] at q; cases q) K.2.2.2.2.2.2.2.1 hQ hc hs fun fs hr => ?_
  obtain ⟨locs, X, eT, N, E⟩ := X
  exact retN X K.1 (t := t) hr0 ht (hb K.2.2.1 hd) hr
theorem o_iloadN (K : oCtx p s m meth c Z own cb ml nm rt yy) (X : oSt p l e R s m args below meth c Z T h cells slots) {k : Fin 4} {v : Int32} (hd : decode cb pc = .ok (.iload_n k, 1)) (hp : pc + 1 = pc') (hl : L[k.val]? = some (.val (.int v))) (g : oGoes p e below s Z T (mkF m pc' L (.int v :: S)) Q cl sl) : oGoes p e below s Z T (mkF m pc L S) Q cl sl := by
  obtain ⟨_, X, -⟩ := X
  subst hp
  exact g.go fun t r => XS.iloadN X.here K.1 rfl (hb K.2.2.1 hd) hl r
theorem o_istoreN (K : oCtx p s m meth c Z own cb ml nm rt yy) (X : oSt p l e R s m args below meth c Z T h cells slots) {k : Fin 4} {v : Int32} (hd : decode cb pc = .ok (.istore_n k, 1)) (hp : pc + 1 = pc') (hl : storeLocals L k.val (.int v) = some L') (g : oGoes p e below s Z T (mkF m pc' L' S) Q cl sl) : oGoes p e below s Z T (mkF m pc L (.int v :: S)) Q cl sl := by
  obtain ⟨_, X, -⟩ := X
  subst hp
  exact g.go fun t r => XS.istoreN X.here K.1 rfl (hb K.2.2.1 hd) rfl hl r
theorem o_iconst (K : oCtx p s m meth c Z own cb ml nm rt yy) (X : oSt p l e R s m args below meth c Z T h cells slots) {i : Int} {z : Int32} (hd : decode cb pc = .ok (.iconst i, 1)) (hp : pc + 1 = pc') (hz : Int32.ofInt i = z) (g : oGoes p e below s Z T (mkF m pc' L (.int z :: S)) Q cl sl) : oGoes p e below s Z T (mkF m pc L S) Q cl sl := by
  obtain ⟨_, X, -⟩ := X
  subst hp
  exact g.go fun t r => XS.iconst X.here K.1 rfl (hb K.2.2.1 hd) (hz ▸ r)
theorem o_bipush (K : oCtx p s m meth c Z own cb ml nm rt yy) (X : oSt p l e R s m args below meth c Z T h cells slots) {i : Int} {z : Int32} (hd : decode cb pc = .ok (.bipush i, 2)) (hp : pc + 2 = pc') (hz : (Int8.ofInt i).toInt32 = z) (g : oGoes p e below s Z T (mkF m pc' L (.int z :: S)) Q cl sl) : oGoes p e below s Z T (mkF m pc L S) Q cl sl := by
  obtain ⟨_, X, -⟩ := X
  subst hp
  exact g.go fun t r => XS.bipush X.here K.1 rfl (hb K.2.2.1 hd) (hz ▸ r)
theorem o_iand (K : oCtx p s m meth c Z own cb ml nm rt yy) (X : oSt p l e R s m args below meth c Z T h cells slots) {x y z : Int32} (hd : decode cb pc = .ok (.iand, 1)) (hp : pc + 1 = pc') (hz : x &&& y = z) (g : oGoes p e below s Z T (mkF m pc' L (.int z :: S)) Q cl sl) : oGoes p e below s Z T (mkF m pc L (.int y :: .int x :: S)) Q cl sl := by
  obtain ⟨_, X, -⟩ := X
  subst hp
  exact g.go fun t r => XS.iand X.here K.1 rfl (hb K.2.2.1 hd) rfl (hz ▸ r)
theorem o_i2c (K : oCtx p s m meth c Z own cb ml nm rt yy) (X : oSt p l e R s m args below meth c Z T h cells slots) {x : Int32} {z : Int32} (hd : decode cb pc = .ok (.i2c, 1)) (hp : pc + 1 = pc') (hz : x.toUInt32.toUInt16.toUInt32.toInt32 = z) (g : oGoes p e below s Z T (mkF m pc' L (.int z :: S)) Q cl sl) : oGoes p e below s Z T (mkF m pc L (.int x :: S)) Q cl sl := by
  obtain ⟨_, X, -⟩ := X
  subst hp
  exact g.go fun t r => XS.i2c X.here K.1 rfl (hb K.2.2.1 hd) rfl (hz ▸ r)
theorem o_goto (K : oCtx p s m meth c Z own cb ml nm rt yy) (X : oSt p l e R s m args below meth c Z T h cells slots) {o : Int} (hd : decode cb pc = .ok (.goto o, 3)) (ho : 0 ≤ (pc : Int) + o) (hp : ((pc : Int) + o).toNat = pc') (g : oGoes p e below s Z T (mkF m pc' L S) Q cl sl) : oGoes p e below s Z T (mkF m pc L S) Q cl sl := by
  obtain ⟨_, X, -⟩ := X
  exact g.go fun t r => XS.goto X.here K.1 rfl (pc0 := pc) rfl (hb K.2.2.1 hd) ho hp r
theorem o_icmp_lt_t (K : oCtx p s m meth c Z own cb ml nm rt yy) (X : oSt p l e R s m args below meth c Z T h cells slots) {x y : Int32} {o : Int} (hd : decode cb pc = .ok (.if_icmp .lt o, 3)) (ho : 0 ≤ (pc : Int) + o) (hp : ((pc : Int) + o).toNat = pc') (hc : x < y) (g : oGoes p e below s Z T (mkF m pc' L S) Q cl sl) : oGoes p e below s Z T (mkF m pc L (.int y :: .int x :: S)) Q cl sl := by
  obtain ⟨_, X, -⟩ := X
  exact g.go fun t r => XS.icmpYes X.here K.1 rfl (pc0 := pc) rfl (hb K.2.2.1 hd) rfl (tlt hc).1 ho hp r
theorem o_icmp_lt_f (K : oCtx p s m meth c Z own cb ml nm rt yy) (X : oSt p l e R s m args below meth c Z T h cells slots) {x y : Int32} {o : Int} (hd : decode cb pc = .ok (.if_icmp .lt o, 3)) (hp : pc + 3 = pc') (hc : ¬ x < y) (g : oGoes p e below s Z T (mkF m pc' L S) Q cl sl) : oGoes p e below s Z T (mkF m pc L (.int y :: .int x :: S)) Q cl sl := by
  obtain ⟨_, X, -⟩ := X
  subst hp
  exact g.go fun t r => XS.icmpNo X.here K.1 rfl (hb K.2.2.1 hd) rfl (flt hc).1 r
theorem o_icmp_ge_t (K : oCtx p s m meth c Z own cb ml nm rt yy) (X : oSt p l e R s m args below meth c Z T h cells slots) {x y : Int32} {o : Int} (hd : decode cb pc = .ok (.if_icmp .ge o, 3)) (ho : 0 ≤ (pc : Int) + o) (hp : ((pc : Int) + o).toNat = pc') (hc : ¬ x < y) (g : oGoes p e below s Z T (mkF m pc' L S) Q cl sl) : oGoes p e below s Z T (mkF m pc L (.int y :: .int x :: S)) Q cl sl := by
  obtain ⟨_, X, -⟩ := X
  exact g.go fun t r => XS.icmpYes X.here K.1 rfl (pc0 := pc) rfl (hb K.2.2.1 hd) rfl (flt hc).2.1 ho hp r
theorem o_icmp_ge_f (K : oCtx p s m meth c Z own cb ml nm rt yy) (X : oSt p l e R s m args below meth c Z T h cells slots) {x y : Int32} {o : Int} (hd : decode cb pc = .ok (.if_icmp .ge o, 3)) (hp : pc + 3 = pc') (hc : x < y) (g : oGoes p e below s Z T (mkF m pc' L S) Q cl sl) : oGoes p e below s Z T (mkF m pc L (.int y :: .int x :: S)) Q cl sl := by
  obtain ⟨_, X, -⟩ := X
  subst hp
  exact g.go fun t r => XS.icmpNo X.here K.1 rfl (hb K.2.2.1 hd) rfl (tlt hc).2.1 r
theorem o_icmp_gt_t (K : oCtx p s m meth c Z own cb ml nm rt yy) (X : oSt p l e R s m args below meth c Z T h cells slots) {x y : Int32} {o : Int} (hd : decode cb pc = .ok (.if_icmp .gt o, 3)) (ho : 0 ≤ (pc : Int) + o) (hp : ((pc : Int) + o).toNat = pc') (hc : y < x) (g : oGoes p e below s Z T (mkF m pc' L S) Q cl sl) : oGoes p e below s Z T (mkF m pc L (.int y :: .int x :: S)) Q cl sl := by
  obtain ⟨_, X, -⟩ := X
  exact g.go fun t r => XS.icmpYes X.here K.1 rfl (pc0 := pc) rfl (hb K.2.2.1 hd) rfl (tlt hc).2.2.1 ho hp r
theorem o_icmp_gt_f (K : oCtx p s m meth c Z own cb ml nm rt yy) (X : oSt p l e R s m args below meth c Z T h cells slots) {x y : Int32} {o : Int} (hd : decode cb pc = .ok (.if_icmp .gt o, 3)) (hp : pc + 3 = pc') (hc : ¬ y < x) (g : oGoes p e below s Z T (mkF m pc' L S) Q cl sl) : oGoes p e below s Z T (mkF m pc L (.int y :: .int x :: S)) Q cl sl := by
  obtain ⟨_, X, -⟩ := X
  subst hp
  exact g.go fun t r => XS.icmpNo X.here K.1 rfl (hb K.2.2.1 hd) rfl (flt hc).2.2.1 r
theorem o_icmp_eq_t (K : oCtx p s m meth c Z own cb ml nm rt yy) (X : oSt p l e R s m args below meth c Z T h cells slots) {x y : Int32} {o : Int} (hd : decode cb pc = .ok (.if_icmp .eq o, 3)) (ho : 0 ≤ (pc : Int) + o) (hp : ((pc : Int) + o).toNat = pc') (hc : x = y) (g : oGoes p e below s Z T (mkF m pc' L S) Q cl sl) : oGoes p e below s Z T (mkF m pc L (.int y :: .int x :: S)) Q cl sl := by
  obtain ⟨_, X, -⟩ := X
  exact g.go fun t r => XS.icmpYes X.here K.1 rfl (pc0 := pc) rfl (hb K.2.2.1 hd) rfl (teq hc).1 ho hp r
theorem o_if_eq_t (K : oCtx p s m meth c Z own cb ml nm rt yy) (X : oSt p l e R s m args below meth c Z T h cells slots) {x : Int32} {o : Int} (hd : decode cb pc = .ok (.ifCond .eq o, 3)) (ho : 0 ≤ (pc : Int) + o) (hp : ((pc : Int) + o).toNat = pc') (hc : x = 0) (g : oGoes p e below s Z T (mkF m pc' L S) Q cl sl) : oGoes p e below s Z T (mkF m pc L (.int x :: S)) Q cl sl := by
  obtain ⟨_, X, -⟩ := X
  exact g.go fun t r => XS.ifYes X.here K.1 rfl (pc0 := pc) rfl (hb K.2.2.1 hd) rfl ((if0 _ _).trans (teq hc).1) ho hp r
theorem o_icmp_eq_f (K : oCtx p s m meth c Z own cb ml nm rt yy) (X : oSt p l e R s m args below meth c Z T h cells slots) {x y : Int32} {o : Int} (hd : decode cb pc = .ok (.if_icmp .eq o, 3)) (hp : pc + 3 = pc') (hc : ¬ x = y) (g : oGoes p e below s Z T (mkF m pc' L S) Q cl sl) : oGoes p e below s Z T (mkF m pc L (.int y :: .int x :: S)) Q cl sl := by
  obtain ⟨_, X, -⟩ := X
  subst hp
  exact g.go fun t r => XS.icmpNo X.here K.1 rfl (hb K.2.2.1 hd) rfl (feq hc).1 r
theorem o_if_eq_f (K : oCtx p s m meth c Z own cb ml nm rt yy) (X : oSt p l e R s m args below meth c Z T h cells slots) {x : Int32} {o : Int} (hd : decode cb pc = .ok (.ifCond .eq o, 3)) (hp : pc + 3 = pc') (hc : ¬ x = 0) (g : oGoes p e below s Z T (mkF m pc' L S) Q cl sl) : oGoes p e below s Z T (mkF m pc L (.int x :: S)) Q cl sl := by
  obtain ⟨_, X, -⟩ := X
  subst hp
  exact g.go fun t r => XS.ifNo X.here K.1 rfl (hb K.2.2.1 hd) rfl ((if0 _ _).trans (feq hc).1) r
theorem o_icmp_ne_t (K : oCtx p s m meth c Z own cb ml nm rt yy) (X : oSt p l e R s m args below meth c Z T h cells slots) {x y : Int32} {o : Int} (hd : decode cb pc = .ok (.if_icmp .ne o, 3)) (ho : 0 ≤ (pc : Int) + o) (hp : ((pc : Int) + o).toNat = pc') (hc : ¬ x = y) (g : oGoes p e below s Z T (mkF m pc' L S) Q cl sl) : oGoes p e below s Z T (mkF m pc L (.int y :: .int x :: S)) Q cl sl := by
  obtain ⟨_, X, -⟩ := X
  exact g.go fun t r => XS.icmpYes X.here K.1 rfl (pc0 := pc) rfl (hb K.2.2.1 hd) rfl (feq hc).2 ho hp r
theorem o_icmp_ne_f (K : oCtx p s m meth c Z own cb ml nm rt yy) (X : oSt p l e R s m args below meth c Z T h cells slots) {x y : Int32} {o : Int} (hd : decode cb pc = .ok (.if_icmp .ne o, 3)) (hp : pc + 3 = pc') (hc : x = y) (g : oGoes p e below s Z T (mkF m pc' L S) Q cl sl) : oGoes p e below s Z T (mkF m pc L (.int y :: .int x :: S)) Q cl sl := by
  obtain ⟨_, X, -⟩ := X
  subst hp
  exact g.go fun t r => XS.icmpNo X.here K.1 rfl (hb K.2.2.1 hd) rfl (teq hc).2 r
theorem o_getstatic (K : oCtx p s m meth c Z own cb ml nm rt yy) (X : oSt p l e R s m args below meth c Z T h cells slots) {R0 O n d host : String} {index : Nat} {v : Value} (w : (Jvm.Cond.fieldLink own index R0 n d).before a0 Z = true ∨ (Jvm.Cond.fieldLinkNest own index R0 n d host).before a0 Z = true) (via : Via Z R0 O n d) (F : Sta Z h O n d v) (hd : decode cb pc = .ok (.getstatic index, 3)) (hp : pc + 3 = pc')
    (g : ∀ T', oSt p l e R s m args below meth c Z T' h cells slots → oGoes p e below s Z T' (mkF m pc' L (v :: S)) Q cl sl) : oGoes p e below s Z T (mkF m pc L S) Q cl sl := by
  obtain ⟨locs, X, eT, N, E⟩ := X
  subst hp
  obtain ⟨T', X', e', st⟩ := getS2 X K.1 K.2.1 K.2.2.2.2.1 w via eT F (g := mkF m pc L S) rfl (hb K.2.2.1 hd)
  exact (g T' ⟨locs, X', e', N, E⟩).go st
theorem o_static (K : oCtx p s m meth c Z own cb ml nm rt yy) (X : oSt p l e R s m args below meth c Z T h cells slots) {index : Nat} {y : MethodName} {bs : ByteArray} {mx : Nat} {rc : Option FieldType} {rm : Room} {as : Array Value} {Qc : Option Value → Heap → Prop} (w1 : (Jvm.Cond.methodLink own index y).before a0 Z = true) (w2 : (Jvm.Cond.static y).before a0 Z = true) (wz : (Jvm.Cond.initialized y.cls).before a0 Z = true) (wc : (Jvm.Cond.code y bs mx rc).before a0 Z = true) (hy : y.cls ≠ "java/lang/invoke/MethodHandle" ∧ y.cls ≠ "java/lang/invoke/VarHandle")
    (hM : oMet l Z y bs mx rc rm [] as h Qc) (hf : rm.frames + 1 ≤ R.frames) (hsz : L.size = ml) {argsL : List Value} (has : argsL.toArray = as) (hlen : ∀ sig, parseMethodDescriptor y.desc = some sig → argsL.length = sig.parameters.length) {W : Nat} (hW : (S.map fun v => v.category).sum = W) (hl : W + (mx + 11) + rm.locals ≤ R.locals) (hc : cells + rm.cells ≤ R.cells) (hs : slots + rm.slots ≤ R.slots) (hd : decode cb pc = .ok (.invokestatic index, 3)) (hp : pc + 3 = pc') (g : ∀ v T' h', oSt p l e R s m args below meth c Z T' h' (cells + rm.cells) (slots + rm.slots) → Qc v h' → oGoes p e below s Z T' (mkF m pc' L (v.toList ++ S)) Q cl sl) : oGoes p e below s Z T (mkF m pc L (argsL.reverse ++ S)) Q cl sl := by
  obtain ⟨locs, X, eT, N, E⟩ := X
  subst hp
  obtain ⟨v, _, ⟨T', L1, k1, n1⟩, -, X', ⟨Lc, hQ, l1, y1, z1⟩, st⟩ := Jvm.LawKit.callS X K.1 (y := y) K.2.2.2.2.1 (mvT K.2.1 w1) (mvT K.2.1 w2) (mvT K.2.1 wz) (mvT K.2.1 wc) hy (backOf (W := W) (Q := fun v h L => Qc v h ∧ Fr Z.heap.size L ∧ Ext Z.heap h) (hM E) K.2.1 wc wz hf hl) (g := mkF m pc L (argsL.reverse ++ S)) rfl (by show L.size = _; rw [K.2.2.2.1]; exact hsz) (argsL := argsL) (rest := S) hlen rfl (by show 2 * 0 + _ ≤ _; omega) (hb K.2.2.1 hd) (fun _ _ => ⟨has, eT, hc, hs⟩)
  dsimp only [Pt.U, Pt.locs, Pt.cells, Pt.slots] at X' l1 y1 z1 st hQ
  subst l1 y1 z1
  exact (g v T' _ ⟨_, X', rfl, Fr.app N hQ.2.1, hQ.2.2⟩ hQ.1).go st
theorem o_ldc (K : oCtx p s m meth c Z own cb ml nm rt yy) (X : oSt p l e R s m args below meth c Z T h cells slots) {index : Nat} {z : Int32} (w : (Jvm.Cond.constant own index z).before a0 Z = true) (hd : decode cb pc = .ok (.ldc index, 2)) (hp : pc + 2 = pc') (g : oGoes p e below s Z T (mkF m pc' L (.int z :: S)) Q cl sl) : oGoes p e below s Z T (mkF m pc L S) Q cl sl := by
  obtain ⟨locs, X, eT, N, E⟩ := X
  subst hp
  exact g.go (X.ldcInt K.1 K.2.2.2.2.1 (mvT K.2.1 w) (g := mkF m pc L S) rfl (hb K.2.2.1 hd))
def oArr (Z : State) (h : Heap) (a : Addr) (k : ClassId) (ty : FieldType) (vs : List Value) : Prop := ∃ c : Cell, Arr Z h a c ty ∧ c.cls = k ∧ c.slots = vs.toArray ∧ (∀ v ∈ vs, fits ty v = true) ∧ vs.length < 2 ^ 31
theorem oArr.lt {a : Addr} {k : ClassId} {ty : FieldType} {vs : List Value} (F : oArr Z h a k ty vs) : a < h.size := by obtain ⟨c, A, -⟩ := F; exact A.lt
theorem oArr.ext {h' : Heap} {a : Addr} {k : ClassId} {ty : FieldType} {vs : List Value} (F : oArr Z h a k ty vs) (E : Ext h h') : oArr Z h' a k ty vs := by obtain ⟨c, A, r⟩ := F; exact ⟨c, A.ext E, r⟩
theorem oInb {vs : List Value} {c : Cell} {j : Int32} (q : c.slots = vs.toArray) (hj : ¬ j < 0) (hlt : j.toNatClampNeg < vs.length) : ¬ (j < 0 ∨ c.slots.size ≤ j.toNatClampNeg) := by
  rw [q]; simp only [List.size_toArray]
  rintro (h1 | h1)
  · exact hj h1
  · omega
theorem o_arraylength (K : oCtx p s m meth c Z own cb ml nm rt yy) (X : oSt p l e R s m args below meth c Z T h cells slots) {a : Addr} {k : ClassId} {ty : FieldType} {vs : List Value} {z : Int32} (F : oArr Z h a k ty vs) (hz : vs.length.toInt32 = z) (hd : decode cb pc = .ok (.arraylength, 1)) (hp : pc + 1 = pc') (g : oGoes p e below s Z T (mkF m pc' L (.int z :: S)) Q cl sl) : oGoes p e below s Z T (mkF m pc L (.ref a :: S)) Q cl sl := by
  obtain ⟨locs, X, eT, N, E⟩ := X
  obtain ⟨cc, A, q1, q2, q3, q4⟩ := F
  subst hp
  refine g.go fun t r => X.arraylength K.1 (by rw [eT]; exact A.1) (State.isArrayOf_alike K.2.1.alike A.2.1) (g := mkF m pc L (.ref a :: S)) rfl rfl (hb K.2.2.1 hd) _ ?_
  have e1 : cc.slots.size.toInt32 = z := by rw [q2]; simpa using hz
  rw [e1]; exact r
theorem o_baloadZ (K : oCtx p s m meth c Z own cb ml nm rt yy) (X : oSt p l e R s m args below meth c Z T h cells slots) {a : Addr} {k : ClassId} {vs : List Value} {j : Int32} {v : Value} (F : oArr Z h a k .boolean vs) (hj : ¬ j < 0) (hv : vs[j.toNatClampNeg]? = some v) (hd : decode cb pc = .ok (.baload, 1)) (hp : pc + 1 = pc') (g : oGoes p e below s Z T (mkF m pc' L (v :: S)) Q cl sl) : oGoes p e below s Z T (mkF m pc L (.int j :: .ref a :: S)) Q cl sl := by
  obtain ⟨locs, X, eT, N, E⟩ := X
  obtain ⟨cc, A, q1, q2, q3, q4⟩ := F
  subst hp
  exact g.go fun t r => X.baloadBooleans K.1 (by rw [eT]; exact A.1) (State.isArrayOf_alike K.2.1.alike A.2.1) A.2.2 (oInb q2 hj (List.getElem?_eq_some_iff.mp hv).1) (by rw [q2]; simpa using hv) (g := mkF m pc L (.int j :: .ref a :: S)) rfl rfl (hb K.2.2.1 hd) _ r
theorem oNarchar {y : Int32} (hy : y.toBitVec.toNat < 65536) : nar .char y = y := by
  apply Int32.toBitVec_inj.mp
  apply BitVec.eq_of_toNat_eq
  have e1 : (nar .char y).toBitVec.toNat = y.toUInt32.toUInt16.toUInt32.toNat := rfl
  have e2 : y.toUInt32.toNat = y.toBitVec.toNat := rfl
  rw [e1, UInt16.toNat_toUInt32, UInt32.toNat_toUInt16, e2]
  exact Nat.mod_eq_of_lt hy
theorem oNarMask (x : Int32) {k : Int32} (hk : k.toBitVec.toNat < 65536) : nar .char (x &&& k) = x &&& k := by
  refine oNarchar ?_
  simp only [Int32.toBitVec_and, BitVec.toNat_and]
  exact Nat.lt_of_le_of_lt Nat.and_le_right hk
theorem oEqInt_v {args : Array Value} {f s : State} {o : Option Outcome} {idx : List Nat} {t : Term} {z : Int32} (q : (Jvm.Cond.eq t (Term.int z)).value args f o s idx = some true) : t.eval args f o idx s = some (.int z) := by
  have e2 : (Term.int z).eval args f o idx s = some (.int z) := rfl
  cases ht : t.eval args f o idx s with
  | none => simp [Jvm.Cond.value, ht] at q
  | some x => cases x <;> simp [Jvm.Cond.value, ht, e2] at q ⊢; exact q
theorem oArr_start {args : Array Value} {s : State} {t : Term} {ty : FieldType} {z : Int32} {n : Nat} (hf : Fit s) {a : Addr} (ht : t.eval args s none [] s = some (.ref a)) (hx : (Jvm.Cond.arrayOf t ty).value args s none s [] = some true) (hl : (Jvm.Cond.eq (Term.length t) (Term.int z)).value args s none s [] = some true) (hz : ¬ z < 0) (hn : z.toNatClampNeg = n) : ∃ k vs, oArr s s.heap a k ty vs ∧ vs.length = n := by
  obtain ⟨c, A⟩ := Arr.start ht hx
  have hA := A.fin (U := s) (Vm.Alike.refl _)
  have q := oEqInt_v hl
  have hs : c.slots.size < 2 ^ 31 ∧ c.slots.size.toInt32 = z := by
    by_cases hb : c.slots.size < 2 ^ 31
    · rw [len_f ht hA hb] at q
      exact ⟨hb, by simpa using q⟩
    · simp [Term.eval, ht, hA, hb] at q
  have hlen : c.slots.size = n := by
    have e1 := len_toInt hs.1
    rw [hs.2] at e1
    have e2 : z.toNatClampNeg = z.toInt.toNat := rfl
    omega
  refine ⟨c.cls, c.slots.toList, ⟨c, A, rfl, by simp, fun v hv => ?_, by simpa using hs.1⟩, by simpa using hlen⟩
  obtain ⟨i, hi, rfl⟩ := List.mem_iff_getElem.mp hv
  have hi' : i < c.slots.size := by simpa using hi
  obtain ⟨v', h1, h2⟩ := elem_fit hf A (j := i.toInt32) (idx_in hi' hs.1)
  have e3 : i.toInt32.toNatClampNeg = i := by
    have q1 : i.toInt32.toInt = i := len_toInt (by omega)
    show i.toInt32.toInt.toNat = i
    omega
  rw [e3, Array.getElem?_eq_getElem hi'] at h1
  cases h1
  simpa using h2
theorem oElem_start {args : Array Value} {s : State} {t : Term} {ty : FieldType} {a : Addr} {k : ClassId} {vs : List Value} {ix : Term} {j w : Int32} {idx : List Nat} (F : oArr s s.heap a k ty vs) (ht : t.eval args s none idx s = some (.ref a)) (hj : ix.eval args s none idx s = some (.int j)) (q : (Jvm.Cond.eq (Term.elem t ix) (Term.int w)).value args s none s idx = some true) : vs[j.toNatClampNeg]? = some (.int w) := by
  obtain ⟨c, A, -, q2, -⟩ := F
  obtain ⟨-, r⟩ := elem_in (oEqInt_v q) ht hj A.1
  rw [q2] at r
  simpa using r
theorem oFold_t {C : Nat → Option Bool} : ∀ (is : List Nat) (b : Option Bool), (is.foldl (init := b) fun acc i => match acc with | some true => C i | x => x) = some true → b = some true ∧ ∀ i ∈ is, C i = some true
  | [], b, q => ⟨q, fun _ z => nomatch z⟩
  | i :: is, b, q => by
    have r := oFold_t is _ q
    obtain ⟨r1, r2⟩ := r
    have hb : b = some true := by
      rcases b with _ | b
      · simp at r1
      · cases b
        · simp at r1
        · rfl
    subst hb
    exact ⟨rfl, fun j hj => (List.mem_cons.mp hj).elim (fun z => z ▸ r1) (r2 j)⟩
theorem oAll_v {args : Array Value} {f s : State} {o : Option Outcome} {idx : List Nat} {t : Term} {d : Jvm.Cond} {a : Addr} {c : Cell} (q : (Jvm.Cond.all t d).value args f o s idx = some true) (ht : t.eval args f o idx s = some (.ref a)) (hA : s.arrayAt? a = some c) : ∀ i, i < c.slots.size → d.value args f o s (i :: idx) = some true := by
  intro i hi
  simp only [Jvm.Cond.value, ht, hA] at q
  exact (oFold_t _ _ q).2 i (List.mem_range.mpr hi)
theorem oStaRef {args : Array Value} {s : State} {C n d : String} {ty : FieldType} (q : (Jvm.Cond.arrayOf (Term.static C n d) ty).value args s none s [] = some true) (hi : (Jvm.Cond.initializedFor C n d).before args s = true ∨ ((Jvm.Cond.initialized C).before args s = true ∧ (Jvm.Cond.laysStatic C n d).before args s = true)) : ∃ a, (Term.static C n d).eval args s none [] s = some (.ref a) ∧ Sta s s.heap C n d (.ref a) := by
  obtain ⟨a, ha⟩ := arr_v q
  exact ⟨a, ha, Sta.start ha hi⟩
theorem oMaskPos (x : Int32) {k : Int32} (hk : k.toBitVec.toNat < 2 ^ 31) : ¬ (x &&& k) < 0 := by
  rw [Int32.lt_iff_toInt_lt]
  have h1 : (x &&& k).toBitVec.toNat < 2 ^ 31 := by
    simp only [Int32.toBitVec_and, BitVec.toNat_and]
    exact Nat.lt_of_le_of_lt Nat.and_le_right hk
  have h2 : (x &&& k).toInt = (x &&& k).toBitVec.toNat := BitVec.toInt_eq_toNat_of_lt (by omega)
  have h3 : (0 : Int32).toInt = 0 := by decide
  omega
theorem oOr_v {args : Array Value} {f s : State} {o : Option Outcome} {idx : List Nat} {a b : Jvm.Cond} (q : (Jvm.Cond.or a b).value args f o s idx = some true) : a.value args f o s idx = some true ∨ b.value args f o s idx = some true := by
  simp only [Jvm.Cond.value] at q
  cases ha : a.value args f o s idx with
  | none => simp [ha] at q
  | some x => cases x <;> simp [ha] at q ⊢; exact q
theorem oLe_v {args : Array Value} {f s : State} {o : Option Outcome} {idx : List Nat} {i : Nat} {z : Int32} (hi : i < 2 ^ 31) (q : (Jvm.Cond.le (Term.int z) (Term.index 0)).value args f o s (i :: idx) = some true) : z.toInt ≤ i := by
  have r : z ≤ i.toInt32 := by simpa [Jvm.Cond.value, Term.eval] using q
  rw [Int32.le_iff_toInt_le, len_toInt hi] at r
  exact r
theorem oLt_v {args : Array Value} {f s : State} {o : Option Outcome} {idx : List Nat} {i : Nat} {z : Int32} (hi : i < 2 ^ 31) (q : (Jvm.Cond.lt (Term.index 0) (Term.int z)).value args f o s (i :: idx) = some true) : (i : Int) < z.toInt := by
  have r : i.toInt32 < z := by simpa [Jvm.Cond.value, Term.eval] using q
  rw [Int32.lt_iff_toInt_lt, len_toInt hi] at r
  exact r
theorem oNat_of {j : Int32} (q : ¬ j < 0) : j.toInt = (j.toNatClampNeg : Int) := nat_of q
theorem oNat32 {i : Nat} (hi : i < 2 ^ 31) : i.toInt32.toNatClampNeg = i := by
  have q1 : i.toInt32.toInt = i := len_toInt hi
  show i.toInt32.toInt.toNat = i
  omega
end Own
def ownNm (c : Int32) : Int32 := if (97 ≤ c.toInt ∧ c.toInt ≤ 122) ∨ (65 ≤ c.toInt ∧ c.toInt ≤ 90) ∨ (48 ≤ c.toInt ∧ c.toInt ≤ 57) ∨ c.toInt = 46 ∨ c.toInt = 95 ∨ c.toInt = 45 ∨ c.toInt = 58 ∨ c.toInt = 64 then 1 else 0
def oHw (Z : State) (a0 : Array Value) : Prop := ∀ d ∈ tables_1, d.before a0 Z = true
theorem w0 {Z : State} {a0 : Array Value} (hw : oHw Z a0) : (Jvm.Cond.constant "com/example/phone_conformance_check/phoneconformancecheck/capture/PropertyIsNameCharacterPinLaw" (7 : Nat) (65535 : Int32)).before a0 Z = true := hw _ (List.mem_of_getElem? (i := 0) rfl)
theorem w1 {Z : State} {a0 : Array Value} (hw : oHw Z a0) : (Jvm.Cond.methodLink "com/example/phone_conformance_check/phoneconformancecheck/capture/PropertyIsNameCharacterPinLaw" (8 : Nat) ({ cls := "com/example/phone_conformance_check/phoneconformancecheck/capture/Property", name := "isNameCharacter", desc := "(C)Z" } : Jvm.MethodName)).before a0 Z = true := hw _ (List.mem_of_getElem? (i := 1) rfl)
theorem w2 {Z : State} {a0 : Array Value} (hw : oHw Z a0) : (Jvm.Cond.static ({ cls := "com/example/phone_conformance_check/phoneconformancecheck/capture/Property", name := "isNameCharacter", desc := "(C)Z" } : Jvm.MethodName)).before a0 Z = true := hw _ (List.mem_of_getElem? (i := 2) rfl)
theorem w3 {Z : State} {a0 : Array Value} (hw : oHw Z a0) : (Jvm.Cond.initialized "com/example/phone_conformance_check/phoneconformancecheck/capture/Property").before a0 Z = true := hw _ (List.mem_of_getElem? (i := 3) rfl)
theorem w4 {Z : State} {a0 : Array Value} (hw : oHw Z a0) : (Jvm.Cond.code ({ cls := "com/example/phone_conformance_check/phoneconformancecheck/capture/Property", name := "isNameCharacter", desc := "(C)Z" } : Jvm.MethodName) prog_16_method_3_code (1 : Nat) (Option.some Jvm.ClassFile.FieldType.boolean)).before a0 Z = true := hw _ (List.mem_of_getElem? (i := 4) rfl)
theorem w5 {Z : State} {a0 : Array Value} (hw : oHw Z a0) : (Jvm.Cond.fieldLink "com/example/phone_conformance_check/phoneconformancecheck/capture/Property" (44 : Nat) "com/example/phone_conformance_check/phoneconformancecheck/capture/Property" "NAME_CHARACTERS" "[Z").before a0 Z = true := hw _ (List.mem_of_getElem? (i := 5) rfl)
theorem w6 {Z : State} {a0 : Array Value} (hw : oHw Z a0) : (Jvm.Cond.laysStatic "com/example/phone_conformance_check/phoneconformancecheck/capture/Property" "NAME_CHARACTERS" "[Z").before a0 Z = true := hw _ (List.mem_of_getElem? (i := 6) rfl)
theorem w7 {Z : State} {a0 : Array Value} (hw : oHw Z a0) : (Jvm.Cond.methodLink "com/example/phone_conformance_check/phoneconformancecheck/capture/PropertyIsNameCharacterPinLaw" (14 : Nat) ({ cls := "com/example/phone_conformance_check/phoneconformancecheck/capture/PropertyIsNameCharacterPinLaw", name := "expected", desc := "(C)Z" } : Jvm.MethodName)).before a0 Z = true := hw _ (List.mem_of_getElem? (i := 7) rfl)
theorem w8 {Z : State} {a0 : Array Value} (hw : oHw Z a0) : (Jvm.Cond.static ({ cls := "com/example/phone_conformance_check/phoneconformancecheck/capture/PropertyIsNameCharacterPinLaw", name := "expected", desc := "(C)Z" } : Jvm.MethodName)).before a0 Z = true := hw _ (List.mem_of_getElem? (i := 8) rfl)
theorem w9 {Z : State} {a0 : Array Value} (hw : oHw Z a0) : (Jvm.Cond.initialized "com/example/phone_conformance_check/phoneconformancecheck/capture/PropertyIsNameCharacterPinLaw").before a0 Z = true := hw _ (List.mem_of_getElem? (i := 9) rfl)
theorem w10 {Z : State} {a0 : Array Value} (hw : oHw Z a0) : (Jvm.Cond.code ({ cls := "com/example/phone_conformance_check/phoneconformancecheck/capture/PropertyIsNameCharacterPinLaw", name := "expected", desc := "(C)Z" } : Jvm.MethodName) method_3_code (1 : Nat) (Option.some Jvm.ClassFile.FieldType.boolean)).before a0 Z = true := hw _ (List.mem_of_getElem? (i := 10) rfl)
theorem d_isname_0 : decode prog_16_method_3_code 0 = .ok (.iload_n 0, 1) := by decide +kernel
theorem d_isname_1 : decode prog_16_method_3_code 1 = .ok (.getstatic 44, 3) := by decide +kernel
theorem d_isname_4 : decode prog_16_method_3_code 4 = .ok (.arraylength, 1) := by decide +kernel
theorem d_isname_5 : decode prog_16_method_3_code 5 = .ok (.if_icmp .ge 15, 3) := by decide +kernel
theorem d_isname_8 : decode prog_16_method_3_code 8 = .ok (.getstatic 44, 3) := by decide +kernel
theorem d_isname_11 : decode prog_16_method_3_code 11 = .ok (.iload_n 0, 1) := by decide +kernel
theorem d_isname_12 : decode prog_16_method_3_code 12 = .ok (.baload, 1) := by decide +kernel
theorem d_isname_13 : decode prog_16_method_3_code 13 = .ok (.ifCond .eq 7, 3) := by decide +kernel
theorem d_isname_16 : decode prog_16_method_3_code 16 = .ok (.iconst 1, 1) := by decide +kernel
theorem d_isname_17 : decode prog_16_method_3_code 17 = .ok (.goto 4, 3) := by decide +kernel
theorem d_isname_20 : decode prog_16_method_3_code 20 = .ok (.iconst 0, 1) := by decide +kernel
theorem d_isname_21 : decode prog_16_method_3_code 21 = .ok (.ireturn, 1) := by decide +kernel
def r_isname : Room := { frames := 0, cells := 0, slots := 0, locals := 0 }
def Q_isname (Z : State) (c : Int32) (aa : Addr) (kk : ClassId) (vs : List Value) (h0 : Heap) (v : Option Value) (h : Heap) : Prop := v = some (.int (ownNm c)) ∧ h0 = h
set_option maxRecDepth 65536 in
set_option maxHeartbeats 40000000 in
theorem rm_isname (l : Launch) (Z : State) (a0 : Array Value) (hw : oHw Z a0) (c : Int32) (aa : Addr) (kk : ClassId) (vs : List Value) (h0 : Heap) (q0 : Sta Z Z.heap "com/example/phone_conformance_check/phoneconformancecheck/capture/Property" "NAME_CHARACTERS" "[Z" (.ref aa)) (q1 : oArr Z Z.heap aa kk .boolean vs) (q2 : vs.length = 128) (q3 : ¬ c < 0) (q4 : ∀ j : Int32, ¬ j < 0 → j < 128 → vs[j.toNatClampNeg]? = some (.int (ownNm j))) : oMet l Z (⟨"com/example/phone_conformance_check/phoneconformancecheck/capture/Property", "isNameCharacter", "(C)Z"⟩ : MethodName) prog_16_method_3_code 1 (some .boolean) r_isname [] #[(.int c)] h0 (Q_isname Z c aa kk vs h0) := by
  refine oEnter (plainFor_of_name (by first | (simp [plainName, overriddenIn]; done) | decide +kernel)) (own := "com/example/phone_conformance_check/phoneconformancecheck/capture/Property") (nm := "isNameCharacter") rfl rfl (L := #[.val (.int c)]) (fun m => by first | (simp [entryFrame, mkF, argsToLocals, Value.category]; done) | rfl) ?_
  intro pp ee ss mm bb mtd cc T0 K X0
  have E0 := X0.ext0
  refine o_iloadN K X0 d_isname_0 (pc' := 1) rfl rfl ?_
  refine o_getstatic K X0 (host := "") (Or.inl (w5 hw)) Via.refl (q0.ext X0.ext0) d_isname_1 (pc' := 4) rfl ?_
  intro T1 X1
  refine o_arraylength K X1 (q1.ext X1.ext0) (z := (128 : Int32)) (by rw [q2]; decide) d_isname_4 (pc' := 5) rfl ?_
  by_cases c5_2 : c < (128 : Int32)
  · refine o_icmp_ge_f K X1 d_isname_5 (pc' := 8) rfl c5_2 ?_
    refine o_getstatic K X1 (host := "") (Or.inl (w5 hw)) Via.refl (q0.ext X1.ext0) d_isname_8 (pc' := 11) rfl ?_
    intro T3 X3
    refine o_iloadN K X3 d_isname_11 (pc' := 12) rfl rfl ?_
    refine o_baloadZ K X3 (q1.ext X3.ext0) q3 (v := (.int (ownNm c))) (q4 c q3 c5_2) d_isname_12 (pc' := 13) rfl ?_
    by_cases c13_4 : (ownNm c) = (0 : Int32)
    · refine o_if_eq_t K X3 d_isname_13 (by decide) (pc' := 20) (by decide) c13_4 ?_
      refine o_iconst K X3 d_isname_20 (pc' := 21) rfl (z := (0 : Int32)) rfl ?_
      refine o_ireturnN K X3 .boolean d_isname_21 rfl (by simp) (z' := (0 : Int32)) (by decide) ?_ (by decide) (by decide)
      exact ⟨congrArg (fun z => some (Value.int z)) c13_4.symm, rfl⟩
    · refine o_if_eq_f K X3 d_isname_13 (pc' := 16) rfl c13_4 ?_
      refine o_iconst K X3 d_isname_16 (pc' := 17) rfl (z := (1 : Int32)) rfl ?_
      refine o_goto K X3 d_isname_17 (by decide) (pc' := 21) (by decide) ?_
      refine o_ireturnN K X3 .boolean d_isname_21 rfl (by simp) (z' := (1 : Int32)) (by decide) ?_ (by decide) (by decide)
      exact ⟨congrArg (fun z => some (Value.int z)) (by unfold ownNm at c13_4 ⊢; split <;> simp_all), rfl⟩
  · refine o_icmp_ge_t K X1 d_isname_5 (by decide) (pc' := 20) (by decide) c5_2 ?_
    refine o_iconst K X1 d_isname_20 (pc' := 21) rfl (z := (0 : Int32)) rfl ?_
    refine o_ireturnN K X1 .boolean d_isname_21 rfl (by simp) (z' := (0 : Int32)) (by decide) ?_ (by decide) (by decide)
    have i5 := mt Int32.lt_iff_toInt_lt.mpr c5_2
    have z128 : (128 : Int32).toInt = 128 := by decide
    exact ⟨congrArg (fun z => some (Value.int z)) (if_neg (by omega)).symm, rfl⟩
theorem d_expected_0 : decode method_3_code 0 = .ok (.iload_n 0, 1) := by decide +kernel
theorem d_expected_1 : decode method_3_code 1 = .ok (.bipush 97, 2) := by decide +kernel
theorem d_expected_3 : decode method_3_code 3 = .ok (.if_icmp .lt 11, 3) := by decide +kernel
theorem d_expected_6 : decode method_3_code 6 = .ok (.iload_n 0, 1) := by decide +kernel
theorem d_expected_7 : decode method_3_code 7 = .ok (.bipush 122, 2) := by decide +kernel
theorem d_expected_9 : decode method_3_code 9 = .ok (.if_icmp .gt 5, 3) := by decide +kernel
theorem d_expected_12 : decode method_3_code 12 = .ok (.iconst 1, 1) := by decide +kernel
theorem d_expected_13 : decode method_3_code 13 = .ok (.ireturn, 1) := by decide +kernel
theorem d_expected_14 : decode method_3_code 14 = .ok (.iload_n 0, 1) := by decide +kernel
theorem d_expected_15 : decode method_3_code 15 = .ok (.bipush 65, 2) := by decide +kernel
theorem d_expected_17 : decode method_3_code 17 = .ok (.if_icmp .lt 11, 3) := by decide +kernel
theorem d_expected_20 : decode method_3_code 20 = .ok (.iload_n 0, 1) := by decide +kernel
theorem d_expected_21 : decode method_3_code 21 = .ok (.bipush 90, 2) := by decide +kernel
theorem d_expected_23 : decode method_3_code 23 = .ok (.if_icmp .gt 5, 3) := by decide +kernel
theorem d_expected_26 : decode method_3_code 26 = .ok (.iconst 1, 1) := by decide +kernel
theorem d_expected_27 : decode method_3_code 27 = .ok (.ireturn, 1) := by decide +kernel
theorem d_expected_28 : decode method_3_code 28 = .ok (.iload_n 0, 1) := by decide +kernel
theorem d_expected_29 : decode method_3_code 29 = .ok (.bipush 48, 2) := by decide +kernel
theorem d_expected_31 : decode method_3_code 31 = .ok (.if_icmp .lt 11, 3) := by decide +kernel
theorem d_expected_34 : decode method_3_code 34 = .ok (.iload_n 0, 1) := by decide +kernel
theorem d_expected_35 : decode method_3_code 35 = .ok (.bipush 57, 2) := by decide +kernel
theorem d_expected_37 : decode method_3_code 37 = .ok (.if_icmp .gt 5, 3) := by decide +kernel
theorem d_expected_40 : decode method_3_code 40 = .ok (.iconst 1, 1) := by decide +kernel
theorem d_expected_41 : decode method_3_code 41 = .ok (.ireturn, 1) := by decide +kernel
theorem d_expected_42 : decode method_3_code 42 = .ok (.iload_n 0, 1) := by decide +kernel
theorem d_expected_43 : decode method_3_code 43 = .ok (.bipush 46, 2) := by decide +kernel
theorem d_expected_45 : decode method_3_code 45 = .ok (.if_icmp .eq 27, 3) := by decide +kernel
theorem d_expected_48 : decode method_3_code 48 = .ok (.iload_n 0, 1) := by decide +kernel
theorem d_expected_49 : decode method_3_code 49 = .ok (.bipush 95, 2) := by decide +kernel
theorem d_expected_51 : decode method_3_code 51 = .ok (.if_icmp .eq 21, 3) := by decide +kernel
theorem d_expected_54 : decode method_3_code 54 = .ok (.iload_n 0, 1) := by decide +kernel
theorem d_expected_55 : decode method_3_code 55 = .ok (.bipush 45, 2) := by decide +kernel
theorem d_expected_57 : decode method_3_code 57 = .ok (.if_icmp .eq 15, 3) := by decide +kernel
theorem d_expected_60 : decode method_3_code 60 = .ok (.iload_n 0, 1) := by decide +kernel
theorem d_expected_61 : decode method_3_code 61 = .ok (.bipush 58, 2) := by decide +kernel
theorem d_expected_63 : decode method_3_code 63 = .ok (.if_icmp .eq 9, 3) := by decide +kernel
theorem d_expected_66 : decode method_3_code 66 = .ok (.iload_n 0, 1) := by decide +kernel
theorem d_expected_67 : decode method_3_code 67 = .ok (.bipush 64, 2) := by decide +kernel
theorem d_expected_69 : decode method_3_code 69 = .ok (.if_icmp .ne 7, 3) := by decide +kernel
theorem d_expected_72 : decode method_3_code 72 = .ok (.iconst 1, 1) := by decide +kernel
theorem d_expected_73 : decode method_3_code 73 = .ok (.goto 4, 3) := by decide +kernel
theorem d_expected_76 : decode method_3_code 76 = .ok (.iconst 0, 1) := by decide +kernel
theorem d_expected_77 : decode method_3_code 77 = .ok (.ireturn, 1) := by decide +kernel
def r_expected : Room := { frames := 0, cells := 0, slots := 0, locals := 0 }
def Q_expected (Z : State) (c : Int32) (h0 : Heap) (v : Option Value) (h : Heap) : Prop := v = some (.int (ownNm c)) ∧ h0 = h
set_option maxRecDepth 65536 in
set_option maxHeartbeats 40000000 in
theorem rm_expected (l : Launch) (Z : State) (a0 : Array Value) (hw : oHw Z a0) (c : Int32) (h0 : Heap) : oMet l Z (⟨"com/example/phone_conformance_check/phoneconformancecheck/capture/PropertyIsNameCharacterPinLaw", "expected", "(C)Z"⟩ : MethodName) method_3_code 1 (some .boolean) r_expected [] #[(.int c)] h0 (Q_expected Z c h0) := by
  refine oEnter (plainFor_of_name (by first | (simp [plainName, overriddenIn]; done) | decide +kernel)) (own := "com/example/phone_conformance_check/phoneconformancecheck/capture/PropertyIsNameCharacterPinLaw") (nm := "expected") rfl rfl (L := #[.val (.int c)]) (fun m => by first | (simp [entryFrame, mkF, argsToLocals, Value.category]; done) | rfl) ?_
  intro pp ee ss mm bb mtd cc T0 K X0
  have E0 := X0.ext0
  refine o_iloadN K X0 d_expected_0 (pc' := 1) rfl rfl ?_
  refine o_bipush K X0 d_expected_1 (pc' := 3) rfl (z := (97 : Int32)) rfl ?_
  by_cases c3_1 : c < (97 : Int32)
  · refine o_icmp_lt_t K X0 d_expected_3 (by decide) (pc' := 14) (by decide) c3_1 ?_
    refine o_iloadN K X0 d_expected_14 (pc' := 15) rfl rfl ?_
    refine o_bipush K X0 d_expected_15 (pc' := 17) rfl (z := (65 : Int32)) rfl ?_
    by_cases c17_2 : c < (65 : Int32)
    · refine o_icmp_lt_t K X0 d_expected_17 (by decide) (pc' := 28) (by decide) c17_2 ?_
      refine o_iloadN K X0 d_expected_28 (pc' := 29) rfl rfl ?_
      refine o_bipush K X0 d_expected_29 (pc' := 31) rfl (z := (48 : Int32)) rfl ?_
      by_cases c31_3 : c < (48 : Int32)
      · refine o_icmp_lt_t K X0 d_expected_31 (by decide) (pc' := 42) (by decide) c31_3 ?_
        refine o_iloadN K X0 d_expected_42 (pc' := 43) rfl rfl ?_
        refine o_bipush K X0 d_expected_43 (pc' := 45) rfl (z := (46 : Int32)) rfl ?_
        by_cases c45_4 : c = (46 : Int32)
        · refine o_icmp_eq_t K X0 d_expected_45 (by decide) (pc' := 72) (by decide) c45_4 ?_
          refine o_iconst K X0 d_expected_72 (pc' := 73) rfl (z := (1 : Int32)) rfl ?_
          refine o_goto K X0 d_expected_73 (by decide) (pc' := 77) (by decide) ?_
          refine o_ireturnN K X0 .boolean d_expected_77 rfl (by simp) (z' := (1 : Int32)) (by decide) ?_ (by decide) (by decide)
          have i5 := Int32.lt_iff_toInt_lt.mp c3_1
          have i6 := Int32.lt_iff_toInt_lt.mp c17_2
          have i7 := Int32.lt_iff_toInt_lt.mp c31_3
          have i8 := congrArg Int32.toInt c45_4
          have z46 : (46 : Int32).toInt = 46 := by decide
          have z48 : (48 : Int32).toInt = 48 := by decide
          have z65 : (65 : Int32).toInt = 65 := by decide
          have z97 : (97 : Int32).toInt = 97 := by decide
          exact ⟨congrArg (fun z => some (Value.int z)) (if_pos (by omega)).symm, rfl⟩
        · refine o_icmp_eq_f K X0 d_expected_45 (pc' := 48) rfl c45_4 ?_
          refine o_iloadN K X0 d_expected_48 (pc' := 49) rfl rfl ?_
          refine o_bipush K X0 d_expected_49 (pc' := 51) rfl (z := (95 : Int32)) rfl ?_
          refine o_icmp_eq_f K X0 d_expected_51 (pc' := 54) rfl (by have i0 := Int32.lt_iff_toInt_lt.mp c3_1; have i1 := Int32.lt_iff_toInt_lt.mp c17_2; have i2 := Int32.lt_iff_toInt_lt.mp c31_3; have i3 := mt Int32.toInt_inj.mp c45_4; have z46 : (46 : Int32).toInt = 46 := (by decide); have z48 : (48 : Int32).toInt = 48 := (by decide); have z65 : (65 : Int32).toInt = 65 := (by decide); have z95 : (95 : Int32).toInt = 95 := (by decide); have z97 : (97 : Int32).toInt = 97 := (by decide); rw [← Int32.toInt_inj]; omega) ?_
          refine o_iloadN K X0 d_expected_54 (pc' := 55) rfl rfl ?_
          refine o_bipush K X0 d_expected_55 (pc' := 57) rfl (z := (45 : Int32)) rfl ?_
          by_cases c57_9 : c = (45 : Int32)
          · refine o_icmp_eq_t K X0 d_expected_57 (by decide) (pc' := 72) (by decide) c57_9 ?_
            refine o_iconst K X0 d_expected_72 (pc' := 73) rfl (z := (1 : Int32)) rfl ?_
            refine o_goto K X0 d_expected_73 (by decide) (pc' := 77) (by decide) ?_
            refine o_ireturnN K X0 .boolean d_expected_77 rfl (by simp) (z' := (1 : Int32)) (by decide) ?_ (by decide) (by decide)
            have i10 := Int32.lt_iff_toInt_lt.mp c3_1
            have i11 := Int32.lt_iff_toInt_lt.mp c17_2
            have i12 := Int32.lt_iff_toInt_lt.mp c31_3
            have i13 := mt Int32.toInt_inj.mp c45_4
            have i14 := congrArg Int32.toInt c57_9
            have z45 : (45 : Int32).toInt = 45 := by decide
            have z46 : (46 : Int32).toInt = 46 := by decide
            have z48 : (48 : Int32).toInt = 48 := by decide
            have z65 : (65 : Int32).toInt = 65 := by decide
            have z97 : (97 : Int32).toInt = 97 := by decide
            exact ⟨congrArg (fun z => some (Value.int z)) (if_pos (by omega)).symm, rfl⟩
          · refine o_icmp_eq_f K X0 d_expected_57 (pc' := 60) rfl c57_9 ?_
            refine o_iloadN K X0 d_expected_60 (pc' := 61) rfl rfl ?_
            refine o_bipush K X0 d_expected_61 (pc' := 63) rfl (z := (58 : Int32)) rfl ?_
            refine o_icmp_eq_f K X0 d_expected_63 (pc' := 66) rfl (by have i0 := Int32.lt_iff_toInt_lt.mp c3_1; have i1 := Int32.lt_iff_toInt_lt.mp c17_2; have i2 := Int32.lt_iff_toInt_lt.mp c31_3; have i3 := mt Int32.toInt_inj.mp c45_4; have i4 := mt Int32.toInt_inj.mp c57_9; have z45 : (45 : Int32).toInt = 45 := (by decide); have z46 : (46 : Int32).toInt = 46 := (by decide); have z48 : (48 : Int32).toInt = 48 := (by decide); have z58 : (58 : Int32).toInt = 58 := (by decide); have z65 : (65 : Int32).toInt = 65 := (by decide); have z97 : (97 : Int32).toInt = 97 := (by decide); rw [← Int32.toInt_inj]; omega) ?_
            refine o_iloadN K X0 d_expected_66 (pc' := 67) rfl rfl ?_
            refine o_bipush K X0 d_expected_67 (pc' := 69) rfl (z := (64 : Int32)) rfl ?_
            refine o_icmp_ne_t K X0 d_expected_69 (by decide) (pc' := 76) (by decide) (by have i0 := Int32.lt_iff_toInt_lt.mp c3_1; have i1 := Int32.lt_iff_toInt_lt.mp c17_2; have i2 := Int32.lt_iff_toInt_lt.mp c31_3; have i3 := mt Int32.toInt_inj.mp c45_4; have i4 := mt Int32.toInt_inj.mp c57_9; have z45 : (45 : Int32).toInt = 45 := (by decide); have z46 : (46 : Int32).toInt = 46 := (by decide); have z48 : (48 : Int32).toInt = 48 := (by decide); have z64 : (64 : Int32).toInt = 64 := (by decide); have z65 : (65 : Int32).toInt = 65 := (by decide); have z97 : (97 : Int32).toInt = 97 := (by decide); rw [← Int32.toInt_inj]; omega) ?_
            refine o_iconst K X0 d_expected_76 (pc' := 77) rfl (z := (0 : Int32)) rfl ?_
            refine o_ireturnN K X0 .boolean d_expected_77 rfl (by simp) (z' := (0 : Int32)) (by decide) ?_ (by decide) (by decide)
            have i15 := Int32.lt_iff_toInt_lt.mp c3_1
            have i16 := Int32.lt_iff_toInt_lt.mp c17_2
            have i17 := Int32.lt_iff_toInt_lt.mp c31_3
            have i18 := mt Int32.toInt_inj.mp c45_4
            have i19 := mt Int32.toInt_inj.mp c57_9
            have z45 : (45 : Int32).toInt = 45 := by decide
            have z46 : (46 : Int32).toInt = 46 := by decide
            have z48 : (48 : Int32).toInt = 48 := by decide
            have z65 : (65 : Int32).toInt = 65 := by decide
            have z97 : (97 : Int32).toInt = 97 := by decide
            exact ⟨congrArg (fun z => some (Value.int z)) (if_neg (by omega)).symm, rfl⟩
      · refine o_icmp_lt_f K X0 d_expected_31 (pc' := 34) rfl c31_3 ?_
        refine o_iloadN K X0 d_expected_34 (pc' := 35) rfl rfl ?_
        refine o_bipush K X0 d_expected_35 (pc' := 37) rfl (z := (57 : Int32)) rfl ?_
        by_cases c37_20 : (57 : Int32) < c
        · refine o_icmp_gt_t K X0 d_expected_37 (by decide) (pc' := 42) (by decide) c37_20 ?_
          refine o_iloadN K X0 d_expected_42 (pc' := 43) rfl rfl ?_
          refine o_bipush K X0 d_expected_43 (pc' := 45) rfl (z := (46 : Int32)) rfl ?_
          refine o_icmp_eq_f K X0 d_expected_45 (pc' := 48) rfl (by have i0 := Int32.lt_iff_toInt_lt.mp c3_1; have i1 := Int32.lt_iff_toInt_lt.mp c17_2; have i2 := mt Int32.lt_iff_toInt_lt.mpr c31_3; have i3 := Int32.lt_iff_toInt_lt.mp c37_20; have z46 : (46 : Int32).toInt = 46 := (by decide); have z48 : (48 : Int32).toInt = 48 := (by decide); have z57 : (57 : Int32).toInt = 57 := (by decide); have z65 : (65 : Int32).toInt = 65 := (by decide); have z97 : (97 : Int32).toInt = 97 := (by decide); rw [← Int32.toInt_inj]; omega) ?_
          refine o_iloadN K X0 d_expected_48 (pc' := 49) rfl rfl ?_
          refine o_bipush K X0 d_expected_49 (pc' := 51) rfl (z := (95 : Int32)) rfl ?_
          refine o_icmp_eq_f K X0 d_expected_51 (pc' := 54) rfl (by have i0 := Int32.lt_iff_toInt_lt.mp c3_1; have i1 := Int32.lt_iff_toInt_lt.mp c17_2; have i2 := mt Int32.lt_iff_toInt_lt.mpr c31_3; have i3 := Int32.lt_iff_toInt_lt.mp c37_20; have z48 : (48 : Int32).toInt = 48 := (by decide); have z57 : (57 : Int32).toInt = 57 := (by decide); have z65 : (65 : Int32).toInt = 65 := (by decide); have z95 : (95 : Int32).toInt = 95 := (by decide); have z97 : (97 : Int32).toInt = 97 := (by decide); rw [← Int32.toInt_inj]; omega) ?_
          refine o_iloadN K X0 d_expected_54 (pc' := 55) rfl rfl ?_
          refine o_bipush K X0 d_expected_55 (pc' := 57) rfl (z := (45 : Int32)) rfl ?_
          refine o_icmp_eq_f K X0 d_expected_57 (pc' := 60) rfl (by have i0 := Int32.lt_iff_toInt_lt.mp c3_1; have i1 := Int32.lt_iff_toInt_lt.mp c17_2; have i2 := mt Int32.lt_iff_toInt_lt.mpr c31_3; have i3 := Int32.lt_iff_toInt_lt.mp c37_20; have z45 : (45 : Int32).toInt = 45 := (by decide); have z48 : (48 : Int32).toInt = 48 := (by decide); have z57 : (57 : Int32).toInt = 57 := (by decide); have z65 : (65 : Int32).toInt = 65 := (by decide); have z97 : (97 : Int32).toInt = 97 := (by decide); rw [← Int32.toInt_inj]; omega) ?_
          refine o_iloadN K X0 d_expected_60 (pc' := 61) rfl rfl ?_
          refine o_bipush K X0 d_expected_61 (pc' := 63) rfl (z := (58 : Int32)) rfl ?_
          by_cases c63_21 : c = (58 : Int32)
          · refine o_icmp_eq_t K X0 d_expected_63 (by decide) (pc' := 72) (by decide) c63_21 ?_
            refine o_iconst K X0 d_expected_72 (pc' := 73) rfl (z := (1 : Int32)) rfl ?_
            refine o_goto K X0 d_expected_73 (by decide) (pc' := 77) (by decide) ?_
            refine o_ireturnN K X0 .boolean d_expected_77 rfl (by simp) (z' := (1 : Int32)) (by decide) ?_ (by decide) (by decide)
            have i22 := Int32.lt_iff_toInt_lt.mp c3_1
            have i23 := Int32.lt_iff_toInt_lt.mp c17_2
            have i24 := mt Int32.lt_iff_toInt_lt.mpr c31_3
            have i25 := Int32.lt_iff_toInt_lt.mp c37_20
            have i26 := congrArg Int32.toInt c63_21
            have z48 : (48 : Int32).toInt = 48 := by decide
            have z57 : (57 : Int32).toInt = 57 := by decide
            have z58 : (58 : Int32).toInt = 58 := by decide
            have z65 : (65 : Int32).toInt = 65 := by decide
            have z97 : (97 : Int32).toInt = 97 := by decide
            exact ⟨congrArg (fun z => some (Value.int z)) (if_pos (by omega)).symm, rfl⟩
          · refine o_icmp_eq_f K X0 d_expected_63 (pc' := 66) rfl c63_21 ?_
            refine o_iloadN K X0 d_expected_66 (pc' := 67) rfl rfl ?_
            refine o_bipush K X0 d_expected_67 (pc' := 69) rfl (z := (64 : Int32)) rfl ?_
            by_cases c69_27 : c = (64 : Int32)
            · refine o_icmp_ne_f K X0 d_expected_69 (pc' := 72) rfl c69_27 ?_
              refine o_iconst K X0 d_expected_72 (pc' := 73) rfl (z := (1 : Int32)) rfl ?_
              refine o_goto K X0 d_expected_73 (by decide) (pc' := 77) (by decide) ?_
              refine o_ireturnN K X0 .boolean d_expected_77 rfl (by simp) (z' := (1 : Int32)) (by decide) ?_ (by decide) (by decide)
              have i28 := Int32.lt_iff_toInt_lt.mp c3_1
              have i29 := Int32.lt_iff_toInt_lt.mp c17_2
              have i30 := mt Int32.lt_iff_toInt_lt.mpr c31_3
              have i31 := Int32.lt_iff_toInt_lt.mp c37_20
              have i32 := mt Int32.toInt_inj.mp c63_21
              have i33 := congrArg Int32.toInt c69_27
              have z48 : (48 : Int32).toInt = 48 := by decide
              have z57 : (57 : Int32).toInt = 57 := by decide
              have z58 : (58 : Int32).toInt = 58 := by decide
              have z64 : (64 : Int32).toInt = 64 := by decide
              have z65 : (65 : Int32).toInt = 65 := by decide
              have z97 : (97 : Int32).toInt = 97 := by decide
              exact ⟨congrArg (fun z => some (Value.int z)) (if_pos (by omega)).symm, rfl⟩
            · refine o_icmp_ne_t K X0 d_expected_69 (by decide) (pc' := 76) (by decide) c69_27 ?_
              refine o_iconst K X0 d_expected_76 (pc' := 77) rfl (z := (0 : Int32)) rfl ?_
              refine o_ireturnN K X0 .boolean d_expected_77 rfl (by simp) (z' := (0 : Int32)) (by decide) ?_ (by decide) (by decide)
              have i34 := Int32.lt_iff_toInt_lt.mp c3_1
              have i35 := Int32.lt_iff_toInt_lt.mp c17_2
              have i36 := mt Int32.lt_iff_toInt_lt.mpr c31_3
              have i37 := Int32.lt_iff_toInt_lt.mp c37_20
              have i38 := mt Int32.toInt_inj.mp c63_21
              have i39 := mt Int32.toInt_inj.mp c69_27
              have z48 : (48 : Int32).toInt = 48 := by decide
              have z57 : (57 : Int32).toInt = 57 := by decide
              have z58 : (58 : Int32).toInt = 58 := by decide
              have z64 : (64 : Int32).toInt = 64 := by decide
              have z65 : (65 : Int32).toInt = 65 := by decide
              have z97 : (97 : Int32).toInt = 97 := by decide
              exact ⟨congrArg (fun z => some (Value.int z)) (if_neg (by omega)).symm, rfl⟩
        · refine o_icmp_gt_f K X0 d_expected_37 (pc' := 40) rfl c37_20 ?_
          refine o_iconst K X0 d_expected_40 (pc' := 41) rfl (z := (1 : Int32)) rfl ?_
          refine o_ireturnN K X0 .boolean d_expected_41 rfl (by simp) (z' := (1 : Int32)) (by decide) ?_ (by decide) (by decide)
          have i40 := Int32.lt_iff_toInt_lt.mp c3_1
          have i41 := Int32.lt_iff_toInt_lt.mp c17_2
          have i42 := mt Int32.lt_iff_toInt_lt.mpr c31_3
          have i43 := mt Int32.lt_iff_toInt_lt.mpr c37_20
          have z48 : (48 : Int32).toInt = 48 := by decide
          have z57 : (57 : Int32).toInt = 57 := by decide
          have z65 : (65 : Int32).toInt = 65 := by decide
          have z97 : (97 : Int32).toInt = 97 := by decide
          exact ⟨congrArg (fun z => some (Value.int z)) (if_pos (by omega)).symm, rfl⟩
    · refine o_icmp_lt_f K X0 d_expected_17 (pc' := 20) rfl c17_2 ?_
      refine o_iloadN K X0 d_expected_20 (pc' := 21) rfl rfl ?_
      refine o_bipush K X0 d_expected_21 (pc' := 23) rfl (z := (90 : Int32)) rfl ?_
      by_cases c23_44 : (90 : Int32) < c
      · refine o_icmp_gt_t K X0 d_expected_23 (by decide) (pc' := 28) (by decide) c23_44 ?_
        refine o_iloadN K X0 d_expected_28 (pc' := 29) rfl rfl ?_
        refine o_bipush K X0 d_expected_29 (pc' := 31) rfl (z := (48 : Int32)) rfl ?_
        refine o_icmp_lt_f K X0 d_expected_31 (pc' := 34) rfl (by have i0 := Int32.lt_iff_toInt_lt.mp c3_1; have i1 := mt Int32.lt_iff_toInt_lt.mpr c17_2; have i2 := Int32.lt_iff_toInt_lt.mp c23_44; have z48 : (48 : Int32).toInt = 48 := (by decide); have z65 : (65 : Int32).toInt = 65 := (by decide); have z90 : (90 : Int32).toInt = 90 := (by decide); have z97 : (97 : Int32).toInt = 97 := (by decide); rw [Int32.lt_iff_toInt_lt]; omega) ?_
        refine o_iloadN K X0 d_expected_34 (pc' := 35) rfl rfl ?_
        refine o_bipush K X0 d_expected_35 (pc' := 37) rfl (z := (57 : Int32)) rfl ?_
        refine o_icmp_gt_t K X0 d_expected_37 (by decide) (pc' := 42) (by decide) (by have i0 := Int32.lt_iff_toInt_lt.mp c3_1; have i1 := mt Int32.lt_iff_toInt_lt.mpr c17_2; have i2 := Int32.lt_iff_toInt_lt.mp c23_44; have z57 : (57 : Int32).toInt = 57 := (by decide); have z65 : (65 : Int32).toInt = 65 := (by decide); have z90 : (90 : Int32).toInt = 90 := (by decide); have z97 : (97 : Int32).toInt = 97 := (by decide); rw [Int32.lt_iff_toInt_lt]; omega) ?_
        refine o_iloadN K X0 d_expected_42 (pc' := 43) rfl rfl ?_
        refine o_bipush K X0 d_expected_43 (pc' := 45) rfl (z := (46 : Int32)) rfl ?_
        refine o_icmp_eq_f K X0 d_expected_45 (pc' := 48) rfl (by have i0 := Int32.lt_iff_toInt_lt.mp c3_1; have i1 := mt Int32.lt_iff_toInt_lt.mpr c17_2; have i2 := Int32.lt_iff_toInt_lt.mp c23_44; have z46 : (46 : Int32).toInt = 46 := (by decide); have z65 : (65 : Int32).toInt = 65 := (by decide); have z90 : (90 : Int32).toInt = 90 := (by decide); have z97 : (97 : Int32).toInt = 97 := (by decide); rw [← Int32.toInt_inj]; omega) ?_
        refine o_iloadN K X0 d_expected_48 (pc' := 49) rfl rfl ?_
        refine o_bipush K X0 d_expected_49 (pc' := 51) rfl (z := (95 : Int32)) rfl ?_
        by_cases c51_45 : c = (95 : Int32)
        · refine o_icmp_eq_t K X0 d_expected_51 (by decide) (pc' := 72) (by decide) c51_45 ?_
          refine o_iconst K X0 d_expected_72 (pc' := 73) rfl (z := (1 : Int32)) rfl ?_
          refine o_goto K X0 d_expected_73 (by decide) (pc' := 77) (by decide) ?_
          refine o_ireturnN K X0 .boolean d_expected_77 rfl (by simp) (z' := (1 : Int32)) (by decide) ?_ (by decide) (by decide)
          have i46 := Int32.lt_iff_toInt_lt.mp c3_1
          have i47 := mt Int32.lt_iff_toInt_lt.mpr c17_2
          have i48 := Int32.lt_iff_toInt_lt.mp c23_44
          have i49 := congrArg Int32.toInt c51_45
          have z65 : (65 : Int32).toInt = 65 := by decide
          have z90 : (90 : Int32).toInt = 90 := by decide
          have z95 : (95 : Int32).toInt = 95 := by decide
          have z97 : (97 : Int32).toInt = 97 := by decide
          exact ⟨congrArg (fun z => some (Value.int z)) (if_pos (by omega)).symm, rfl⟩
        · refine o_icmp_eq_f K X0 d_expected_51 (pc' := 54) rfl c51_45 ?_
          refine o_iloadN K X0 d_expected_54 (pc' := 55) rfl rfl ?_
          refine o_bipush K X0 d_expected_55 (pc' := 57) rfl (z := (45 : Int32)) rfl ?_
          refine o_icmp_eq_f K X0 d_expected_57 (pc' := 60) rfl (by have i0 := Int32.lt_iff_toInt_lt.mp c3_1; have i1 := mt Int32.lt_iff_toInt_lt.mpr c17_2; have i2 := Int32.lt_iff_toInt_lt.mp c23_44; have i3 := mt Int32.toInt_inj.mp c51_45; have z45 : (45 : Int32).toInt = 45 := (by decide); have z65 : (65 : Int32).toInt = 65 := (by decide); have z90 : (90 : Int32).toInt = 90 := (by decide); have z95 : (95 : Int32).toInt = 95 := (by decide); have z97 : (97 : Int32).toInt = 97 := (by decide); rw [← Int32.toInt_inj]; omega) ?_
          refine o_iloadN K X0 d_expected_60 (pc' := 61) rfl rfl ?_
          refine o_bipush K X0 d_expected_61 (pc' := 63) rfl (z := (58 : Int32)) rfl ?_
          refine o_icmp_eq_f K X0 d_expected_63 (pc' := 66) rfl (by have i0 := Int32.lt_iff_toInt_lt.mp c3_1; have i1 := mt Int32.lt_iff_toInt_lt.mpr c17_2; have i2 := Int32.lt_iff_toInt_lt.mp c23_44; have i3 := mt Int32.toInt_inj.mp c51_45; have z58 : (58 : Int32).toInt = 58 := (by decide); have z65 : (65 : Int32).toInt = 65 := (by decide); have z90 : (90 : Int32).toInt = 90 := (by decide); have z95 : (95 : Int32).toInt = 95 := (by decide); have z97 : (97 : Int32).toInt = 97 := (by decide); rw [← Int32.toInt_inj]; omega) ?_
          refine o_iloadN K X0 d_expected_66 (pc' := 67) rfl rfl ?_
          refine o_bipush K X0 d_expected_67 (pc' := 69) rfl (z := (64 : Int32)) rfl ?_
          refine o_icmp_ne_t K X0 d_expected_69 (by decide) (pc' := 76) (by decide) (by have i0 := Int32.lt_iff_toInt_lt.mp c3_1; have i1 := mt Int32.lt_iff_toInt_lt.mpr c17_2; have i2 := Int32.lt_iff_toInt_lt.mp c23_44; have i3 := mt Int32.toInt_inj.mp c51_45; have z64 : (64 : Int32).toInt = 64 := (by decide); have z65 : (65 : Int32).toInt = 65 := (by decide); have z90 : (90 : Int32).toInt = 90 := (by decide); have z95 : (95 : Int32).toInt = 95 := (by decide); have z97 : (97 : Int32).toInt = 97 := (by decide); rw [← Int32.toInt_inj]; omega) ?_
          refine o_iconst K X0 d_expected_76 (pc' := 77) rfl (z := (0 : Int32)) rfl ?_
          refine o_ireturnN K X0 .boolean d_expected_77 rfl (by simp) (z' := (0 : Int32)) (by decide) ?_ (by decide) (by decide)
          have i50 := Int32.lt_iff_toInt_lt.mp c3_1
          have i51 := mt Int32.lt_iff_toInt_lt.mpr c17_2
          have i52 := Int32.lt_iff_toInt_lt.mp c23_44
          have i53 := mt Int32.toInt_inj.mp c51_45
          have z65 : (65 : Int32).toInt = 65 := by decide
          have z90 : (90 : Int32).toInt = 90 := by decide
          have z95 : (95 : Int32).toInt = 95 := by decide
          have z97 : (97 : Int32).toInt = 97 := by decide
          exact ⟨congrArg (fun z => some (Value.int z)) (if_neg (by omega)).symm, rfl⟩
      · refine o_icmp_gt_f K X0 d_expected_23 (pc' := 26) rfl c23_44 ?_
        refine o_iconst K X0 d_expected_26 (pc' := 27) rfl (z := (1 : Int32)) rfl ?_
        refine o_ireturnN K X0 .boolean d_expected_27 rfl (by simp) (z' := (1 : Int32)) (by decide) ?_ (by decide) (by decide)
        have i54 := Int32.lt_iff_toInt_lt.mp c3_1
        have i55 := mt Int32.lt_iff_toInt_lt.mpr c17_2
        have i56 := mt Int32.lt_iff_toInt_lt.mpr c23_44
        have z65 : (65 : Int32).toInt = 65 := by decide
        have z90 : (90 : Int32).toInt = 90 := by decide
        have z97 : (97 : Int32).toInt = 97 := by decide
        exact ⟨congrArg (fun z => some (Value.int z)) (if_pos (by omega)).symm, rfl⟩
  · refine o_icmp_lt_f K X0 d_expected_3 (pc' := 6) rfl c3_1 ?_
    refine o_iloadN K X0 d_expected_6 (pc' := 7) rfl rfl ?_
    refine o_bipush K X0 d_expected_7 (pc' := 9) rfl (z := (122 : Int32)) rfl ?_
    by_cases c9_57 : (122 : Int32) < c
    · refine o_icmp_gt_t K X0 d_expected_9 (by decide) (pc' := 14) (by decide) c9_57 ?_
      refine o_iloadN K X0 d_expected_14 (pc' := 15) rfl rfl ?_
      refine o_bipush K X0 d_expected_15 (pc' := 17) rfl (z := (65 : Int32)) rfl ?_
      refine o_icmp_lt_f K X0 d_expected_17 (pc' := 20) rfl (by have i0 := mt Int32.lt_iff_toInt_lt.mpr c3_1; have i1 := Int32.lt_iff_toInt_lt.mp c9_57; have z122 : (122 : Int32).toInt = 122 := (by decide); have z65 : (65 : Int32).toInt = 65 := (by decide); have z97 : (97 : Int32).toInt = 97 := (by decide); rw [Int32.lt_iff_toInt_lt]; omega) ?_
      refine o_iloadN K X0 d_expected_20 (pc' := 21) rfl rfl ?_
      refine o_bipush K X0 d_expected_21 (pc' := 23) rfl (z := (90 : Int32)) rfl ?_
      refine o_icmp_gt_t K X0 d_expected_23 (by decide) (pc' := 28) (by decide) (by have i0 := mt Int32.lt_iff_toInt_lt.mpr c3_1; have i1 := Int32.lt_iff_toInt_lt.mp c9_57; have z122 : (122 : Int32).toInt = 122 := (by decide); have z90 : (90 : Int32).toInt = 90 := (by decide); have z97 : (97 : Int32).toInt = 97 := (by decide); rw [Int32.lt_iff_toInt_lt]; omega) ?_
      refine o_iloadN K X0 d_expected_28 (pc' := 29) rfl rfl ?_
      refine o_bipush K X0 d_expected_29 (pc' := 31) rfl (z := (48 : Int32)) rfl ?_
      refine o_icmp_lt_f K X0 d_expected_31 (pc' := 34) rfl (by have i0 := mt Int32.lt_iff_toInt_lt.mpr c3_1; have i1 := Int32.lt_iff_toInt_lt.mp c9_57; have z122 : (122 : Int32).toInt = 122 := (by decide); have z48 : (48 : Int32).toInt = 48 := (by decide); have z97 : (97 : Int32).toInt = 97 := (by decide); rw [Int32.lt_iff_toInt_lt]; omega) ?_
      refine o_iloadN K X0 d_expected_34 (pc' := 35) rfl rfl ?_
      refine o_bipush K X0 d_expected_35 (pc' := 37) rfl (z := (57 : Int32)) rfl ?_
      refine o_icmp_gt_t K X0 d_expected_37 (by decide) (pc' := 42) (by decide) (by have i0 := mt Int32.lt_iff_toInt_lt.mpr c3_1; have i1 := Int32.lt_iff_toInt_lt.mp c9_57; have z122 : (122 : Int32).toInt = 122 := (by decide); have z57 : (57 : Int32).toInt = 57 := (by decide); have z97 : (97 : Int32).toInt = 97 := (by decide); rw [Int32.lt_iff_toInt_lt]; omega) ?_
      refine o_iloadN K X0 d_expected_42 (pc' := 43) rfl rfl ?_
      refine o_bipush K X0 d_expected_43 (pc' := 45) rfl (z := (46 : Int32)) rfl ?_
      refine o_icmp_eq_f K X0 d_expected_45 (pc' := 48) rfl (by have i0 := mt Int32.lt_iff_toInt_lt.mpr c3_1; have i1 := Int32.lt_iff_toInt_lt.mp c9_57; have z122 : (122 : Int32).toInt = 122 := (by decide); have z46 : (46 : Int32).toInt = 46 := (by decide); have z97 : (97 : Int32).toInt = 97 := (by decide); rw [← Int32.toInt_inj]; omega) ?_
      refine o_iloadN K X0 d_expected_48 (pc' := 49) rfl rfl ?_
      refine o_bipush K X0 d_expected_49 (pc' := 51) rfl (z := (95 : Int32)) rfl ?_
      refine o_icmp_eq_f K X0 d_expected_51 (pc' := 54) rfl (by have i0 := mt Int32.lt_iff_toInt_lt.mpr c3_1; have i1 := Int32.lt_iff_toInt_lt.mp c9_57; have z122 : (122 : Int32).toInt = 122 := (by decide); have z95 : (95 : Int32).toInt = 95 := (by decide); have z97 : (97 : Int32).toInt = 97 := (by decide); rw [← Int32.toInt_inj]; omega) ?_
      refine o_iloadN K X0 d_expected_54 (pc' := 55) rfl rfl ?_
      refine o_bipush K X0 d_expected_55 (pc' := 57) rfl (z := (45 : Int32)) rfl ?_
      refine o_icmp_eq_f K X0 d_expected_57 (pc' := 60) rfl (by have i0 := mt Int32.lt_iff_toInt_lt.mpr c3_1; have i1 := Int32.lt_iff_toInt_lt.mp c9_57; have z122 : (122 : Int32).toInt = 122 := (by decide); have z45 : (45 : Int32).toInt = 45 := (by decide); have z97 : (97 : Int32).toInt = 97 := (by decide); rw [← Int32.toInt_inj]; omega) ?_
      refine o_iloadN K X0 d_expected_60 (pc' := 61) rfl rfl ?_
      refine o_bipush K X0 d_expected_61 (pc' := 63) rfl (z := (58 : Int32)) rfl ?_
      refine o_icmp_eq_f K X0 d_expected_63 (pc' := 66) rfl (by have i0 := mt Int32.lt_iff_toInt_lt.mpr c3_1; have i1 := Int32.lt_iff_toInt_lt.mp c9_57; have z122 : (122 : Int32).toInt = 122 := (by decide); have z58 : (58 : Int32).toInt = 58 := (by decide); have z97 : (97 : Int32).toInt = 97 := (by decide); rw [← Int32.toInt_inj]; omega) ?_
      refine o_iloadN K X0 d_expected_66 (pc' := 67) rfl rfl ?_
      refine o_bipush K X0 d_expected_67 (pc' := 69) rfl (z := (64 : Int32)) rfl ?_
      refine o_icmp_ne_t K X0 d_expected_69 (by decide) (pc' := 76) (by decide) (by have i0 := mt Int32.lt_iff_toInt_lt.mpr c3_1; have i1 := Int32.lt_iff_toInt_lt.mp c9_57; have z122 : (122 : Int32).toInt = 122 := (by decide); have z64 : (64 : Int32).toInt = 64 := (by decide); have z97 : (97 : Int32).toInt = 97 := (by decide); rw [← Int32.toInt_inj]; omega) ?_
      refine o_iconst K X0 d_expected_76 (pc' := 77) rfl (z := (0 : Int32)) rfl ?_
      refine o_ireturnN K X0 .boolean d_expected_77 rfl (by simp) (z' := (0 : Int32)) (by decide) ?_ (by decide) (by decide)
      have i58 := mt Int32.lt_iff_toInt_lt.mpr c3_1
      have i59 := Int32.lt_iff_toInt_lt.mp c9_57
      have z122 : (122 : Int32).toInt = 122 := by decide
      have z97 : (97 : Int32).toInt = 97 := by decide
      exact ⟨congrArg (fun z => some (Value.int z)) (if_neg (by omega)).symm, rfl⟩
    · refine o_icmp_gt_f K X0 d_expected_9 (pc' := 12) rfl c9_57 ?_
      refine o_iconst K X0 d_expected_12 (pc' := 13) rfl (z := (1 : Int32)) rfl ?_
      refine o_ireturnN K X0 .boolean d_expected_13 rfl (by simp) (z' := (1 : Int32)) (by decide) ?_ (by decide) (by decide)
      have i60 := mt Int32.lt_iff_toInt_lt.mpr c3_1
      have i61 := mt Int32.lt_iff_toInt_lt.mpr c9_57
      have z122 : (122 : Int32).toInt = 122 := by decide
      have z97 : (97 : Int32).toInt = 97 := by decide
      exact ⟨congrArg (fun z => some (Value.int z)) (if_pos (by omega)).symm, rfl⟩
theorem pd_law_0 : parseMethodDescriptor "(C)Z" = some ⟨[.char], some .boolean⟩ := by decide +kernel
def Q_law (Z : State) (i0 : Int32) (aa : Addr) (kk : ClassId) (vs : List Value) (h0 : Heap) (v : Option Value) (h : Heap) : Prop := v = some (.int (1 : Int32))
set_option maxRecDepth 65536 in
set_option maxHeartbeats 40000000 in
theorem rm_law (l : Launch) (Z : State) (a0 : Array Value) (hw : oHw Z a0) (i0 : Int32) (aa : Addr) (kk : ClassId) (vs : List Value) (h0 : Heap) (q0 : Sta Z Z.heap "com/example/phone_conformance_check/phoneconformancecheck/capture/Property" "NAME_CHARACTERS" "[Z" (.ref aa)) (q1 : oArr Z Z.heap aa kk .boolean vs) (q2 : vs.length = 128) (q3 : ∀ j : Int32, ¬ j < 0 → j < 128 → vs[j.toNatClampNeg]? = some (.int (ownNm j))) (ws : List Jvm.Cond) : oMet l Z x code maxLocals ret room_1 ws #[(.int i0)] h0 (Q_law Z i0 aa kk vs h0) := by
  refine oEnter (plainFor_of_name (by first | (simp [plainName, overriddenIn]; done) | decide +kernel)) (own := "com/example/phone_conformance_check/phoneconformancecheck/capture/PropertyIsNameCharacterPinLaw") (nm := "law") rfl rfl (L := #[.val (.int i0), .unset]) (fun m => by first | (simp [entryFrame, mkF, argsToLocals, Value.category, maxLocals]; done) | rfl) ?_
  intro pp ee ss mm bb mtd cc T0 K X0
  have E0 := X0.ext0
  refine o_iloadN K X0 at_0 (pc' := 1) rfl rfl ?_
  refine o_ldc K X0 (w0 hw) at_1 (pc' := 3) rfl ?_
  refine o_iand K X0 at_3 (pc' := 4) rfl (z := (i0 &&& (65535 : Int32))) rfl ?_
  refine o_i2c K X0 at_4 (pc' := 5) rfl (z := (i0 &&& (65535 : Int32))) (oNarMask i0 (by decide)) ?_
  refine o_istoreN K X0 at_5 (pc' := 6) rfl (L' := #[.val (.int i0), .val (.int (i0 &&& (65535 : Int32)))]) rfl ?_
  refine o_iloadN K X0 at_6 (pc' := 7) rfl rfl ?_
  refine o_static K X0 (y := (⟨"com/example/phone_conformance_check/phoneconformancecheck/capture/Property", "isNameCharacter", "(C)Z"⟩ : MethodName)) (w1 hw) (w2 hw) (w3 hw) (w4 hw) (by decide) (rm_isname l Z a0 hw (i0 &&& (65535 : Int32)) aa kk vs h0 q0 q1 q2 (oMaskPos _ (by decide)) q3) (by decide) rfl (argsL := [(.int (i0 &&& (65535 : Int32)))]) rfl (lenOf pd_law_0 rfl) (W := 0) rfl (by decide) (by decide) (by decide) at_7 (pc' := 10) rfl ?_
  intro v1 T1 h1 X1 U1
  obtain ⟨rfl, rfl⟩ := U1
  show oGoes pp ee bb ss Z T1 (mkF mm 10 #[.val (.int i0), .val (.int (i0 &&& (65535 : Int32)))] [(.int (ownNm (i0 &&& (65535 : Int32))))]) _ _ _
  refine o_iloadN K X1 at_10 (pc' := 11) rfl rfl ?_
  refine o_static K X1 (y := (⟨"com/example/phone_conformance_check/phoneconformancecheck/capture/PropertyIsNameCharacterPinLaw", "expected", "(C)Z"⟩ : MethodName)) (w7 hw) (w8 hw) (w9 hw) (w10 hw) (by decide) (rm_expected l Z a0 hw (i0 &&& (65535 : Int32)) h0) (by decide) rfl (argsL := [(.int (i0 &&& (65535 : Int32)))]) rfl (lenOf pd_law_0 rfl) (W := 1) rfl (by decide) (by decide) (by decide) at_11 (pc' := 14) rfl ?_
  intro v2 T2 h2 X2 U2
  obtain ⟨rfl, rfl⟩ := U2
  show oGoes pp ee bb ss Z T2 (mkF mm 14 #[.val (.int i0), .val (.int (i0 &&& (65535 : Int32)))] [(.int (ownNm (i0 &&& (65535 : Int32)))), (.int (ownNm (i0 &&& (65535 : Int32))))]) _ _ _
  refine o_icmp_ne_f K X2 at_14 (pc' := 17) rfl rfl ?_
  refine o_iconst K X2 at_17 (pc' := 18) rfl (z := (1 : Int32)) rfl ?_
  refine o_goto K X2 at_18 (by decide) (pc' := 22) (by decide) ?_
  refine o_ireturnN K X2 .boolean at_22 rfl (by simp) (z' := (1 : Int32)) (by decide) ?_ (by decide) (by decide)
  exact rfl
theorem own_all {args : Array Value} {s : State} {a : Addr} {k : ClassId} {vs : List Value} {t : Term} {d : Jvm.Cond} (F : oArr s s.heap a k .boolean vs) (hl : vs.length = 128) (ht : t.eval args s none [] s = some (.ref a)) (q : (Jvm.Cond.all t d).value args s none s [] = some true) : ∀ i, i < 128 → d.value args s none s [i] = some true := by
  obtain ⟨c, A, -, q2, -⟩ := F
  have e := oAll_v q ht (A.fin (U := s) (Vm.Alike.refl _))
  intro i hi
  refine e i ?_
  rw [q2]; simpa [hl] using hi
theorem own_tab {args : Array Value} {s : State} {a : Addr} {k : ClassId} {vs : List Value} (F : oArr s s.heap a k .boolean vs) (hl : vs.length = 128) (ht : (Jvm.Term.static "com/example/phone_conformance_check/phoneconformancecheck/capture/Property" "NAME_CHARACTERS" "[Z").eval args s none [] s = some (.ref a)) (n3 : (Jvm.Cond.all (Jvm.Term.static "com/example/phone_conformance_check/phoneconformancecheck/capture/Property" "NAME_CHARACTERS" "[Z") (Jvm.Cond.or (Jvm.Cond.le (Jvm.Term.int 45) (Jvm.Term.index 0)) (Jvm.Cond.eq (Jvm.Term.elem (Jvm.Term.static "com/example/phone_conformance_check/phoneconformancecheck/capture/Property" "NAME_CHARACTERS" "[Z") (Jvm.Term.index 0)) (Jvm.Term.int 0)))).value args s none s [] = some true) (n4 : (Jvm.Cond.eq (Jvm.Term.elem (Jvm.Term.static "com/example/phone_conformance_check/phoneconformancecheck/capture/Property" "NAME_CHARACTERS" "[Z") (Jvm.Term.int 45)) (Jvm.Term.int 1)).value args s none s [] = some true) (n5 : (Jvm.Cond.eq (Jvm.Term.elem (Jvm.Term.static "com/example/phone_conformance_check/phoneconformancecheck/capture/Property" "NAME_CHARACTERS" "[Z") (Jvm.Term.int 46)) (Jvm.Term.int 1)).value args s none s [] = some true) (n6 : (Jvm.Cond.eq (Jvm.Term.elem (Jvm.Term.static "com/example/phone_conformance_check/phoneconformancecheck/capture/Property" "NAME_CHARACTERS" "[Z") (Jvm.Term.int 47)) (Jvm.Term.int 0)).value args s none s [] = some true) (n7 : (Jvm.Cond.all (Jvm.Term.static "com/example/phone_conformance_check/phoneconformancecheck/capture/Property" "NAME_CHARACTERS" "[Z") (Jvm.Cond.or (Jvm.Cond.lt (Jvm.Term.index 0) (Jvm.Term.int 48)) (Jvm.Cond.or (Jvm.Cond.le (Jvm.Term.int 59) (Jvm.Term.index 0)) (Jvm.Cond.eq (Jvm.Term.elem (Jvm.Term.static "com/example/phone_conformance_check/phoneconformancecheck/capture/Property" "NAME_CHARACTERS" "[Z") (Jvm.Term.index 0)) (Jvm.Term.int 1))))).value args s none s [] = some true) (n8 : (Jvm.Cond.all (Jvm.Term.static "com/example/phone_conformance_check/phoneconformancecheck/capture/Property" "NAME_CHARACTERS" "[Z") (Jvm.Cond.or (Jvm.Cond.lt (Jvm.Term.index 0) (Jvm.Term.int 59)) (Jvm.Cond.or (Jvm.Cond.le (Jvm.Term.int 64) (Jvm.Term.index 0)) (Jvm.Cond.eq (Jvm.Term.elem (Jvm.Term.static "com/example/phone_conformance_check/phoneconformancecheck/capture/Property" "NAME_CHARACTERS" "[Z") (Jvm.Term.index 0)) (Jvm.Term.int 0))))).value args s none s [] = some true) (n9 : (Jvm.Cond.all (Jvm.Term.static "com/example/phone_conformance_check/phoneconformancecheck/capture/Property" "NAME_CHARACTERS" "[Z") (Jvm.Cond.or (Jvm.Cond.lt (Jvm.Term.index 0) (Jvm.Term.int 64)) (Jvm.Cond.or (Jvm.Cond.le (Jvm.Term.int 91) (Jvm.Term.index 0)) (Jvm.Cond.eq (Jvm.Term.elem (Jvm.Term.static "com/example/phone_conformance_check/phoneconformancecheck/capture/Property" "NAME_CHARACTERS" "[Z") (Jvm.Term.index 0)) (Jvm.Term.int 1))))).value args s none s [] = some true) (n10 : (Jvm.Cond.all (Jvm.Term.static "com/example/phone_conformance_check/phoneconformancecheck/capture/Property" "NAME_CHARACTERS" "[Z") (Jvm.Cond.or (Jvm.Cond.lt (Jvm.Term.index 0) (Jvm.Term.int 91)) (Jvm.Cond.or (Jvm.Cond.le (Jvm.Term.int 95) (Jvm.Term.index 0)) (Jvm.Cond.eq (Jvm.Term.elem (Jvm.Term.static "com/example/phone_conformance_check/phoneconformancecheck/capture/Property" "NAME_CHARACTERS" "[Z") (Jvm.Term.index 0)) (Jvm.Term.int 0))))).value args s none s [] = some true) (n11 : (Jvm.Cond.eq (Jvm.Term.elem (Jvm.Term.static "com/example/phone_conformance_check/phoneconformancecheck/capture/Property" "NAME_CHARACTERS" "[Z") (Jvm.Term.int 95)) (Jvm.Term.int 1)).value args s none s [] = some true) (n12 : (Jvm.Cond.eq (Jvm.Term.elem (Jvm.Term.static "com/example/phone_conformance_check/phoneconformancecheck/capture/Property" "NAME_CHARACTERS" "[Z") (Jvm.Term.int 96)) (Jvm.Term.int 0)).value args s none s [] = some true) (n13 : (Jvm.Cond.all (Jvm.Term.static "com/example/phone_conformance_check/phoneconformancecheck/capture/Property" "NAME_CHARACTERS" "[Z") (Jvm.Cond.or (Jvm.Cond.lt (Jvm.Term.index 0) (Jvm.Term.int 97)) (Jvm.Cond.or (Jvm.Cond.le (Jvm.Term.int 123) (Jvm.Term.index 0)) (Jvm.Cond.eq (Jvm.Term.elem (Jvm.Term.static "com/example/phone_conformance_check/phoneconformancecheck/capture/Property" "NAME_CHARACTERS" "[Z") (Jvm.Term.index 0)) (Jvm.Term.int 1))))).value args s none s [] = some true) (n14 : (Jvm.Cond.all (Jvm.Term.static "com/example/phone_conformance_check/phoneconformancecheck/capture/Property" "NAME_CHARACTERS" "[Z") (Jvm.Cond.or (Jvm.Cond.lt (Jvm.Term.index 0) (Jvm.Term.int 123)) (Jvm.Cond.eq (Jvm.Term.elem (Jvm.Term.static "com/example/phone_conformance_check/phoneconformancecheck/capture/Property" "NAME_CHARACTERS" "[Z") (Jvm.Term.index 0)) (Jvm.Term.int 0)))).value args s none s [] = some true) : ∀ j : Int32, ¬ j < 0 → j < 128 → vs[j.toNatClampNeg]? = some (.int (ownNm j)) := by
  intro j hj0 hj
  have e1 := oNat_of hj0
  have e2 := Int32.lt_iff_toInt_lt.mp hj
  have e3 : (128 : Int32).toInt = 128 := by decide
  obtain ⟨i, hi⟩ : ∃ i, i = j.toNatClampNeg := ⟨_, rfl⟩
  rw [← hi] at e1 ⊢
  have hi1 : i < 128 := by omega
  have hi2 : i < 2 ^ 31 := by omega
  have a3 := own_all F hl ht n3 i hi1
  have m3 : 45 ≤ (i : Int) ∨ vs[i]? = some (.int 0) := by
    rcases oOr_v a3 with q | q
    · exact (Or.inl (by have := oLe_v hi2 q; have z : (45 : Int32).toInt = 45 := (by decide); omega))
    · exact (by have r := oElem_start F (idx := [i]) ht (ix := Term.index 0) (j := i.toInt32) rfl q; rw [oNat32 hi2] at r; first | exact r | exact Or.inr r | exact Or.inr (Or.inr r))
  have m4 := oElem_start F ht (ix := Term.int 45) rfl n4
  have l4 : (45 : Int32).toNatClampNeg = 45 := by decide
  rw [l4] at m4
  have m5 := oElem_start F ht (ix := Term.int 46) rfl n5
  have l5 : (46 : Int32).toNatClampNeg = 46 := by decide
  rw [l5] at m5
  have m6 := oElem_start F ht (ix := Term.int 47) rfl n6
  have l6 : (47 : Int32).toNatClampNeg = 47 := by decide
  rw [l6] at m6
  have a7 := own_all F hl ht n7 i hi1
  have m7 : (i : Int) < 48 ∨ 59 ≤ (i : Int) ∨ vs[i]? = some (.int 1) := by
    rcases oOr_v a7 with q | q
    · exact Or.inl (by have := oLt_v hi2 q; have z : (48 : Int32).toInt = 48 := (by decide); omega)
    rcases oOr_v q with q | q
    · exact Or.inr (Or.inl (by have := oLe_v hi2 q; have z : (59 : Int32).toInt = 59 := (by decide); omega))
    · exact (by have r := oElem_start F (idx := [i]) ht (ix := Term.index 0) (j := i.toInt32) rfl q; rw [oNat32 hi2] at r; first | exact r | exact Or.inr r | exact Or.inr (Or.inr r))
  have a8 := own_all F hl ht n8 i hi1
  have m8 : (i : Int) < 59 ∨ 64 ≤ (i : Int) ∨ vs[i]? = some (.int 0) := by
    rcases oOr_v a8 with q | q
    · exact Or.inl (by have := oLt_v hi2 q; have z : (59 : Int32).toInt = 59 := (by decide); omega)
    rcases oOr_v q with q | q
    · exact Or.inr (Or.inl (by have := oLe_v hi2 q; have z : (64 : Int32).toInt = 64 := (by decide); omega))
    · exact (by have r := oElem_start F (idx := [i]) ht (ix := Term.index 0) (j := i.toInt32) rfl q; rw [oNat32 hi2] at r; first | exact r | exact Or.inr r | exact Or.inr (Or.inr r))
  have a9 := own_all F hl ht n9 i hi1
  have m9 : (i : Int) < 64 ∨ 91 ≤ (i : Int) ∨ vs[i]? = some (.int 1) := by
    rcases oOr_v a9 with q | q
    · exact Or.inl (by have := oLt_v hi2 q; have z : (64 : Int32).toInt = 64 := (by decide); omega)
    rcases oOr_v q with q | q
    · exact Or.inr (Or.inl (by have := oLe_v hi2 q; have z : (91 : Int32).toInt = 91 := (by decide); omega))
    · exact (by have r := oElem_start F (idx := [i]) ht (ix := Term.index 0) (j := i.toInt32) rfl q; rw [oNat32 hi2] at r; first | exact r | exact Or.inr r | exact Or.inr (Or.inr r))
  have a10 := own_all F hl ht n10 i hi1
  have m10 : (i : Int) < 91 ∨ 95 ≤ (i : Int) ∨ vs[i]? = some (.int 0) := by
    rcases oOr_v a10 with q | q
    · exact Or.inl (by have := oLt_v hi2 q; have z : (91 : Int32).toInt = 91 := (by decide); omega)
    rcases oOr_v q with q | q
    · exact Or.inr (Or.inl (by have := oLe_v hi2 q; have z : (95 : Int32).toInt = 95 := (by decide); omega))
    · exact (by have r := oElem_start F (idx := [i]) ht (ix := Term.index 0) (j := i.toInt32) rfl q; rw [oNat32 hi2] at r; first | exact r | exact Or.inr r | exact Or.inr (Or.inr r))
  have m11 := oElem_start F ht (ix := Term.int 95) rfl n11
  have l11 : (95 : Int32).toNatClampNeg = 95 := by decide
  rw [l11] at m11
  have m12 := oElem_start F ht (ix := Term.int 96) rfl n12
  have l12 : (96 : Int32).toNatClampNeg = 96 := by decide
  rw [l12] at m12
  have a13 := own_all F hl ht n13 i hi1
  have m13 : (i : Int) < 97 ∨ 123 ≤ (i : Int) ∨ vs[i]? = some (.int 1) := by
    rcases oOr_v a13 with q | q
    · exact Or.inl (by have := oLt_v hi2 q; have z : (97 : Int32).toInt = 97 := (by decide); omega)
    rcases oOr_v q with q | q
    · exact Or.inr (Or.inl (by have := oLe_v hi2 q; have z : (123 : Int32).toInt = 123 := (by decide); omega))
    · exact (by have r := oElem_start F (idx := [i]) ht (ix := Term.index 0) (j := i.toInt32) rfl q; rw [oNat32 hi2] at r; first | exact r | exact Or.inr r | exact Or.inr (Or.inr r))
  have a14 := own_all F hl ht n14 i hi1
  have m14 : (i : Int) < 123 ∨ vs[i]? = some (.int 0) := by
    rcases oOr_v a14 with q | q
    · exact Or.inl (by have := oLt_v hi2 q; have z : (123 : Int32).toInt = 123 := (by decide); omega)
    · exact (by have r := oElem_start F (idx := [i]) ht (ix := Term.index 0) (j := i.toInt32) rfl q; rw [oNat32 hi2] at r; first | exact r | exact Or.inr r | exact Or.inr (Or.inr r))
  by_cases h_m3 : i < 45
  · have ev : ownNm j = 0 := if_neg (by omega)
    rw [ev]
    rcases m3 with q | q
    · exact absurd q (by omega)
    · exact q
  by_cases h_m4 : 45 ≤ i ∧ i < 46
  · have ev : ownNm j = 1 := if_pos (by omega)
    rw [ev]
    obtain rfl : i = 45 := by omega
    exact m4
  by_cases h_m5 : 46 ≤ i ∧ i < 47
  · have ev : ownNm j = 1 := if_pos (by omega)
    rw [ev]
    obtain rfl : i = 46 := by omega
    exact m5
  by_cases h_m6 : 47 ≤ i ∧ i < 48
  · have ev : ownNm j = 0 := if_neg (by omega)
    rw [ev]
    obtain rfl : i = 47 := by omega
    exact m6
  by_cases h_m7 : 48 ≤ i ∧ i < 59
  · have ev : ownNm j = 1 := if_pos (by omega)
    rw [ev]
    rcases m7 with q | q | q
    · exact absurd q (by omega)
    · exact absurd q (by omega)
    · exact q
  by_cases h_m8 : 59 ≤ i ∧ i < 64
  · have ev : ownNm j = 0 := if_neg (by omega)
    rw [ev]
    rcases m8 with q | q | q
    · exact absurd q (by omega)
    · exact absurd q (by omega)
    · exact q
  by_cases h_m9 : 64 ≤ i ∧ i < 91
  · have ev : ownNm j = 1 := if_pos (by omega)
    rw [ev]
    rcases m9 with q | q | q
    · exact absurd q (by omega)
    · exact absurd q (by omega)
    · exact q
  by_cases h_m10 : 91 ≤ i ∧ i < 95
  · have ev : ownNm j = 0 := if_neg (by omega)
    rw [ev]
    rcases m10 with q | q | q
    · exact absurd q (by omega)
    · exact absurd q (by omega)
    · exact q
  by_cases h_m11 : 95 ≤ i ∧ i < 96
  · have ev : ownNm j = 1 := if_pos (by omega)
    rw [ev]
    obtain rfl : i = 95 := by omega
    exact m11
  by_cases h_m12 : 96 ≤ i ∧ i < 97
  · have ev : ownNm j = 0 := if_neg (by omega)
    rw [ev]
    obtain rfl : i = 96 := by omega
    exact m12
  by_cases h_m13 : 97 ≤ i ∧ i < 123
  · have ev : ownNm j = 1 := if_pos (by omega)
    rw [ev]
    rcases m13 with q | q | q
    · exact absurd q (by omega)
    · exact absurd q (by omega)
    · exact q
  by_cases h_m14 : 123 ≤ i
  · have ev : ownNm j = 0 := if_neg (by omega)
    rw [ev]
    rcases m14 with q | q
    · exact absurd q (by omega)
    · exact q
  exact absurd hi1 (by omega)
set_option maxRecDepth 65536 in
set_option maxHeartbeats 40000000 in
theorem comes_1 {Post : Tables → Env → Array Value → State → Outcome → State → Prop} (hpost : ∀ tb e args s v u, (limb_1_1.after args s (.returned v) u = true ∧ limb_1_2.after args s (.returned v) u = true ∧ True) → FrameEnd s (.returned v) u (Jvm.fieldLocs frame_1_writes args s ++ Jvm.arrayLocs frame_1_arrays args s ++ Jvm.staticLocs frame_1_statics s) 0 0 → Post tb e args s (.returned v) u) :
    ArmFor flags0 classFile x code maxLocals ret World_1 tables_1 room_1 Calls_1 rest_1 Pre_1 Post := by
  intro l hfl _ _ p e ha hc hk s m args below hf hA hF happ hP
  obtain ⟨hcalls, hrest, hpre⟩ := hP
  obtain ⟨-, -, -, hnamed, -, -, -, hat⟩ := (Spec.applies_iff hf).mp happ
  obtain ⟨hg, hn⟩ := and_e (Cond.before_iff.mp (show (Jvm.Cond.and given_1 narrow_1).before args s = true from hpre))
  obtain ⟨g0, gr0⟩ := and_e hg
  obtain ⟨w_0, rfl⟩ : ∃ w_0 : Value, args = #[w_0] := by
    have hs : args.size = 1 := by simpa [Jvm.Cond.value] using g0
    obtain ⟨L⟩ := args
    match L, hs with
    | [w_0], _ => exact ⟨w_0, rfl⟩
  have hw : oHw s #[w_0] := fun d (hd : d ∈ tables_1) => atoms_spec (ws := Jvm.Cond.code x code maxLocals ret :: tables_1) hat d (List.mem_cons_of_mem _ hd)
  have hfit : Fit s := fun {y c} hc i hi => by
    obtain ⟨ha, rfl⟩ := Array.getElem?_eq_some_iff.mp hc
    have q := List.all_eq_true.mp ((Array.all_eq_true_iff_forall_mem.mp hF) _ (Array.getElem_mem ha)) i (List.mem_range.mpr hi)
    simpa [Array.getElem?_eq_getElem hi] using q
  obtain ⟨i0, ei0⟩ := is_v gr0
  obtain rfl : w_0 = (.int i0) := Option.some.inj ei0
  obtain ⟨n1, n2⟩ := and_e hn
  obtain ⟨n2, n3⟩ := and_e n2
  obtain ⟨n3, n4⟩ := and_e n3
  obtain ⟨n4, n5⟩ := and_e n4
  obtain ⟨n5, n6⟩ := and_e n5
  obtain ⟨n6, n7⟩ := and_e n6
  obtain ⟨n7, n8⟩ := and_e n7
  obtain ⟨n8, n9⟩ := and_e n8
  obtain ⟨n9, n10⟩ := and_e n9
  obtain ⟨n10, n11⟩ := and_e n10
  obtain ⟨n11, n12⟩ := and_e n11
  obtain ⟨n12, n13⟩ := and_e n12
  obtain ⟨n13, n14⟩ := and_e n13
  obtain ⟨aa, en, Sn⟩ := oStaRef n1 (Or.inr ⟨(w3 hw), (w6 hw)⟩)
  obtain ⟨kk, vs, Fn, hl⟩ := oArr_start hfit en n1 n2 (by decide) (n := 128) (by decide)
  have tb : ∀ j : Int32, ¬ j < 0 → j < 128 → vs[j.toNatClampNeg]? = some (.int (ownNm j)) := own_tab Fn hl en n3 n4 n5 n6 n7 n8 n9 n10 n11 n12 n13 n14
  obtain ⟨n, o, h1, h2, h3, v, L, rfl, ⟨hQ, N, E⟩, hq⟩ := rm_law l s _ hw i0 aa kk vs s.heap Sn Fn hl tb tables_1 ⟨Nat.le_refl _, fun _ _ q => q⟩ p e ha hc hk s m _ below hf ((Spec.applies_iff_loose hf).mp happ).1 ⟨rfl, State.Warmed39.refl s, rfl⟩ trivial
  obtain rfl : v = some (.int 1) := hQ
  refine ⟨n, _, h1, h2, h3, hpost _ _ _ _ _ _ ⟨Cond.after_iff.mpr rfl, Cond.after_iff.mpr (eq_i res_at (Term.int_eval (1)) rfl), trivial⟩ ⟨hq.1, hq.2.1, (hq.2.2.sift fun y hy => Or.inr (N y hy)).mono (by decide) (by decide)⟩⟩
theorem main_1_1 : Claimed_1_1 := comes_1 fun _ _ _ _ _ _ h hF => ⟨h.1, hF⟩
theorem main_1_2 : Claimed_1_2 := comes_1 fun _ _ _ _ _ _ h hF => ⟨h.2.1, hF⟩
end Jvm.Pilot.@@N@@
namespace Jvm.Pilot.@@N@@
open Jvm Jvm.ClassFile Sem Op Lib Jvm.Free Jvm.Stand Jvm.Pilot.@@N@@.Jvm.D
/-! MADE BY PROGRAM (witnessworld.py) out of the Statement's table words and the real class files: 11 classes; the members and pool entries that the words name. The judged class is class 1, her method 1. -/
namespace start1
open Jvm.ClassFile
def u (s : String) : CpInfo := .utf8 (stringToUtf16 s)
/-- a pool by its gaps: so many unusable entries, then the entry; so many at the end -/
def gap : Nat → List CpInfo → List CpInfo
  | 0, r => r
  | n + 1, r => .unusable :: gap n r
def poolList (es : List (Nat × CpInfo)) (last : Nat) : List CpInfo := es.foldr (fun e r => gap e.1 (e.2 :: r)) (gap last [])
def pool (es : List (Nat × CpInfo)) (last : Nat) : Array CpInfo := ⟨poolList es last⟩
def fileOf (pool : Array CpInfo) (this : Nat) (attrs : Array Attribute := #[]) (ms : Array MethodInfo := #[]) (fl : Nat := 33) (sup : Nat := 0) (ifs : Array Nat := #[]) (fds : Array FieldInfo := #[]) : ClassFile where
  minorVersion := 0
  majorVersion := 65
  constantPool := pool
  accessFlags := fl
  thisClass := this
  superClass := sup
  interfaces := ifs
  fields := fds
  methods := ms
  attributes := attrs
def plain (name : String) (sup : Option ClassId) : Class where
  name := name
  kind := .ordinary
  loader := none
  accessFlags := 33
  super := sup
  interfaces := #[]
  cf := none
  fields := #[]
  methods := #[]
  instanceTypes := #[]
  staticTypes := #[]
  resolved := #[]
  callSites := []
  init := .initialized
  statics := none
  mirror := none

def pool0 : Array CpInfo := pool [(5, u "<init>"), (0, u "()V"), (1, .class_ 10), (1, u "java/lang/Object")] 113

def k0m0 : Method := { name := "<init>", desc := "()V", sig := { parameters := [], returnType := none }, accessFlags := 1, code := none }
/-- java/lang/Object -/
def k0 : Class := { plain "java/lang/Object" none with
  accessFlags := 33
  interfaces := #[]
  cf := some (fileOf pool0 8 #[] #[{ accessFlags := 1, nameIndex := 5, descriptorIndex := 6, attributes := #[] }] 33 0 #[] #[])
  fields := #[]
  methods := #[k0m0]
  instanceTypes := #[]
  staticTypes := #[]
  resolved := Array.replicate 124 none
  statics := none }

def pool1 : Array CpInfo := pool [(2, .class_ 4), (1, u "java/lang/Object"), (0, u "<init>"), (0, u "()V"), (0, .integer 65535), (0, .methodref 9 10), (0, .class_ 11), (0, .nameAndType 12 13), (0, u "com/example/phone_conformance_check/phoneconformancecheck/capture/Property"), (0, u "isNameCharacter"), (0, u "(C)Z"), (0, .methodref 15 16), (0, .class_ 17), (0, .nameAndType 18 13), (0, u "com/example/phone_conformance_check/phoneconformancecheck/capture/PropertyIsNameCharacterPinLaw"), (0, u "expected"), (2, u "law"), (0, u "(I)Z")] 3

def k1m0 : Method := { name := "<init>", desc := "()V", sig := { parameters := [], returnType := none }, accessFlags := 1, code := none }
def k1c1 : Code := { maxStack := 2, maxLocals := 2, code := code, exceptionTable := #[], attributes := #[] }
def k1m1 : Method := { name := "law", desc := "(I)Z", sig := { parameters := [.int], returnType := some .boolean }, accessFlags := 9, code := some k1c1 }
def k1c2 : Code := { maxStack := 2, maxLocals := 1, code := method_3_code, exceptionTable := #[], attributes := #[] }
def k1m2 : Method := { name := "expected", desc := "(C)Z", sig := { parameters := [.char], returnType := some .boolean }, accessFlags := 10, code := some k1c2 }
/-- com/example/phone_conformance_check/phoneconformancecheck/capture/PropertyIsNameCharacterPinLaw -/
def k1 : Class := { plain "com/example/phone_conformance_check/phoneconformancecheck/capture/PropertyIsNameCharacterPinLaw" (some 0) with
  accessFlags := 49
  interfaces := #[]
  cf := some (fileOf pool1 15 #[] #[{ accessFlags := 1, nameIndex := 5, descriptorIndex := 6, attributes := #[] }, { accessFlags := 9, nameIndex := 21, descriptorIndex := 22, attributes := #[] }, { accessFlags := 10, nameIndex := 18, descriptorIndex := 13, attributes := #[] }] 49 2 #[] #[])
  fields := #[]
  methods := #[k1m0, k1m1, k1m2]
  instanceTypes := #[]
  staticTypes := #[]
  resolved := Array.replicate 26 none
  statics := none }

def pool2 : Array CpInfo := pool [(2, .class_ 4), (1, u "java/lang/Object"), (3, u "name"), (9, .class_ 20), (1, u "com/example/phone_conformance_check/phoneconformancecheck/capture/Property"), (0, u "Ljava/lang/String;"), (1, u "value"), (20, .fieldref 18 45), (0, .nameAndType 46 47), (0, u "NAME_CHARACTERS"), (0, u "[Z"), (20, u "isNameCharacter"), (0, u "(C)Z"), (4, u "NAME_PUNCTUATION")] 45

def k2c0 : Code := { maxStack := 2, maxLocals := 1, code := prog_16_method_3_code, exceptionTable := #[], attributes := #[] }
def k2m0 : Method := { name := "isNameCharacter", desc := "(C)Z", sig := { parameters := [.char], returnType := some .boolean }, accessFlags := 8, code := some k2c0 }
/-- com/example/phone_conformance_check/phoneconformancecheck/capture/Property -/
def k2 : Class := { plain "com/example/phone_conformance_check/phoneconformancecheck/capture/Property" (some 0) with
  accessFlags := 33
  interfaces := #[]
  cf := some (fileOf pool2 18 #[] #[{ accessFlags := 8, nameIndex := 68, descriptorIndex := 69, attributes := #[] }] 33 2 #[] #[{ accessFlags := 26, nameIndex := 74, descriptorIndex := 21, attributes := #[] }, { accessFlags := 26, nameIndex := 46, descriptorIndex := 47, attributes := #[] }, { accessFlags := 18, nameIndex := 8, descriptorIndex := 21, attributes := #[] }, { accessFlags := 18, nameIndex := 23, descriptorIndex := 21, attributes := #[] }])
  fields := #[{ name := "NAME_PUNCTUATION", type := (.object "java/lang/String"), accessFlags := 26, slot := 0, constantValue := 0 }, { name := "NAME_CHARACTERS", type := (.array .boolean), accessFlags := 26, slot := 1, constantValue := 0 }, { name := "name", type := (.object "java/lang/String"), accessFlags := 18, slot := 0, constantValue := 0 }, { name := "value", type := (.object "java/lang/String"), accessFlags := 18, slot := 1, constantValue := 0 }]
  methods := #[k2m0]
  instanceTypes := #[(.object "java/lang/String"), (.object "java/lang/String")]
  staticTypes := #[(.object "java/lang/String"), (.array .boolean)]
  resolved := Array.replicate 120 none
  statics := some 0 }

def pool3 : Array CpInfo := pool [(1, u "java/lang/Cloneable"), (0, .class_ 1), (0, u "java/lang/Object"), (0, .class_ 3)] 3

/-- java/lang/Cloneable -/
def k3 : Class := { plain "java/lang/Cloneable" (some 0) with
  accessFlags := 1537
  interfaces := #[]
  cf := some (fileOf pool3 2 #[] #[] 1537 4 #[] #[])
  fields := #[]
  methods := #[]
  instanceTypes := #[]
  staticTypes := #[]
  resolved := Array.replicate 8 none
  statics := none }

def pool4 : Array CpInfo := pool [(1, u "java/io/Serializable"), (0, .class_ 1), (0, u "java/lang/Object"), (0, .class_ 3)] 3

/-- java/io/Serializable -/
def k4 : Class := { plain "java/io/Serializable" (some 0) with
  accessFlags := 1537
  interfaces := #[]
  cf := some (fileOf pool4 2 #[] #[] 1537 4 #[] #[])
  fields := #[]
  methods := #[]
  instanceTypes := #[]
  staticTypes := #[]
  resolved := Array.replicate 8 none
  statics := none }

/-- the primitive boolean -/
def k5 : Class := { plain "boolean" none with kind := .primitive 'Z', accessFlags := 0x411 }
/-- [Z -/
def k6 : Class := { plain "[Z" (some 0) with kind := .array 5 .boolean, interfaces := #[3, 4], accessFlags := 1041 }

/-- the primitive byte -/
def k7 : Class := { plain "byte" none with kind := .primitive 'B', accessFlags := 0x411 }
/-- [B -/
def k8 : Class := { plain "[B" (some 0) with kind := .array 7 .byte, interfaces := #[3, 4], accessFlags := 1041 }

/-- the primitive int -/
def k9 : Class := { plain "int" none with kind := .primitive 'I', accessFlags := 0x411 }
/-- [I -/
def k10 : Class := { plain "[I" (some 0) with kind := .array 9 .int, interfaces := #[3, 4], accessFlags := 1041 }

def heap : Heap := #[{ cls := 2, slots := #[.null, .ref 1], vm := .statics 2 },
  { cls := 6, slots := #[.int 0, .int 0, .int 0, .int 0, .int 0, .int 0, .int 0, .int 0, .int 0, .int 0, .int 0, .int 0, .int 0, .int 0, .int 0, .int 0, .int 0, .int 0, .int 0, .int 0, .int 0, .int 0, .int 0, .int 0, .int 0, .int 0, .int 0, .int 0, .int 0, .int 0, .int 0, .int 0, .int 0, .int 0, .int 0, .int 0, .int 0, .int 0, .int 0, .int 0, .int 0, .int 0, .int 0, .int 0, .int 0, .int 1, .int 1, .int 0, .int 1, .int 1, .int 1, .int 1, .int 1, .int 1, .int 1, .int 1, .int 1, .int 1, .int 1, .int 0, .int 0, .int 0, .int 0, .int 0, .int 1, .int 1, .int 1, .int 1, .int 1, .int 1, .int 1, .int 1, .int 1, .int 1, .int 1, .int 1, .int 1, .int 1, .int 1, .int 1, .int 1, .int 1, .int 1, .int 1, .int 1, .int 1, .int 1, .int 1, .int 1, .int 1, .int 1, .int 0, .int 0, .int 0, .int 0, .int 1, .int 0, .int 1, .int 1, .int 1, .int 1, .int 1, .int 1, .int 1, .int 1, .int 1, .int 1, .int 1, .int 1, .int 1, .int 1, .int 1, .int 1, .int 1, .int 1, .int 1, .int 1, .int 1, .int 1, .int 1, .int 1, .int 1, .int 1, .int 0, .int 0, .int 0, .int 0, .int 0], vm := .none }]
def classes : Array Class := #[k0, k1, k2, k3, k4, k5, k6, k7, k8, k9, k10]
def interned : List (Array UInt16 × Addr) := []
def slotsUsed : Nat := 130
def theMethod : MethodId := ⟨1, 1⟩
def args0 : Array Value := #[.int 5]
def aboutOver (below : List Frame) : State where
  vm := { classes := classes, interned := interned.toArray }
  heap := heap
  slotsUsed := slotsUsed
  threads := #[{ frames := .invoking theMethod args0 :: below }]
def below0 : List Frame := [.native { method := ⟨0, 0⟩, args := #[] }]
def about1 : State := aboutOver below0
def p0 : Program := .bare "" "" ""
def e0 : Env := launch0.env 0 0 0
theorem w_frames : about1.frames = Frame.invoking theMethod args0 :: below0 := rfl
set_option maxRecDepth 65536 in
theorem w_args : argsFit about1.vm theMethod args0 = true := by decide +kernel
set_option maxRecDepth 65536 in
theorem w_heap : heapFits about1 = true := by decide +kernel
set_option maxRecDepth 65536 in
theorem w_runnable : about1.curStatus? = some .runnable := by decide +kernel
set_option maxRecDepth 65536 in
theorem w_alone : about1.alone = true := by decide +kernel
set_option maxRecDepth 65536 in
theorem w_named : about1.methodNamed? x = some theMethod := by decide +kernel
set_option maxRecDepth 65536 in
theorem w_hears : about1.hears theMethod below0 = true := by decide +kernel
set_option maxRecDepth 65536 in
theorem w_ripe : about1.ripe theMethod args0 below0 = true := by decide +kernel
theorem w_running : about1.status = .running := rfl
set_option maxRecDepth 65536 in
theorem w_room : about1.hasRoom e0.platform room_1 = true :=
  launch0.hasRoom_least _ room_1 (by decide +kernel) (by decide +kernel) (by decide +kernel) (by decide +kernel) (by decide +kernel) (by decide +kernel)
theorem allAtoms_all (ts : List Jvm.Cond) (a : Array Jvm.Value) (st : Jvm.State) : (allAtoms ts).before a st = ts.all (fun c => c.before a st) := by
  induction ts with
  | nil => rfl
  | cons c t ih =>
    show (Jvm.Cond.and c (allAtoms t)).before a st = _
    rw [Jvm.Cond.before_and, ih, List.all_cons]
def words1 : List Jvm.Cond := Jvm.Cond.code x code maxLocals ret :: tables_1
/-- a 'code' word, met by the world's own term for the bytes: nothing is compared byte by byte -/
theorem code_word {y : MethodName} {bytes : ByteArray} {mx : Nat} {rt : Option FieldType} {a : Array Value} {s : State} {m : MethodId} {meth : Method} {c : Code} (h1 : s.methodNamed? y = some m) (h2 : s.vm.method? m = some meth) (h3 : meth.code = some c) (h4 : c.code = bytes)
    (h5 : (c.maxLocals == mx && c.exceptionTable.isEmpty && decide (c.maxStack ≤ mostOperands) && decide (meth.sig.returnType = rt) && !meth.locks && decide (parseMethodDescriptor y.desc = some meth.sig)) = true) : (Jvm.Cond.code y bytes mx rt).before a s = true := by
  simp only [Bool.and_eq_true, beq_iff_eq, Bool.not_eq_true', decide_eq_true_eq] at h5
  obtain ⟨⟨⟨⟨⟨g1, g2⟩, g3⟩, g4⟩, g5⟩, g6⟩ := h5
  simp [Cond.before, Cond.holds, Cond.value, h1, h2, h3, h4, g1, g2, g3, g4, g5, g6]
def isCode : Jvm.Cond → Bool
  | .code _ _ _ _ => true
  | _ => false
theorem all_split {L : List Jvm.Cond} {P : Jvm.Cond → Bool} (h1 : L.all (fun c => isCode c || P c) = true) (h2 : ∀ c ∈ L.filter isCode, P c = true) : L.all P = true := by
  refine List.all_eq_true.mpr fun c hc => ?_
  have h := List.all_eq_true.mp h1 c hc
  rcases Bool.eq_false_or_eq_true (isCode c) with hi | hi
  · exact h2 c (List.mem_filter.mpr ⟨hc, hi⟩)
  · simpa [hi] using h
set_option maxRecDepth 65536 in
theorem w_c0 : (Jvm.Cond.code x code maxLocals ret).before args0 about1 = true := code_word (m := ⟨1, 1⟩) (meth := k1m1) (c := k1c1) (by decide +kernel) rfl rfl rfl (by decide +kernel)
set_option maxRecDepth 65536 in
theorem w_c1 : (Jvm.Cond.code ({ cls := "com/example/phone_conformance_check/phoneconformancecheck/capture/Property", name := "isNameCharacter", desc := "(C)Z" } : Jvm.MethodName) prog_16_method_3_code (1 : Nat) (Option.some Jvm.ClassFile.FieldType.boolean)).before args0 about1 = true := code_word (m := ⟨2, 0⟩) (meth := k2m0) (c := k2c0) (by decide +kernel) rfl rfl rfl (by decide +kernel)
set_option maxRecDepth 65536 in
theorem w_c2 : (Jvm.Cond.code ({ cls := "com/example/phone_conformance_check/phoneconformancecheck/capture/PropertyIsNameCharacterPinLaw", name := "expected", desc := "(C)Z" } : Jvm.MethodName) method_3_code (1 : Nat) (Option.some Jvm.ClassFile.FieldType.boolean)).before args0 about1 = true := code_word (m := ⟨1, 2⟩) (meth := k1m2) (c := k1c2) (by decide +kernel) rfl rfl rfl (by decide +kernel)
def codes1 : List Jvm.Cond := [Jvm.Cond.code x code maxLocals ret, Jvm.Cond.code ({ cls := "com/example/phone_conformance_check/phoneconformancecheck/capture/Property", name := "isNameCharacter", desc := "(C)Z" } : Jvm.MethodName) prog_16_method_3_code (1 : Nat) (Option.some Jvm.ClassFile.FieldType.boolean), Jvm.Cond.code ({ cls := "com/example/phone_conformance_check/phoneconformancecheck/capture/PropertyIsNameCharacterPinLaw", name := "expected", desc := "(C)Z" } : Jvm.MethodName) method_3_code (1 : Nat) (Option.some Jvm.ClassFile.FieldType.boolean)]
set_option maxRecDepth 65536 in
theorem codes_eq : words1.filter isCode = codes1 := rfl
theorem w_codes : ∀ c ∈ words1.filter isCode, c.before args0 about1 = true := by
  rw [codes_eq]
  intro c hc
  simp only [codes1, List.mem_cons, List.not_mem_nil, or_false] at hc
  rcases hc with rfl | rfl | rfl
  · exact w_c0
  · exact w_c1
  · exact w_c2
set_option maxRecDepth 65536 in
theorem w_t1 : words1.all (fun c => isCode c || c.before args0 about1) = true := by decide +kernel
theorem w_tables : (allAtoms (Jvm.Cond.code x code maxLocals ret :: tables_1)).before args0 about1 = true := by
  rw [allAtoms_all]
  show words1.all (fun c => c.before args0 about1) = true
  refine all_split ?_ w_codes
  rw [w_t1]
set_option maxRecDepth 65536 in
theorem w_case : (Jvm.Cond.and given_1 narrow_1).before args0 about1 = true := by decide +kernel
theorem w_applies : (headSpec (Jvm.Cond.code x code maxLocals ret :: tables_1) room_1).applies x e0.platform about1 = true :=
  (Spec.applies_iff w_frames).mpr ⟨w_running, w_runnable, w_alone, w_named, w_hears, w_ripe, w_room, w_tables⟩
theorem atStart : AtStart classFile x code maxLocals ret World_1 tables_1 room_1 Calls_1 rest_1 Pre_1 launch0 p0 e0 about1 theMethod args0 below0 :=
  ⟨lists_1, trivial, launch0.admits_env _ _ _, launch0.least_env, fairChoices_fair.cas, fairChoices_fair.clock, w_frames, w_args, w_heap, w_applies, trivial, trivial, w_case⟩
end start1
theorem witness_1 : WitnessClaimed_1 := ⟨start1.p0, start1.e0, start1.about1, start1.theMethod, start1.args0, start1.below0, start1.atStart⟩
end Jvm.Pilot.@@N@@
