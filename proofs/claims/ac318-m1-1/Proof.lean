import JvmDerived
import JvmDerived.Pilot.@@N@@Statement
import JvmDerived.Pilot.@@N@@Code
set_option linter.unusedVariables false
set_option linter.unusedSimpArgs false
namespace Jvm.Pilot.@@N@@
open Jvm Jvm.ClassFile Sem Op Lib Jvm.Free Jvm.Stand Jvm.LawKit Jvm.RoadKit Bundle Jvm.Pilot.@@N@@.Jvm.D
/-! the setting of a body's walk, a point of it, and 'it comes to its end' -/
def oCtx (p : Program) (s : State) (m : MethodId) (meth : Method) (c : Code) (Z : State) (own : String) (cb : ByteArray) (ml : Nat) (nm : String) (rt : Option FieldType) (yy : MethodName) : Prop :=
  p.tables.exec = Jvm.exec ∧ Z.Warmed39 s.vm ∧ c.code = cb ∧ c.maxLocals = ml ∧ s.vm.findClass own = some m.cls ∧ meth.name = nm ∧ meth.sig.returnType = rt ∧ meth.locks = false ∧ s.methodNamed? yy = some m
def oSt (p : Program) (l : Launch) (e : Env) (R : Room) (s : State) (m : MethodId) (args : Array Value) (below : List Frame) (meth : Method) (c : Code) (Z T : State) (h : Heap) (cells slots : Nat) : Prop :=
  ∃ locs, Stand p l e R s m args below meth c T locs cells slots ∧ T.heap = h ∧ Fr Z.heap.size locs ∧ Ext Z.heap h
def oGoes (p : Program) (e : Env) (below : List Frame) (s Z T : State) (f : JFrame) (Q : Option Value → Heap → Prop) (cl sl : Nat) : Prop :=
  ∃ t o, Steps p.tables e below (T.setTop f) t ∧ t.status = .running ∧ Ended t below o ∧ ∃ v L, o = .returned v ∧ Q v t.heap ∧ Fr Z.heap.size L ∧ Ext Z.heap t.heap ∧ FrameEnd s o t L cl sl
/-- a body's contract: called with 'as' at the heap h0 it returns, and Q says what it leaves -/
def oMet (l : Launch) (Z : State) (y : MethodName) (cb : ByteArray) (ml : Nat) (rt : Option FieldType) (rm : Room) (ws : List Jvm.Cond) (as : Array Value) (h0 : Heap) (Q : Option Value → Heap → Prop) : Prop :=
  Ext Z.heap h0 → MetFree l y (head1 (Jvm.Cond.code y cb ml rt :: ws) rm) (fun a U => a = as ∧ Z.Warmed39 U.vm ∧ U.heap = h0) (fun _ _ _ _ _ => True)
    (fun _ U o U' => ∃ v L, o = .returned v ∧ (Q v U'.heap ∧ Fr Z.heap.size L ∧ Ext Z.heap U'.heap) ∧ FrameEnd U o U' L rm.cells rm.slots)
section Own
variable {p : Program} {l : Launch} {e : Env} {R : Room} {s : State} {m : MethodId} {args : Array Value} {below : List Frame} {meth : Method} {c : Code} {Z T : State} {h : Heap} {cells slots cl sl : Nat} {own nm : String} {cb : ByteArray} {yy : MethodName} {ml : Nat} {rt : Option FieldType} {Q : Option Value → Heap → Prop} {L L' : Array Slot} {S : List Value} {pc pc' : Nat} {a0 : Array Value}
theorem oGoes.go {T' : State} {f f' : JFrame} (g : oGoes p e below s Z T' f' Q cl sl) (st : ∀ t, Steps p.tables e below (T'.setTop f') t → Steps p.tables e below (T.setTop f) t) : oGoes p e below s Z T f Q cl sl := by
  obtain ⟨t, o, h1, r⟩ := g
  exact ⟨t, o, st t h1, r⟩
theorem oSt.mono (X : oSt p l e R s m args below meth c Z T h cells slots) {c' n' : Nat} (hc : cells ≤ c') (hn : slots ≤ n') : oSt p l e R s m args below meth c Z T h c' n' := by
  obtain ⟨locs, X, r⟩ := X
  exact ⟨locs, ⟨X.admits, X.cas, X.clock, X.frames, X.room, X.hears, X.method, X.code, X.here, X.tail, X.warmed, X.limits, X.bytes, X.same.mono hc hn⟩, r⟩
theorem oSt.ext0 (X : oSt p l e R s m args below meth c Z T h cells slots) : Ext Z.heap h := by obtain ⟨_, _, _, _, E⟩ := X; exact E
theorem oExt_wr {h h' : Heap} {a : Addr} {k : Nat} {v : Value} (E : Ext Z.heap h) (W : Wr h h' a k v) (q : Z.heap.size ≤ a) : Ext Z.heap h' :=
  (Old.wr (n0 := Z.heap.size) ⟨rfl, E⟩ W q).2
theorem oExt_trans {h1 h2 h3 : Heap} (E : Ext h1 h2) (E' : Ext h2 h3) : Ext h1 h3 := ⟨Nat.le_trans E.1 E'.1, fun a c q => E'.2 a c (E.2 a c q)⟩
theorem oEnter {y : MethodName} {ws : List Jvm.Cond} {rm : Room} {as : Array Value} {h0 : Heap} (hx : plainFor y = true) (ho : y.cls = own) (hn : y.name = nm) {L : Array Slot} (hf : ∀ m, entryFrame m as ml = mkF m 0 L [])
    (body : ∀ p e s m below meth c T, oCtx p s m meth c Z own cb ml nm rt y → oSt p l e rm s m as below meth c Z T h0 0 0 → oGoes p e below s Z T (mkF m 0 L []) Q rm.cells rm.slots) : oMet l Z y cb ml rt rm ws as h0 Q := by
  intro E
  subst ho hn
  refine MetFree.of_bodySF hx hisR ?_
  intro p e s m args below meth c s₁ Bd hml0 hP hK
  obtain ⟨rfl, hZ, hh⟩ := hP
  have e0 : s₁.heap = h0 := by rw [← hh, Bd.state]; rfl
  obtain ⟨t, o, h1, h2, h3, v, L', h4, h5, h6, h7, h8⟩ := body p e s m below meth c s₁ ⟨Bd.exec, hZ, Bd.bytes, hml0, findClass_of_methodNamed Bd.named, (name_of_methodNamed Bd.named Bd.method).1, Bd.returns, BodyLoose.notSynchronized Bd, Bd.named⟩ ⟨[], Stand.of_body Bd, e0, Fr.nil _, E⟩
  exact ⟨t, o, castTop (hf m) h1, h2, h3, v, L', h4, ⟨h5, h6, h7⟩, h8⟩
theorem oLeave (X : oSt p l e R s m args below meth c Z T h cells slots) (rv : Option Value) (hv : meth.sig.returnType = none → rv = none) (hlk : meth.locks = false) (hQ : Q rv h) (hc : cells ≤ cl) (hs : slots ≤ sl) {f : JFrame}
    (st : ∀ fs, (∀ (f : JFrame) (acts : List Action), f.method = m → f.locked = none → f.entered = [] → (doReturn e (T.setTop f) acts rv).1 = T.setFrames fs) → Steps p.tables e below (T.setTop f) (T.setFrames fs)) : oGoes p e below s Z T f Q cl sl := by
  obtain ⟨locs, X, eT, N, E⟩ := X
  obtain ⟨fs, hr, hrun, hended, hW, hsame⟩ := X.leave (v := rv) hv hlk
  have e2 : (T.setFrames fs).heap = h := eT
  refine ⟨_, _, st fs hr, hrun, hended, _, locs, rfl, ?_, N, ?_, ⟨_, rfl⟩, hW, hsame.mono hc hs⟩
  · rw [e2]; exact hQ
  · rw [e2]; exact E
theorem o_return (K : oCtx p s m meth c Z own cb ml nm rt yy) (X : oSt p l e R s m args below meth c Z T h cells slots) (hd : decode cb pc = .ok (.return_, 1)) (hrt : rt = none) (hQ : Q none h) (hc : cells ≤ cl) (hs : slots ≤ sl) : oGoes p e below s Z T (mkF m pc L []) Q cl sl := by
  refine oLeave X none (fun _ => rfl) K.2.2.2.2.2.2.2.1 hQ hc hs fun fs hr => ?_
  obtain ⟨locs, X, eT, N, E⟩ := X
  exact X.returnOut K.1 (K.2.2.2.2.2.2.1.trans hrt) (hb K.2.2.1 hd) hr
theorem o_ireturnN (K : oCtx p s m meth c Z own cb ml nm rt yy) (X : oSt p l e R s m args below meth c Z T h cells slots) (t : FieldType) {z z' : Int32} (hd : decode cb pc = .ok (.ireturn, 1)) (hrt : rt = some t) (ht : t = .boolean ∨ t = .byte ∨ t = .char ∨ t = .short) (hz : nar t z = z') (hQ : Q (some (.int z')) h) (hc : cells ≤ cl) (hs : slots ≤ sl) : oGoes p e below s Z T (mkF m pc L (.int z :: S)) Q cl sl := by
  subst hz
  have hr0 : meth.sig.returnType = some t := K.2.2.2.2.2.2.1.trans hrt
  refine oLeave X (some (.int (nar t z))) (fun q => by rw [hr0] at q; cases q) K.2.2.2.2.2.2.2.1 hQ hc hs fun fs hr => ?_
  obtain ⟨locs, X, eT, N, E⟩ := X
  exact retN X K.1 (t := t) hr0 ht (hb K.2.2.1 hd) hr
theorem o_ireturn (K : oCtx p s m meth c Z own cb ml nm rt yy) (X : oSt p l e R s m args below meth c Z T h cells slots) {z : Int32} (hd : decode cb pc = .ok (.ireturn, 1)) (hrt : rt = some .int) (hQ : Q (some (.int z)) h) (hc : cells ≤ cl) (hs : slots ≤ sl) : oGoes p e below s Z T (mkF m pc L (.int z :: S)) Q cl sl := by
  have hr0 : meth.sig.returnType = some .int := K.2.2.2.2.2.2.1.trans hrt
  refine oLeave X (some (.int z)) (fun q => by rw [hr0] at q; cases q) K.2.2.2.2.2.2.2.1 hQ hc hs fun fs hl => ?_
  obtain ⟨locs, X, eT, N, E⟩ := X
  have hm' : T.vm.method? m = some meth := X.method'
  have hn : narrow .int (.int z) = .int z := rfl
  have hd' := hb K.2.2.1 hd
  have hx := K.1
  show Steps p.tables e below (T.setTop { method := m, pc := pc, locals := L, stack := _ :: S, locked := none }) _
  jvm_step X.here [X.here.top, hx, hd', hm', hr0, hn]
  first | (intro acts; rw [hl _ acts rfl rfl rfl]) | rw [hl _ _ rfl rfl rfl]
  exact Steps.refl _
theorem o_areturn (K : oCtx p s m meth c Z own cb ml nm rt yy) (X : oSt p l e R s m args below meth c Z T h cells slots) {t : FieldType} {v : Value} (hd : decode cb pc = .ok (.areturn, 1)) (hrt : rt = some t) (ht : t.isReference = true) (hv : v.isRef = true) (hQ : Q (some v) h) (hc : cells ≤ cl) (hs : slots ≤ sl) : oGoes p e below s Z T (mkF m pc L (v :: S)) Q cl sl := by
  have hr0 : meth.sig.returnType = some t := K.2.2.2.2.2.2.1.trans hrt
  refine oLeave X (some v) (fun q => by rw [hr0] at q; cases q) K.2.2.2.2.2.2.2.1 hQ hc hs fun fs hl => ?_
  obtain ⟨locs, X, eT, N, E⟩ := X
  have hm' : T.vm.method? m = some meth := X.method'
  have hd' := hb K.2.2.1 hd
  have hx := K.1
  show Steps p.tables e below (T.setTop { method := m, pc := pc, locals := L, stack := _ :: S, locked := none }) _
  jvm_step X.here [X.here.top, hx, hd', hm', hr0, ht, hv]
  first | (intro acts; rw [hl _ acts rfl rfl rfl]) | rw [hl _ _ rfl rfl rfl]
  exact Steps.refl _
theorem o_iload (K : oCtx p s m meth c Z own cb ml nm rt yy) (X : oSt p l e R s m args below meth c Z T h cells slots) {k : Nat} {v : Int32} (hd : decode cb pc = .ok (.iload k, 2)) (hp : pc + 2 = pc') (hl : L[k]? = some (.val (.int v))) (g : oGoes p e below s Z T (mkF m pc' L (.int v :: S)) Q cl sl) : oGoes p e below s Z T (mkF m pc L S) Q cl sl := by
  obtain ⟨_, X, -⟩ := X
  subst hp
  exact g.go fun t r => XS.iload X.here K.1 rfl (hb K.2.2.1 hd) hl r
theorem o_iloadN (K : oCtx p s m meth c Z own cb ml nm rt yy) (X : oSt p l e R s m args below meth c Z T h cells slots) {k : Fin 4} {v : Int32} (hd : decode cb pc = .ok (.iload_n k, 1)) (hp : pc + 1 = pc') (hl : L[k.val]? = some (.val (.int v))) (g : oGoes p e below s Z T (mkF m pc' L (.int v :: S)) Q cl sl) : oGoes p e below s Z T (mkF m pc L S) Q cl sl := by
  obtain ⟨_, X, -⟩ := X
  subst hp
  exact g.go fun t r => XS.iloadN X.here K.1 rfl (hb K.2.2.1 hd) hl r
theorem o_istore (K : oCtx p s m meth c Z own cb ml nm rt yy) (X : oSt p l e R s m args below meth c Z T h cells slots) {k : Nat} {v : Int32} (hd : decode cb pc = .ok (.istore k, 2)) (hp : pc + 2 = pc') (hl : storeLocals L k (.int v) = some L') (g : oGoes p e below s Z T (mkF m pc' L' S) Q cl sl) : oGoes p e below s Z T (mkF m pc L (.int v :: S)) Q cl sl := by
  obtain ⟨_, X, -⟩ := X
  subst hp
  exact g.go fun t r => XS.istore X.here K.1 rfl (hb K.2.2.1 hd) rfl hl r
theorem o_aload (K : oCtx p s m meth c Z own cb ml nm rt yy) (X : oSt p l e R s m args below meth c Z T h cells slots) {k : Nat} {v : Value} (hd : decode cb pc = .ok (.aload k, 2)) (hp : pc + 2 = pc') (hl : L[k]? = some (.val v)) (hv : v.isRef = true) (g : oGoes p e below s Z T (mkF m pc' L (v :: S)) Q cl sl) : oGoes p e below s Z T (mkF m pc L S) Q cl sl := by
  obtain ⟨_, X, -⟩ := X
  subst hp
  exact g.go fun t r => XS.aload X.here K.1 rfl (hb K.2.2.1 hd) hl hv r
theorem o_aloadN (K : oCtx p s m meth c Z own cb ml nm rt yy) (X : oSt p l e R s m args below meth c Z T h cells slots) {k : Fin 4} {v : Value} (hd : decode cb pc = .ok (.aload_n k, 1)) (hp : pc + 1 = pc') (hl : L[k.val]? = some (.val v)) (hv : v.isRef = true) (g : oGoes p e below s Z T (mkF m pc' L (v :: S)) Q cl sl) : oGoes p e below s Z T (mkF m pc L S) Q cl sl := by
  obtain ⟨_, X, -⟩ := X
  subst hp
  exact g.go fun t r => XS.aloadN X.here K.1 rfl (hb K.2.2.1 hd) hl hv r
theorem o_astore (K : oCtx p s m meth c Z own cb ml nm rt yy) (X : oSt p l e R s m args below meth c Z T h cells slots) {k : Nat} {v : Value} (hd : decode cb pc = .ok (.astore k, 2)) (hp : pc + 2 = pc') (hv : v.isRef = true) (hl : storeLocals L k v = some L') (g : oGoes p e below s Z T (mkF m pc' L' S) Q cl sl) : oGoes p e below s Z T (mkF m pc L (v :: S)) Q cl sl := by
  obtain ⟨_, X, -⟩ := X
  subst hp
  exact g.go fun t r => XS.astore X.here K.1 rfl (hb K.2.2.1 hd) rfl hv hl r
theorem o_astoreN (K : oCtx p s m meth c Z own cb ml nm rt yy) (X : oSt p l e R s m args below meth c Z T h cells slots) {k : Fin 4} {v : Value} (hd : decode cb pc = .ok (.astore_n k, 1)) (hp : pc + 1 = pc') (hv : v.isRef = true) (hl : storeLocals L k.val v = some L') (g : oGoes p e below s Z T (mkF m pc' L' S) Q cl sl) : oGoes p e below s Z T (mkF m pc L (v :: S)) Q cl sl := by
  obtain ⟨_, X, -⟩ := X
  subst hp
  exact g.go fun t r => XS.astoreN X.here K.1 rfl (hb K.2.2.1 hd) rfl hv hl r
theorem o_iconst (K : oCtx p s m meth c Z own cb ml nm rt yy) (X : oSt p l e R s m args below meth c Z T h cells slots) {i : Int} {z : Int32} (hd : decode cb pc = .ok (.iconst i, 1)) (hp : pc + 1 = pc') (hz : Int32.ofInt i = z) (g : oGoes p e below s Z T (mkF m pc' L (.int z :: S)) Q cl sl) : oGoes p e below s Z T (mkF m pc L S) Q cl sl := by
  obtain ⟨_, X, -⟩ := X
  subst hp
  exact g.go fun t r => XS.iconst X.here K.1 rfl (hb K.2.2.1 hd) (hz ▸ r)
theorem o_bipush (K : oCtx p s m meth c Z own cb ml nm rt yy) (X : oSt p l e R s m args below meth c Z T h cells slots) {i : Int} {z : Int32} (hd : decode cb pc = .ok (.bipush i, 2)) (hp : pc + 2 = pc') (hz : (Int8.ofInt i).toInt32 = z) (g : oGoes p e below s Z T (mkF m pc' L (.int z :: S)) Q cl sl) : oGoes p e below s Z T (mkF m pc L S) Q cl sl := by
  obtain ⟨_, X, -⟩ := X
  subst hp
  exact g.go fun t r => XS.bipush X.here K.1 rfl (hb K.2.2.1 hd) (hz ▸ r)
theorem o_sipush (K : oCtx p s m meth c Z own cb ml nm rt yy) (X : oSt p l e R s m args below meth c Z T h cells slots) {i : Int} {z : Int32} (hd : decode cb pc = .ok (.sipush i, 3)) (hp : pc + 3 = pc') (hz : (Int16.ofInt i).toInt32 = z) (g : oGoes p e below s Z T (mkF m pc' L (.int z :: S)) Q cl sl) : oGoes p e below s Z T (mkF m pc L S) Q cl sl := by
  obtain ⟨_, X, -⟩ := X
  subst hp
  exact g.go fun t r => XS.sipush X.here K.1 rfl (hb K.2.2.1 hd) (hz ▸ r)
theorem o_aconst_null (K : oCtx p s m meth c Z own cb ml nm rt yy) (X : oSt p l e R s m args below meth c Z T h cells slots)  (hd : decode cb pc = .ok (.aconst_null, 1)) (hp : pc + 1 = pc') (g : oGoes p e below s Z T (mkF m pc' L (.null :: S)) Q cl sl) : oGoes p e below s Z T (mkF m pc L S) Q cl sl := by
  obtain ⟨_, X, -⟩ := X
  subst hp
  exact g.go fun t r => XS.aconstNull X.here K.1 rfl (hb K.2.2.1 hd) r
theorem o_isub (K : oCtx p s m meth c Z own cb ml nm rt yy) (X : oSt p l e R s m args below meth c Z T h cells slots) {x y z : Int32} (hd : decode cb pc = .ok (.isub, 1)) (hp : pc + 1 = pc') (hz : x - y = z) (g : oGoes p e below s Z T (mkF m pc' L (.int z :: S)) Q cl sl) : oGoes p e below s Z T (mkF m pc L (.int y :: .int x :: S)) Q cl sl := by
  obtain ⟨_, X, -⟩ := X
  subst hp
  exact g.go fun t r => XS.isub X.here K.1 rfl (hb K.2.2.1 hd) rfl (hz ▸ r)
theorem o_iand (K : oCtx p s m meth c Z own cb ml nm rt yy) (X : oSt p l e R s m args below meth c Z T h cells slots) {x y z : Int32} (hd : decode cb pc = .ok (.iand, 1)) (hp : pc + 1 = pc') (hz : x &&& y = z) (g : oGoes p e below s Z T (mkF m pc' L (.int z :: S)) Q cl sl) : oGoes p e below s Z T (mkF m pc L (.int y :: .int x :: S)) Q cl sl := by
  obtain ⟨_, X, -⟩ := X
  subst hp
  exact g.go fun t r => XS.iand X.here K.1 rfl (hb K.2.2.1 hd) rfl (hz ▸ r)
theorem o_iushr (K : oCtx p s m meth c Z own cb ml nm rt yy) (X : oSt p l e R s m args below meth c Z T h cells slots) {x y z : Int32} (hd : decode cb pc = .ok (.iushr, 1)) (hp : pc + 1 = pc') (hz : (x.toUInt32 >>> (y &&& 31).toUInt32).toInt32 = z) (g : oGoes p e below s Z T (mkF m pc' L (.int z :: S)) Q cl sl) : oGoes p e below s Z T (mkF m pc L (.int y :: .int x :: S)) Q cl sl := by
  obtain ⟨_, X, -⟩ := X
  subst hp
  exact g.go fun t r => XS.iushr X.here K.1 rfl (hb K.2.2.1 hd) rfl (hz ▸ r)
theorem o_i2b (K : oCtx p s m meth c Z own cb ml nm rt yy) (X : oSt p l e R s m args below meth c Z T h cells slots) {x : Int32} {z : Int32} (hd : decode cb pc = .ok (.i2b, 1)) (hp : pc + 1 = pc') (hz : x.toInt8.toInt32 = z) (g : oGoes p e below s Z T (mkF m pc' L (.int z :: S)) Q cl sl) : oGoes p e below s Z T (mkF m pc L (.int x :: S)) Q cl sl := by
  obtain ⟨_, X, -⟩ := X
  subst hp
  exact g.go fun t r => XS.i2b X.here K.1 rfl (hb K.2.2.1 hd) rfl (hz ▸ r)
theorem o_i2c (K : oCtx p s m meth c Z own cb ml nm rt yy) (X : oSt p l e R s m args below meth c Z T h cells slots) {x : Int32} {z : Int32} (hd : decode cb pc = .ok (.i2c, 1)) (hp : pc + 1 = pc') (hz : x.toUInt32.toUInt16.toUInt32.toInt32 = z) (g : oGoes p e below s Z T (mkF m pc' L (.int z :: S)) Q cl sl) : oGoes p e below s Z T (mkF m pc L (.int x :: S)) Q cl sl := by
  obtain ⟨_, X, -⟩ := X
  subst hp
  exact g.go fun t r => XS.i2c X.here K.1 rfl (hb K.2.2.1 hd) rfl (hz ▸ r)
theorem o_iinc (K : oCtx p s m meth c Z own cb ml nm rt yy) (X : oSt p l e R s m args below meth c Z T h cells slots) {k : Nat} {i : Int} {x : Int32} (hd : decode cb pc = .ok (.iinc k i, 3)) (hp : pc + 3 = pc') (hl : L[k]? = some (.val (.int x))) (hl' : storeLocals L k (.int (x + Int32.ofInt i)) = some L') (g : oGoes p e below s Z T (mkF m pc' L' S) Q cl sl) : oGoes p e below s Z T (mkF m pc L S) Q cl sl := by
  obtain ⟨_, X, -⟩ := X
  subst hp
  exact g.go fun t r => XS.iinc X.here K.1 rfl (hb K.2.2.1 hd) hl hl' r
theorem o_dup (K : oCtx p s m meth c Z own cb ml nm rt yy) (X : oSt p l e R s m args below meth c Z T h cells slots) {v : Value} (hd : decode cb pc = .ok (.dup, 1)) (hp : pc + 1 = pc') (hc : v.category = 1) (g : oGoes p e below s Z T (mkF m pc' L (v :: v :: S)) Q cl sl) : oGoes p e below s Z T (mkF m pc L (v :: S)) Q cl sl := by
  obtain ⟨_, X, -⟩ := X
  subst hp
  exact g.go fun t r => XS.dup X.here K.1 rfl (hb K.2.2.1 hd) rfl hc r
theorem o_goto (K : oCtx p s m meth c Z own cb ml nm rt yy) (X : oSt p l e R s m args below meth c Z T h cells slots) {o : Int} (hd : decode cb pc = .ok (.goto o, 3)) (ho : 0 ≤ (pc : Int) + o) (hp : ((pc : Int) + o).toNat = pc') (g : oGoes p e below s Z T (mkF m pc' L S) Q cl sl) : oGoes p e below s Z T (mkF m pc L S) Q cl sl := by
  obtain ⟨_, X, -⟩ := X
  exact g.go fun t r => XS.goto X.here K.1 rfl (pc0 := pc) rfl (hb K.2.2.1 hd) ho hp r
theorem o_icmp_ge_t (K : oCtx p s m meth c Z own cb ml nm rt yy) (X : oSt p l e R s m args below meth c Z T h cells slots) {x y : Int32} {o : Int} (hd : decode cb pc = .ok (.if_icmp .ge o, 3)) (ho : 0 ≤ (pc : Int) + o) (hp : ((pc : Int) + o).toNat = pc') (hc : ¬ x < y) (g : oGoes p e below s Z T (mkF m pc' L S) Q cl sl) : oGoes p e below s Z T (mkF m pc L (.int y :: .int x :: S)) Q cl sl := by
  obtain ⟨_, X, -⟩ := X
  exact g.go fun t r => XS.icmpYes X.here K.1 rfl (pc0 := pc) rfl (hb K.2.2.1 hd) rfl (flt hc).2.1 ho hp r
theorem o_icmp_ge_f (K : oCtx p s m meth c Z own cb ml nm rt yy) (X : oSt p l e R s m args below meth c Z T h cells slots) {x y : Int32} {o : Int} (hd : decode cb pc = .ok (.if_icmp .ge o, 3)) (hp : pc + 3 = pc') (hc : x < y) (g : oGoes p e below s Z T (mkF m pc' L S) Q cl sl) : oGoes p e below s Z T (mkF m pc L (.int y :: .int x :: S)) Q cl sl := by
  obtain ⟨_, X, -⟩ := X
  subst hp
  exact g.go fun t r => XS.icmpNo X.here K.1 rfl (hb K.2.2.1 hd) rfl (tlt hc).2.1 r
theorem o_icmp_gt_f (K : oCtx p s m meth c Z own cb ml nm rt yy) (X : oSt p l e R s m args below meth c Z T h cells slots) {x y : Int32} {o : Int} (hd : decode cb pc = .ok (.if_icmp .gt o, 3)) (hp : pc + 3 = pc') (hc : ¬ y < x) (g : oGoes p e below s Z T (mkF m pc' L S) Q cl sl) : oGoes p e below s Z T (mkF m pc L (.int y :: .int x :: S)) Q cl sl := by
  obtain ⟨_, X, -⟩ := X
  subst hp
  exact g.go fun t r => XS.icmpNo X.here K.1 rfl (hb K.2.2.1 hd) rfl (flt hc).2.2.1 r
theorem o_icmp_le_t (K : oCtx p s m meth c Z own cb ml nm rt yy) (X : oSt p l e R s m args below meth c Z T h cells slots) {x y : Int32} {o : Int} (hd : decode cb pc = .ok (.if_icmp .le o, 3)) (ho : 0 ≤ (pc : Int) + o) (hp : ((pc : Int) + o).toNat = pc') (hc : ¬ y < x) (g : oGoes p e below s Z T (mkF m pc' L S) Q cl sl) : oGoes p e below s Z T (mkF m pc L (.int y :: .int x :: S)) Q cl sl := by
  obtain ⟨_, X, -⟩ := X
  exact g.go fun t r => XS.icmpYes X.here K.1 rfl (pc0 := pc) rfl (hb K.2.2.1 hd) rfl (flt hc).2.2.2 ho hp r
theorem o_icmp_eq_t (K : oCtx p s m meth c Z own cb ml nm rt yy) (X : oSt p l e R s m args below meth c Z T h cells slots) {x y : Int32} {o : Int} (hd : decode cb pc = .ok (.if_icmp .eq o, 3)) (ho : 0 ≤ (pc : Int) + o) (hp : ((pc : Int) + o).toNat = pc') (hc : x = y) (g : oGoes p e below s Z T (mkF m pc' L S) Q cl sl) : oGoes p e below s Z T (mkF m pc L (.int y :: .int x :: S)) Q cl sl := by
  obtain ⟨_, X, -⟩ := X
  exact g.go fun t r => XS.icmpYes X.here K.1 rfl (pc0 := pc) rfl (hb K.2.2.1 hd) rfl (teq hc).1 ho hp r
theorem o_if_eq_t (K : oCtx p s m meth c Z own cb ml nm rt yy) (X : oSt p l e R s m args below meth c Z T h cells slots) {x : Int32} {o : Int} (hd : decode cb pc = .ok (.ifCond .eq o, 3)) (ho : 0 ≤ (pc : Int) + o) (hp : ((pc : Int) + o).toNat = pc') (hc : x = 0) (g : oGoes p e below s Z T (mkF m pc' L S) Q cl sl) : oGoes p e below s Z T (mkF m pc L (.int x :: S)) Q cl sl := by
  obtain ⟨_, X, -⟩ := X
  exact g.go fun t r => XS.ifYes X.here K.1 rfl (pc0 := pc) rfl (hb K.2.2.1 hd) rfl ((if0 _ _).trans (teq hc).1) ho hp r
theorem o_if_eq_f (K : oCtx p s m meth c Z own cb ml nm rt yy) (X : oSt p l e R s m args below meth c Z T h cells slots) {x : Int32} {o : Int} (hd : decode cb pc = .ok (.ifCond .eq o, 3)) (hp : pc + 3 = pc') (hc : ¬ x = 0) (g : oGoes p e below s Z T (mkF m pc' L S) Q cl sl) : oGoes p e below s Z T (mkF m pc L (.int x :: S)) Q cl sl := by
  obtain ⟨_, X, -⟩ := X
  subst hp
  exact g.go fun t r => XS.ifNo X.here K.1 rfl (hb K.2.2.1 hd) rfl ((if0 _ _).trans (feq hc).1) r
theorem o_if_ne_t (K : oCtx p s m meth c Z own cb ml nm rt yy) (X : oSt p l e R s m args below meth c Z T h cells slots) {x : Int32} {o : Int} (hd : decode cb pc = .ok (.ifCond .ne o, 3)) (ho : 0 ≤ (pc : Int) + o) (hp : ((pc : Int) + o).toNat = pc') (hc : ¬ x = 0) (g : oGoes p e below s Z T (mkF m pc' L S) Q cl sl) : oGoes p e below s Z T (mkF m pc L (.int x :: S)) Q cl sl := by
  obtain ⟨_, X, -⟩ := X
  exact g.go fun t r => XS.ifYes X.here K.1 rfl (pc0 := pc) rfl (hb K.2.2.1 hd) rfl ((if0 _ _).trans (feq hc).2) ho hp r
theorem o_icmp_ne_f (K : oCtx p s m meth c Z own cb ml nm rt yy) (X : oSt p l e R s m args below meth c Z T h cells slots) {x y : Int32} {o : Int} (hd : decode cb pc = .ok (.if_icmp .ne o, 3)) (hp : pc + 3 = pc') (hc : x = y) (g : oGoes p e below s Z T (mkF m pc' L S) Q cl sl) : oGoes p e below s Z T (mkF m pc L (.int y :: .int x :: S)) Q cl sl := by
  obtain ⟨_, X, -⟩ := X
  subst hp
  exact g.go fun t r => XS.icmpNo X.here K.1 rfl (hb K.2.2.1 hd) rfl (teq hc).2 r
theorem o_ifnonnull_t (K : oCtx p s m meth c Z own cb ml nm rt yy) (X : oSt p l e R s m args below meth c Z T h cells slots) {b : Addr} {o : Int} (hd : decode cb pc = .ok (.ifnonnull o, 3)) (ho : 0 ≤ (pc : Int) + o) (hp : ((pc : Int) + o).toNat = pc') (g : oGoes p e below s Z T (mkF m pc' L S) Q cl sl) : oGoes p e below s Z T (mkF m pc L (.ref b :: S)) Q cl sl := by
  obtain ⟨_, X, -⟩ := X
  exact g.go fun t r => XS.ifnonnullYes X.here K.1 rfl (pc0 := pc) rfl (hb K.2.2.1 hd) rfl ho hp r
theorem o_acmp (K : oCtx p s m meth c Z own cb ml nm rt yy) (X : oSt p l e R s m args below meth c Z T h cells slots) {cd : ACond} {x y : Value} {o : Int} (same : Bool) (hd : decode cb pc = .ok (.if_acmp cd o, 3)) (ho : 0 ≤ (pc : Int) + o) (h1 : x.isRef = true) (h2 : y.isRef = true) (hq : decide (x = y) = same) (hp : pc' = if acV cd same = true then ((pc : Int) + o).toNat else pc + 3) (g : oGoes p e below s Z T (mkF m pc' L S) Q cl sl) : oGoes p e below s Z T (mkF m pc L (y :: x :: S)) Q cl sl := by
  obtain ⟨_, X, -⟩ := X
  exact g.go fun t r => Jvm.RoadKit.acmp (g := mkF m pc L (y :: x :: S)) X K.1 rfl h1 h2 (pc0 := pc) rfl (hb K.2.2.1 hd) rfl hq ho hp r
theorem o_getfield (K : oCtx p s m meth c Z own cb ml nm rt yy) (X : oSt p l e R s m args below meth c Z T h cells slots) {R0 O n d host : String} {index : Nat} {a : Addr} {v : Value} (w : (Jvm.Cond.fieldLink own index R0 n d).before a0 Z = true ∨ (Jvm.Cond.fieldLinkNest own index R0 n d host).before a0 Z = true) (via : Via Z R0 O n d) (F : Fld Z h a O n d v) (hd : decode cb pc = .ok (.getfield index, 3)) (hp : pc + 3 = pc')
    (g : ∀ T', oSt p l e R s m args below meth c Z T' h cells slots → oGoes p e below s Z T' (mkF m pc' L (v :: S)) Q cl sl) : oGoes p e below s Z T (mkF m pc L (.ref a :: S)) Q cl sl := by
  obtain ⟨locs, X, eT, N, E⟩ := X
  subst hp
  obtain ⟨T', X', e', st⟩ := getF X K.1 K.2.1 K.2.2.2.2.1 w via eT F (g := mkF m pc L (.ref a :: S)) rfl rfl (hb K.2.2.1 hd)
  exact (g T' ⟨locs, X', e', N, E⟩).go st
theorem o_getstatic (K : oCtx p s m meth c Z own cb ml nm rt yy) (X : oSt p l e R s m args below meth c Z T h cells slots) {R0 O n d host : String} {index : Nat} {v : Value} (w : (Jvm.Cond.fieldLink own index R0 n d).before a0 Z = true ∨ (Jvm.Cond.fieldLinkNest own index R0 n d host).before a0 Z = true) (via : Via Z R0 O n d) (F : Sta Z h O n d v) (hd : decode cb pc = .ok (.getstatic index, 3)) (hp : pc + 3 = pc')
    (g : ∀ T', oSt p l e R s m args below meth c Z T' h cells slots → oGoes p e below s Z T' (mkF m pc' L (v :: S)) Q cl sl) : oGoes p e below s Z T (mkF m pc L S) Q cl sl := by
  obtain ⟨locs, X, eT, N, E⟩ := X
  subst hp
  obtain ⟨T', X', e', st⟩ := getS2 X K.1 K.2.1 K.2.2.2.2.1 w via eT F (g := mkF m pc L S) rfl (hb K.2.2.1 hd)
  exact (g T' ⟨locs, X', e', N, E⟩).go st
theorem o_putfield (K : oCtx p s m meth c Z own cb ml nm rt yy) (X : oSt p l e R s m args below meth c Z T h cells slots) {R0 O n d host C : String} {index kk : Nat} {ty : FieldType} {a : Addr} {v old : Value} (w : (Jvm.Cond.fieldLink own index R0 n d).before a0 Z = true ∨ (Jvm.Cond.fieldLinkNest own index R0 n d host).before a0 Z = true) (via : Via Z R0 O n d) (F : Fld Z h a O n d old) (Ex : Exa Z h a C) (Lz : (Jvm.Cond.lays C O n d).before a0 Z = true ∨ ((Jvm.Cond.laysFinal C O n d).before a0 Z = true ∧ own = O ∧ nm = "<init>")) (wi : (Jvm.Cond.instantiable C kk).before a0 Z = true) (hty : parseFieldDescriptor d = some ty) (hn : narrow ty v = v) (hf : fits ty v = true) (hza : Z.heap.size ≤ a) (hd : decode cb pc = .ok (.putfield index, 3)) (hp : pc + 3 = pc')
    (g : ∀ T' h', oSt p l e R s m args below meth c Z T' h' cells slots → Wr h h' a (Jvm.RoadKit.slotOf Z O n d) v → oGoes p e below s Z T' (mkF m pc' L S) Q cl sl) : oGoes p e below s Z T (mkF m pc L (v :: .ref a :: S)) Q cl sl := by
  obtain ⟨locs, X, eT, N, E⟩ := X
  subst hp
  obtain ⟨T', h', X', e', W, st⟩ := putF X K.1 K.2.1 K.2.2.2.2.1 w via eT F Ex (Lz.imp id fun q => ⟨q.1, q.2.1, K.2.2.2.2.2.1.trans q.2.2⟩) wi hty hn hf (g := mkF m pc L (v :: .ref a :: S)) rfl rfl (hb K.2.2.1 hd)
  exact (g T' h' ⟨_, X', e', Fr.snoc X' N hza, oExt_wr E W hza⟩ W).go st
theorem o_putfieldN (K : oCtx p s m meth c Z own cb ml nm rt yy) (X : oSt p l e R s m args below meth c Z T h cells slots) {R0 O n d C : String} {index kk : Nat} {ty : FieldType} {a : Addr} {v v' old : Value} (w : (Jvm.Cond.fieldLink own index R0 n d).before a0 Z = true) (via : Via Z R0 O n d) (F : Fld Z h a O n d old) (Ex : Exa Z h a C) (Lz : (Jvm.Cond.lays C O n d).before a0 Z = true ∨ ((Jvm.Cond.laysFinal C O n d).before a0 Z = true ∧ own = O ∧ nm = "<init>")) (wi : (Jvm.Cond.instantiable C kk).before a0 Z = true) (hty : parseFieldDescriptor d = some ty) (hn : narrow ty v = v') (hf : fits ty v' = true) (hza : Z.heap.size ≤ a) (hd : decode cb pc = .ok (.putfield index, 3)) (hp : pc + 3 = pc')
    (g : ∀ T' h', oSt p l e R s m args below meth c Z T' h' cells slots → Wr h h' a (Jvm.RoadKit.slotOf Z O n d) v' → oGoes p e below s Z T' (mkF m pc' L S) Q cl sl) : oGoes p e below s Z T (mkF m pc L (v :: .ref a :: S)) Q cl sl := by
  obtain ⟨locs, X, eT, N, E⟩ := X
  subst hp
  obtain ⟨T', h', X', e', W, st⟩ := putFN X K.1 K.2.1 K.2.2.2.2.1 w via eT F Ex (Lz.imp id fun q => ⟨q.1, q.2.1, K.2.2.2.2.2.1.trans q.2.2⟩) wi hty hn hf (g := mkF m pc L (v :: .ref a :: S)) rfl rfl (hb K.2.2.1 hd)
  exact (g T' h' ⟨_, X', e', Fr.snoc X' N hza, oExt_wr E W hza⟩ W).go st
theorem o_new (K : oCtx p s m meth c Z own cb ml nm rt yy) (X : oSt p l e R s m args below meth c Z T h cells slots) {C : String} {index n : Nat} (w : (Jvm.Cond.classLink own index C).before a0 Z = true) (wi : (Jvm.Cond.instantiable C n).before a0 Z = true) (wz : (Jvm.Cond.initialized C).before a0 Z = true) (hd : decode cb pc = .ok (.new index, 3)) (hp : pc + 3 = pc') (hc : cells + 1 ≤ R.cells) (hl : slots + n ≤ R.slots)
    (g : ∀ T' h' b, oSt p l e R s m args below meth c Z T' h' (cells + 1) (slots + n) → b = h.size → Ext h h' → Exa Z h' b C → (∀ {O nm d : String} {ty : FieldType}, Laid Z a0 C O nm d → parseFieldDescriptor d = some ty → Fld Z h' b O nm d (defaultValue ty)) → Z.heap.size ≤ b → oGoes p e below s Z T' (mkF m pc' L (.ref b :: S)) Q cl sl) : oGoes p e below s Z T (mkF m pc L S) Q cl sl := by
  obtain ⟨locs, X, eT, N, E⟩ := X
  subst hp
  obtain ⟨T', h', X', e', E', A, D, -, st⟩ := newO X K.1 K.2.1 K.2.2.2.2.1 w wi wz eT (g := mkF m pc L S) rfl (hb K.2.2.1 hd) hc hl
  exact (g T' h' h.size ⟨_, X', e', N, oExt_trans E E'⟩ rfl E' A D E.1).go st
theorem o_initObj (K : oCtx p s m meth c Z own cb ml nm rt yy) (X : oSt p l e R s m args below meth c Z T h cells slots) {index : Nat} {a : Addr} (w1 : (Jvm.Cond.methodLink own index Lib.objectInit).before a0 Z = true) (w2 : (Jvm.Cond.instanceMethod Lib.objectInit).before a0 Z = true) (w3 : (Jvm.Cond.code Lib.objectInit ⟨#[0xb1]⟩ 1 none).before a0 Z = true) (hd : decode cb pc = .ok (.invokespecial index, 3)) (hp : pc + 3 = pc') (hsz : L.size = ml) (hf : 1 ≤ R.frames) {W : Nat} (hW : (S.map fun v => v.category).sum = W) (hl : W + 12 ≤ R.locals)
    (g : ∀ T', oSt p l e R s m args below meth c Z T' h cells slots → oGoes p e below s Z T' (mkF m pc' L S) Q cl sl) : oGoes p e below s Z T (mkF m pc L (.ref a :: S)) Q cl sl := by
  obtain ⟨locs, X, eT, N, E⟩ := X
  subst hp
  obtain ⟨T', X', e', st⟩ := initO X K.1 K.2.1 K.2.2.2.2.1 w1 w2 w3 eT (g := mkF m pc L (.ref a :: S)) rfl (by show L.size = _; rw [K.2.2.2.1]; exact hsz) rfl (hb K.2.2.1 hd) hf (W := W) (by show 2 * 0 + _ ≤ _; omega) hl
  exact (g T' ⟨_, X', e', N, E⟩).go st
theorem o_static (K : oCtx p s m meth c Z own cb ml nm rt yy) (X : oSt p l e R s m args below meth c Z T h cells slots) {index : Nat} {y : MethodName} {bs : ByteArray} {mx : Nat} {rc : Option FieldType} {rm : Room} {as : Array Value} {Qc : Option Value → Heap → Prop} (w1 : (Jvm.Cond.methodLink own index y).before a0 Z = true) (w2 : (Jvm.Cond.static y).before a0 Z = true) (wz : (Jvm.Cond.initialized y.cls).before a0 Z = true) (wc : (Jvm.Cond.code y bs mx rc).before a0 Z = true) (hy : y.cls ≠ "java/lang/invoke/MethodHandle" ∧ y.cls ≠ "java/lang/invoke/VarHandle")
    (hM : oMet l Z y bs mx rc rm [] as h Qc) (hf : rm.frames + 1 ≤ R.frames) (hsz : L.size = ml) {argsL : List Value} (has : argsL.toArray = as) (hlen : ∀ sig, parseMethodDescriptor y.desc = some sig → argsL.length = sig.parameters.length) {W : Nat} (hW : (S.map fun v => v.category).sum = W) (hl : W + (mx + 11) + rm.locals ≤ R.locals) (hc : cells + rm.cells ≤ R.cells) (hs : slots + rm.slots ≤ R.slots) (hd : decode cb pc = .ok (.invokestatic index, 3)) (hp : pc + 3 = pc') (g : ∀ v T' h', oSt p l e R s m args below meth c Z T' h' (cells + rm.cells) (slots + rm.slots) → Qc v h' → oGoes p e below s Z T' (mkF m pc' L (v.toList ++ S)) Q cl sl) : oGoes p e below s Z T (mkF m pc L (argsL.reverse ++ S)) Q cl sl := by
  obtain ⟨locs, X, eT, N, E⟩ := X
  subst hp
  obtain ⟨v, _, ⟨T', L1, k1, n1⟩, -, X', ⟨Lc, hQ, l1, y1, z1⟩, st⟩ := Jvm.LawKit.callS X K.1 (y := y) K.2.2.2.2.1 (mvT K.2.1 w1) (mvT K.2.1 w2) (mvT K.2.1 wz) (mvT K.2.1 wc) hy (backOf (W := W) (Q := fun v h L => Qc v h ∧ Fr Z.heap.size L ∧ Ext Z.heap h) (hM E) K.2.1 wc wz hf hl) (g := mkF m pc L (argsL.reverse ++ S)) rfl (by show L.size = _; rw [K.2.2.2.1]; exact hsz) (argsL := argsL) (rest := S) hlen rfl (by show 2 * 0 + _ ≤ _; omega) (hb K.2.2.1 hd) (fun _ _ => ⟨has, eT, hc, hs⟩)
  dsimp only [Pt.U, Pt.locs, Pt.cells, Pt.slots] at X' l1 y1 z1 st hQ
  subst l1 y1 z1
  exact (g v T' _ ⟨_, X', rfl, Fr.app N hQ.2.1, hQ.2.2⟩ hQ.1).go st
theorem o_special (K : oCtx p s m meth c Z own cb ml nm rt yy) (X : oSt p l e R s m args below meth c Z T h cells slots) {index : Nat} {y : MethodName} {a : Addr} {bs : ByteArray} {mx : Nat} {rm : Room} {as : Array Value} {Qc : Option Value → Heap → Prop} (hy1 : y.name = "<init>") (w1 : (Jvm.Cond.methodLink own index y).before a0 Z = true) (w2 : (Jvm.Cond.instanceMethod y).before a0 Z = true) (wz : (Jvm.Cond.initialized y.cls).before a0 Z = true) (wc : (Jvm.Cond.code y bs mx none).before a0 Z = true) (hy : y.cls ≠ "java/lang/invoke/MethodHandle" ∧ y.cls ≠ "java/lang/invoke/VarHandle")
    (hM : oMet l Z y bs mx none rm [] as h Qc) (hf : rm.frames + 1 ≤ R.frames) (hsz : L.size = ml) {argsL : List Value} (has : (Value.ref a :: argsL).toArray = as) (hlen : ∀ sig, parseMethodDescriptor y.desc = some sig → argsL.length = sig.parameters.length) {W : Nat} (hW : (S.map fun v => v.category).sum = W) (hl : W + (mx + 11) + rm.locals ≤ R.locals) (hc : cells + rm.cells ≤ R.cells) (hs : slots + rm.slots ≤ R.slots) (hd : decode cb pc = .ok (.invokespecial index, 3)) (hp : pc + 3 = pc') (g : ∀ v T' h', oSt p l e R s m args below meth c Z T' h' (cells + rm.cells) (slots + rm.slots) → Qc v h' → oGoes p e below s Z T' (mkF m pc' L (v.toList ++ S)) Q cl sl) : oGoes p e below s Z T (mkF m pc L (argsL.reverse ++ .ref a :: S)) Q cl sl := by
  obtain ⟨locs, X, eT, N, E⟩ := X
  subst hp
  obtain ⟨v, _, ⟨T', L1, k1, n1⟩, -, X', ⟨Lc, hQ, l1, y1, z1⟩, st⟩ := X.specialBack K.1 (y := y) hy1 K.2.2.2.2.1 (mvT K.2.1 w1) (mvT K.2.1 w2) (mvT K.2.1 wc) hy (backOf (W := W) (Q := fun v h L => Qc v h ∧ Fr Z.heap.size L ∧ Ext Z.heap h) (hM E) K.2.1 wc wz hf hl) (g := mkF m pc L (argsL.reverse ++ .ref a :: S)) rfl (by show L.size = _; rw [K.2.2.2.1]; exact hsz) (Steps.refl _) (a := a) (argsL := argsL) (rest := S) hlen rfl (by show 2 * 0 + _ ≤ _; omega) (hb K.2.2.1 hd) (fun _ _ => ⟨has, eT, hc, hs⟩)
  dsimp only [Pt.U, Pt.locs, Pt.cells, Pt.slots] at X' l1 y1 z1 st hQ
  subst l1 y1 z1
  exact (g v T' _ ⟨_, X', rfl, Fr.app N hQ.2.1, hQ.2.2⟩ hQ.1).go fun t r => st.trans r
theorem o_virtual (K : oCtx p s m meth c Z own cb ml nm rt yy) (X : oSt p l e R s m args below meth c Z T h cells slots) {index : Nat} {y z : MethodName} {C : String} {a : Addr} {bs : ByteArray} {mx : Nat} {rc : Option FieldType} {rm : Room} {as : Array Value} {Qc : Option Value → Heap → Prop} (w1 : (Jvm.Cond.methodLink own index y).before a0 Z = true) (w2 : (Jvm.Cond.declares y).before a0 Z = true) (hnf : NotFace s y) (w3 : (Jvm.Cond.selects C y z).before a0 Z = true) (w4 : (Jvm.Cond.instanceMethod z).before a0 Z = true) (wz : (Jvm.Cond.initialized z.cls).before a0 Z = true) (wc : (Jvm.Cond.code z bs mx rc).before a0 Z = true) (hy : y.cls ≠ "java/lang/invoke/MethodHandle" ∧ y.cls ≠ "java/lang/invoke/VarHandle") (Ex : Exa Z h a C)
    (hM : oMet l Z z bs mx rc rm [] as h Qc) (hf : rm.frames + 1 ≤ R.frames) (hsz : L.size = ml) {argsL : List Value} (has : (Value.ref a :: argsL).toArray = as) (hlen : ∀ sig, parseMethodDescriptor y.desc = some sig → argsL.length = sig.parameters.length) {W : Nat} (hW : (S.map fun v => v.category).sum = W) (hl : W + (mx + 11) + rm.locals ≤ R.locals) (hc : cells + rm.cells ≤ R.cells) (hs : slots + rm.slots ≤ R.slots) (hd : decode cb pc = .ok (.invokevirtual index, 3)) (hp : pc + 3 = pc') (g : ∀ v T' h', oSt p l e R s m args below meth c Z T' h' (cells + rm.cells) (slots + rm.slots) → Qc v h' → oGoes p e below s Z T' (mkF m pc' L (v.toList ++ S)) Q cl sl) : oGoes p e below s Z T (mkF m pc L (argsL.reverse ++ .ref a :: S)) Q cl sl := by
  obtain ⟨locs, X, eT, N, E⟩ := X
  subst hp
  obtain ⟨cq, kq, qa, qb, qc⟩ := isOf K.2.1 eT Ex
  obtain ⟨v, _, ⟨T', L1, k1, n1⟩, -, X', ⟨Lc, hQ, l1, y1, z1⟩, st⟩ := X.virtualBack K.1 (y := y) (z := z) K.2.2.2.2.1 (mvT K.2.1 w1) (mvT K.2.1 w2) hnf (mvT K.2.1 w3) (mvT K.2.1 w4) hy (backOf (W := W) (Q := fun v h L => Qc v h ∧ Fr Z.heap.size L ∧ Ext Z.heap h) (hM E) K.2.1 wc wz hf hl) qa qc (g := mkF m pc L (argsL.reverse ++ .ref a :: S)) rfl (by show L.size = _; rw [K.2.2.2.1]; exact hsz) (Steps.refl _) (argsL := argsL) (rest := S) hlen rfl (by show 2 * 0 + _ ≤ _; omega) (hb K.2.2.1 hd) (fun _ _ => ⟨has, eT, hc, hs⟩)
  dsimp only [Pt.U, Pt.locs, Pt.cells, Pt.slots] at X' l1 y1 z1 st hQ
  subst l1 y1 z1
  exact (g v T' _ ⟨_, X', rfl, Fr.app N hQ.2.1, hQ.2.2⟩ hQ.1).go fun t r => st.trans r
def oArr (Z : State) (h : Heap) (a : Addr) (k : ClassId) (ty : FieldType) (vs : List Value) : Prop := ∃ c : Cell, Arr Z h a c ty ∧ c.cls = k ∧ c.slots = vs.toArray ∧ (∀ v ∈ vs, fits ty v = true) ∧ vs.length < 2 ^ 31
theorem oArr.lt {a : Addr} {k : ClassId} {ty : FieldType} {vs : List Value} (F : oArr Z h a k ty vs) : a < h.size := by obtain ⟨c, A, -⟩ := F; exact A.lt
theorem oArr.ext {h' : Heap} {a : Addr} {k : ClassId} {ty : FieldType} {vs : List Value} (F : oArr Z h a k ty vs) (E : Ext h h') : oArr Z h' a k ty vs := by obtain ⟨c, A, r⟩ := F; exact ⟨c, A.ext E, r⟩
theorem oArr.other {h' : Heap} {a b : Addr} {k : ClassId} {ty : FieldType} {vs : List Value} {sl : Nat} {v : Value} (F : oArr Z h b k ty vs) (W : Wr h h' a sl v) (q : b ≠ a) : oArr Z h' b k ty vs := by obtain ⟨c, A, r⟩ := F; exact ⟨c, A.other W q, r⟩
theorem oArr.keep {h' : Heap} {a : Addr} {k : ClassId} {ty : FieldType} {vs : List Value} {ws : List Addr} (F : oArr Z h a k ty vs) (Kp : Keep h h' ws) (q : a ∉ ws) : oArr Z h' a k ty vs := by obtain ⟨c, A, r⟩ := F; exact ⟨c, ⟨Kp.2.1 a c A.1 q, A.2⟩, r⟩
theorem oArr.set {h' : Heap} {a : Addr} {k : ClassId} {ty : FieldType} {vs : List Value} {j : Nat} {v : Value} (F : oArr Z h a k ty vs) (W : Wr h h' a j v) (hf : fits ty v = true) : oArr Z h' a k ty (vs.set j v) := by
  obtain ⟨c, A, q1, q2, q3, q4⟩ := F
  refine ⟨c.setSlot j v, A.same W, q1, ?_, fun u hu => ?_, by simpa using q4⟩
  · simp [Cell.setSlot, q2, List.setIfInBounds_toArray]
  · rcases List.mem_or_eq_of_mem_set hu with q | rfl
    · exact q3 _ q
    · exact hf
theorem oInb {vs : List Value} {c : Cell} {j : Int32} (q : c.slots = vs.toArray) (hj : ¬ j < 0) (hlt : j.toNatClampNeg < vs.length) : ¬ (j < 0 ∨ c.slots.size ≤ j.toNatClampNeg) := by
  rw [q]; simp only [List.size_toArray]
  rintro (h1 | h1)
  · exact hj h1
  · omega
theorem o_arraylength (K : oCtx p s m meth c Z own cb ml nm rt yy) (X : oSt p l e R s m args below meth c Z T h cells slots) {a : Addr} {k : ClassId} {ty : FieldType} {vs : List Value} {z : Int32} (F : oArr Z h a k ty vs) (hz : vs.length.toInt32 = z) (hd : decode cb pc = .ok (.arraylength, 1)) (hp : pc + 1 = pc') (g : oGoes p e below s Z T (mkF m pc' L (.int z :: S)) Q cl sl) : oGoes p e below s Z T (mkF m pc L (.ref a :: S)) Q cl sl := by
  obtain ⟨locs, X, eT, N, E⟩ := X
  obtain ⟨cc, A, q1, q2, q3, q4⟩ := F
  subst hp
  refine g.go fun t r => X.arraylength K.1 (by rw [eT]; exact A.1) (State.isArrayOf_alike K.2.1.alike A.2.1) (g := mkF m pc L (.ref a :: S)) rfl rfl (hb K.2.2.1 hd) _ ?_
  have e1 : cc.slots.size.toInt32 = z := by rw [q2]; simpa using hz
  rw [e1]; exact r
theorem o_caload (K : oCtx p s m meth c Z own cb ml nm rt yy) (X : oSt p l e R s m args below meth c Z T h cells slots) {a : Addr} {k : ClassId} {vs : List Value} {j : Int32} {v : Value} (F : oArr Z h a k .char vs) (hj : ¬ j < 0) (hv : vs[j.toNatClampNeg]? = some v) (hd : decode cb pc = .ok (.caload, 1)) (hp : pc + 1 = pc') (g : oGoes p e below s Z T (mkF m pc' L (v :: S)) Q cl sl) : oGoes p e below s Z T (mkF m pc L (.int j :: .ref a :: S)) Q cl sl := by
  obtain ⟨locs, X, eT, N, E⟩ := X
  obtain ⟨cc, A, q1, q2, q3, q4⟩ := F
  subst hp
  exact g.go fun t r => X.caload K.1 (by rw [eT]; exact A.1) (State.isArrayOf_alike K.2.1.alike A.2.1) A.2.2 (oInb q2 hj (List.getElem?_eq_some_iff.mp hv).1) (by rw [q2]; simpa using hv) (g := mkF m pc L (.int j :: .ref a :: S)) rfl rfl (hb K.2.2.1 hd) _ r
theorem o_castore (K : oCtx p s m meth c Z own cb ml nm rt yy) (X : oSt p l e R s m args below meth c Z T h cells slots) {a : Addr} {k : ClassId} {vs : List Value} {j : Int32} {x : Int32} {z : Value} (F : oArr Z h a k .char vs) (hj : ¬ j < 0) (hlt : j.toNatClampNeg < vs.length) (hza : Z.heap.size ≤ a) (hz : (.int (nar .char x) : Value) = z) (hd : decode cb pc = .ok (.castore, 1)) (hp : pc + 1 = pc')
    (g : ∀ T' h', oSt p l e R s m args below meth c Z T' h' cells slots → Wr h h' a j.toNatClampNeg z → oArr Z h' a k .char (vs.set j.toNatClampNeg z) → oGoes p e below s Z T' (mkF m pc' L S) Q cl sl) : oGoes p e below s Z T (mkF m pc L (.int x :: .int j :: .ref a :: S)) Q cl sl := by
  obtain ⟨locs, X, eT, N, E⟩ := X
  subst hp hz
  obtain ⟨cc, A, q1, q2, q3, q4⟩ := id F
  obtain ⟨T', h', X', e', W, st⟩ := stC X K.1 K.2.1 eT A (oInb q2 hj hlt) (g := mkF m pc L (.int x :: .int j :: .ref a :: S)) rfl rfl (hb K.2.2.1 hd)
  exact (g T' h' ⟨_, X', e', Fr.snoc X' N hza, oExt_wr E W hza⟩ W (F.set W (fits_nar_char x))).go st
theorem o_bastore (K : oCtx p s m meth c Z own cb ml nm rt yy) (X : oSt p l e R s m args below meth c Z T h cells slots) {a : Addr} {k : ClassId} {vs : List Value} {j : Int32} {x : Int32} {z : Value} (F : oArr Z h a k .byte vs) (hj : ¬ j < 0) (hlt : j.toNatClampNeg < vs.length) (hza : Z.heap.size ≤ a) (hz : (.int (nar .byte x) : Value) = z) (hd : decode cb pc = .ok (.bastore, 1)) (hp : pc + 1 = pc')
    (g : ∀ T' h', oSt p l e R s m args below meth c Z T' h' cells slots → Wr h h' a j.toNatClampNeg z → oArr Z h' a k .byte (vs.set j.toNatClampNeg z) → oGoes p e below s Z T' (mkF m pc' L S) Q cl sl) : oGoes p e below s Z T (mkF m pc L (.int x :: .int j :: .ref a :: S)) Q cl sl := by
  obtain ⟨locs, X, eT, N, E⟩ := X
  subst hp hz
  obtain ⟨cc, A, q1, q2, q3, q4⟩ := id F
  obtain ⟨T', h', X', e', W, st⟩ := stB X K.1 K.2.1 eT A (oInb q2 hj hlt) (g := mkF m pc L (.int x :: .int j :: .ref a :: S)) rfl rfl (hb K.2.2.1 hd)
  exact (g T' h' ⟨_, X', e', Fr.snoc X' N hza, oExt_wr E W hza⟩ W (F.set W (fits_nar_byte x))).go st
theorem oArr_new {b : Addr} {k : ClassId} {ty : FieldType} {n : Int32} {c : Nat} (A : Arr Z h b (newA k ty n) ty) (hn : n.toNatClampNeg = c) (hc : c < 2 ^ 31) (hf : fits ty (defaultValue ty) = true) : oArr Z h b k ty (List.replicate c (defaultValue ty)) :=
  ⟨_, A, rfl, by simp [newA, hn], fun v hv => by rw [(List.mem_replicate.mp hv).2]; exact hf, by simpa using hc⟩
theorem o_newarray (K : oCtx p s m meth c Z own cb ml nm rt yy) (X : oSt p l e R s m args below meth c Z T h cells slots) {aty : ArrayType} {n : Int32} {ad : String} (cn : Nat) (w : (Jvm.Cond.arrayClass (newarray.typeOf aty)).before a0 Z = true) (had : "[" ++ (newarray.typeOf aty).toString = ad) (hn : ¬ n < 0) (hcn : n.toNatClampNeg = cn) (hbb : cn * 8 ≤ 536870912) (hf : fits (newarray.typeOf aty) (defaultValue (newarray.typeOf aty)) = true) (hd : decode cb pc = .ok (.newarray aty, 2)) (hp : pc + 2 = pc') (hc : cells + 1 ≤ R.cells) (hl : slots + cn ≤ R.slots)
    (g : ∀ T' h' b k, oSt p l e R s m args below meth c Z T' h' (cells + 1) (slots + cn) → b = h.size → Ext h h' → oArr Z h' b k (newarray.typeOf aty) (List.replicate cn (defaultValue (newarray.typeOf aty))) → Exa Z h' b ad → Z.heap.size ≤ b → oGoes p e below s Z T' (mkF m pc' L (.ref b :: S)) Q cl sl) : oGoes p e below s Z T (mkF m pc L (.int n :: S)) Q cl sl := by
  obtain ⟨locs, X, eT, N, E⟩ := X
  subst hp
  obtain ⟨T', h', k, X', e', E', A, Ex, st⟩ := newPE X K.1 K.2.1 w eT (g := mkF m pc L (.int n :: S)) rfl (hb K.2.2.1 hd) rfl hn (cap := cn) (Nat.le_of_eq hcn) hbb hc hl had
  exact (g T' h' h.size k ⟨_, X', e', N, oExt_trans E E'⟩ rfl E' (oArr_new A hcn (by omega) hf) Ex E.1).go st
theorem oNarchar {y : Int32} (hy : y.toBitVec.toNat < 65536) : nar .char y = y := by
  apply Int32.toBitVec_inj.mp
  apply BitVec.eq_of_toNat_eq
  have e1 : (nar .char y).toBitVec.toNat = y.toUInt32.toUInt16.toUInt32.toNat := rfl
  have e2 : y.toUInt32.toNat = y.toBitVec.toNat := rfl
  rw [e1, UInt16.toNat_toUInt32, UInt32.toNat_toUInt16, e2]
  exact Nat.mod_eq_of_lt hy
theorem oNarMask (x : Int32) {k : Int32} (hk : k.toBitVec.toNat < 65536) : nar .char (x &&& k) = x &&& k := by
  refine oNarchar ?_
  simp only [Int32.toBitVec_and, BitVec.toNat_and]
  exact Nat.lt_of_le_of_lt Nat.and_le_right hk
theorem oNarIdembyte (x : Int32) : nar .byte (nar .byte x) = nar .byte x := by
  simp [nar]
theorem oFitboolean {x x' : Int32} (q : nar .boolean x = x') : fits .boolean (.int x') = true := q ▸ fits_nar_bool x
theorem oFitbyte {x x' : Int32} (q : nar .byte x = x') : fits .byte (.int x') = true := q ▸ fits_nar_byte x
theorem oFitRef {ty : FieldType} {v : Value} (h1 : ty.isReference = true) (h2 : v.isRef = true) : fits ty v = true := by
  rcases ref_cases h2 with rfl | ⟨a, rfl⟩ <;> cases ty <;> first | rfl | cases h1
theorem oNarRef {ty : FieldType} {v : Value} (h1 : ty.isReference = true) (h2 : v.isRef = true) : narrow ty v = v := by
  rcases ref_cases h2 with rfl | ⟨a, rfl⟩ <;> cases ty <;> rfl
theorem oCat1 {z : Int32} : (Value.int z).category = 1 := rfl
theorem oCat2 {z : Int64} : (Value.long z).category = 2 := rfl
theorem oCat3 {a : Addr} : (Value.ref a).category = 1 := rfl
theorem oCat4 : Value.null.category = 1 := rfl
theorem oCatRef {v : Value} (h2 : v.isRef = true) : v.category = 1 := by
  rcases ref_cases h2 with rfl | ⟨a, rfl⟩ <;> rfl
theorem oEqInt_v {args : Array Value} {f s : State} {o : Option Outcome} {idx : List Nat} {t : Term} {z : Int32} (q : (Jvm.Cond.eq t (Term.int z)).value args f o s idx = some true) : t.eval args f o idx s = some (.int z) := by
  have e2 : (Term.int z).eval args f o idx s = some (.int z) := rfl
  cases ht : t.eval args f o idx s with
  | none => simp [Jvm.Cond.value, ht] at q
  | some x => cases x <;> simp [Jvm.Cond.value, ht, e2] at q ⊢; exact q
theorem oArr_start {args : Array Value} {s : State} {t : Term} {ty : FieldType} {z : Int32} {n : Nat} (hf : Fit s) {a : Addr} (ht : t.eval args s none [] s = some (.ref a)) (hx : (Jvm.Cond.arrayOf t ty).value args s none s [] = some true) (hl : (Jvm.Cond.eq (Term.length t) (Term.int z)).value args s none s [] = some true) (hz : ¬ z < 0) (hn : z.toNatClampNeg = n) : ∃ k vs, oArr s s.heap a k ty vs ∧ vs.length = n := by
  obtain ⟨c, A⟩ := Arr.start ht hx
  have hA := A.fin (U := s) (Vm.Alike.refl _)
  have q := oEqInt_v hl
  have hs : c.slots.size < 2 ^ 31 ∧ c.slots.size.toInt32 = z := by
    by_cases hb : c.slots.size < 2 ^ 31
    · rw [len_f ht hA hb] at q
      exact ⟨hb, by simpa using q⟩
    · simp [Term.eval, ht, hA, hb] at q
  have hlen : c.slots.size = n := by
    have e1 := len_toInt hs.1
    rw [hs.2] at e1
    have e2 : z.toNatClampNeg = z.toInt.toNat := rfl
    omega
  refine ⟨c.cls, c.slots.toList, ⟨c, A, rfl, by simp, fun v hv => ?_, by simpa using hs.1⟩, by simpa using hlen⟩
  obtain ⟨i, hi, rfl⟩ := List.mem_iff_getElem.mp hv
  have hi' : i < c.slots.size := by simpa using hi
  obtain ⟨v', h1, h2⟩ := elem_fit hf A (j := i.toInt32) (idx_in hi' hs.1)
  have e3 : i.toInt32.toNatClampNeg = i := by
    have q1 : i.toInt32.toInt = i := len_toInt (by omega)
    show i.toInt32.toInt.toNat = i
    omega
  rw [e3, Array.getElem?_eq_getElem hi'] at h1
  cases h1
  simpa using h2
theorem oStaRef {args : Array Value} {s : State} {C n d : String} {ty : FieldType} (q : (Jvm.Cond.arrayOf (Term.static C n d) ty).value args s none s [] = some true) (hi : (Jvm.Cond.initializedFor C n d).before args s = true ∨ ((Jvm.Cond.initialized C).before args s = true ∧ (Jvm.Cond.laysStatic C n d).before args s = true)) : ∃ a, (Term.static C n d).eval args s none [] s = some (.ref a) ∧ Sta s s.heap C n d (.ref a) := by
  obtain ⟨a, ha⟩ := arr_v q
  exact ⟨a, ha, Sta.start ha hi⟩
theorem oMask255 (x : Int32) : ¬ (255 : Int32) < (x &&& 255) := by
  rw [Int32.lt_iff_toInt_lt]
  have h1 : (x &&& 255).toBitVec.toNat ≤ 255 := by
    simp only [Int32.toBitVec_and, BitVec.toNat_and]
    exact Nat.and_le_right
  have h2 : (x &&& 255).toInt = (x &&& 255).toBitVec.toNat := BitVec.toInt_eq_toNat_of_lt (by omega)
  have h3 : (255 : Int32).toInt = 255 := by decide
  omega
theorem oNeInt_v {args : Array Value} {s : State} {t : Term} {x z : Int32} (ht : t.eval args s none [] s = some (.int x)) (q : (Jvm.Cond.not (Jvm.Cond.eq t (Term.int z))).value args s none s [] = some true) : ¬ x = z := by
  have r := not_v q
  have e2 : (Term.int z).eval args s none [] s = some (.int z) := rfl
  simpa [Jvm.Cond.value, ht, e2] using r
end Own
def oHw (Z : State) (a0 : Array Value) : Prop := ∀ d ∈ tables_1, d.before a0 Z = true
theorem w0 {Z : State} {a0 : Array Value} (hw : oHw Z a0) : (Jvm.Cond.arrayClass Jvm.ClassFile.FieldType.char).before a0 Z = true := hw _ (List.mem_of_getElem? (i := 0) rfl)
theorem w1 {Z : State} {a0 : Array Value} (hw : oHw Z a0) : (Jvm.Cond.classLink "com/example/rosterlink/rosterlink/api/OperationTakesPinLaw" (7 : Nat) "java/lang/String").before a0 Z = true := hw _ (List.mem_of_getElem? (i := 1) rfl)
theorem w2 {Z : State} {a0 : Array Value} (hw : oHw Z a0) : (Jvm.Cond.instantiable "java/lang/String" (4 : Nat)).before a0 Z = true := hw _ (List.mem_of_getElem? (i := 2) rfl)
theorem w3 {Z : State} {a0 : Array Value} (hw : oHw Z a0) : (Jvm.Cond.initialized "java/lang/String").before a0 Z = true := hw _ (List.mem_of_getElem? (i := 3) rfl)
theorem w4 {Z : State} {a0 : Array Value} (hw : oHw Z a0) : (Jvm.Cond.methodLink "com/example/rosterlink/rosterlink/api/OperationTakesPinLaw" (9 : Nat) ({ cls := "java/lang/String", name := "<init>", desc := "([C)V" } : Jvm.MethodName)).before a0 Z = true := hw _ (List.mem_of_getElem? (i := 4) rfl)
theorem w5 {Z : State} {a0 : Array Value} (hw : oHw Z a0) : (Jvm.Cond.instanceMethod ({ cls := "java/lang/String", name := "<init>", desc := "([C)V" } : Jvm.MethodName)).before a0 Z = true := hw _ (List.mem_of_getElem? (i := 5) rfl)
theorem w6 {Z : State} {a0 : Array Value} (hw : oHw Z a0) : (Jvm.Cond.code ({ cls := "java/lang/String", name := "<init>", desc := "([C)V" } : Jvm.MethodName) jdk_42_method_3_code (2 : Nat) (Option.none : Option Jvm.ClassFile.FieldType)).before a0 Z = true := hw _ (List.mem_of_getElem? (i := 6) rfl)
theorem w7 {Z : State} {a0 : Array Value} (hw : oHw Z a0) : (Jvm.Cond.methodLink "java/lang/String" (27 : Nat) ({ cls := "java/lang/String", name := "<init>", desc := "([CIILjava/lang/Void;)V" } : Jvm.MethodName)).before a0 Z = true := hw _ (List.mem_of_getElem? (i := 7) rfl)
theorem w8 {Z : State} {a0 : Array Value} (hw : oHw Z a0) : (Jvm.Cond.instanceMethod ({ cls := "java/lang/String", name := "<init>", desc := "([CIILjava/lang/Void;)V" } : Jvm.MethodName)).before a0 Z = true := hw _ (List.mem_of_getElem? (i := 8) rfl)
theorem w10 {Z : State} {a0 : Array Value} (hw : oHw Z a0) : (Jvm.Cond.code ({ cls := "java/lang/String", name := "<init>", desc := "([CIILjava/lang/Void;)V" } : Jvm.MethodName) jdk_42_method_149_code (6 : Nat) (Option.none : Option Jvm.ClassFile.FieldType)).before a0 Z = true := hw _ (List.mem_of_getElem? (i := 10) rfl)
theorem w11 {Z : State} {a0 : Array Value} (hw : oHw Z a0) : (Jvm.Cond.methodLink "java/lang/String" (1 : Nat) ({ cls := "java/lang/Object", name := "<init>", desc := "()V" } : Jvm.MethodName)).before a0 Z = true := hw _ (List.mem_of_getElem? (i := 11) rfl)
theorem w12 {Z : State} {a0 : Array Value} (hw : oHw Z a0) : (Jvm.Cond.instanceMethod ({ cls := "java/lang/Object", name := "<init>", desc := "()V" } : Jvm.MethodName)).before a0 Z = true := hw _ (List.mem_of_getElem? (i := 12) rfl)
theorem w13 {Z : State} {a0 : Array Value} (hw : oHw Z a0) : (Jvm.Cond.code ({ cls := "java/lang/Object", name := "<init>", desc := "()V" } : Jvm.MethodName) object_method_1_code (1 : Nat) (Option.none : Option Jvm.ClassFile.FieldType)).before a0 Z = true := hw _ (List.mem_of_getElem? (i := 13) rfl)
theorem w14 {Z : State} {a0 : Array Value} (hw : oHw Z a0) : (Jvm.Cond.fieldLink "java/lang/String" (38 : Nat) "java/lang/String" "COMPACT_STRINGS" "Z").before a0 Z = true := hw _ (List.mem_of_getElem? (i := 14) rfl)
theorem w15 {Z : State} {a0 : Array Value} (hw : oHw Z a0) : (Jvm.Cond.methodLink "java/lang/String" (177 : Nat) ({ cls := "java/lang/StringUTF16", name := "compress", desc := "([CII)[B" } : Jvm.MethodName)).before a0 Z = true := hw _ (List.mem_of_getElem? (i := 15) rfl)
theorem w16 {Z : State} {a0 : Array Value} (hw : oHw Z a0) : (Jvm.Cond.static ({ cls := "java/lang/StringUTF16", name := "compress", desc := "([CII)[B" } : Jvm.MethodName)).before a0 Z = true := hw _ (List.mem_of_getElem? (i := 16) rfl)
theorem w17 {Z : State} {a0 : Array Value} (hw : oHw Z a0) : (Jvm.Cond.initialized "java/lang/StringUTF16").before a0 Z = true := hw _ (List.mem_of_getElem? (i := 17) rfl)
theorem w18 {Z : State} {a0 : Array Value} (hw : oHw Z a0) : (Jvm.Cond.code ({ cls := "java/lang/StringUTF16", name := "compress", desc := "([CII)[B" } : Jvm.MethodName) jdk_52_method_16_code (6 : Nat) (Option.some (Jvm.ClassFile.FieldType.array Jvm.ClassFile.FieldType.byte))).before a0 Z = true := hw _ (List.mem_of_getElem? (i := 18) rfl)
theorem w19 {Z : State} {a0 : Array Value} (hw : oHw Z a0) : (Jvm.Cond.arrayClass Jvm.ClassFile.FieldType.byte).before a0 Z = true := hw _ (List.mem_of_getElem? (i := 19) rfl)
theorem w20 {Z : State} {a0 : Array Value} (hw : oHw Z a0) : (Jvm.Cond.methodLink "java/lang/StringUTF16" (115 : Nat) ({ cls := "java/lang/StringUTF16", name := "compress", desc := "([CI[BII)I" } : Jvm.MethodName)).before a0 Z = true := hw _ (List.mem_of_getElem? (i := 20) rfl)
theorem w21 {Z : State} {a0 : Array Value} (hw : oHw Z a0) : (Jvm.Cond.static ({ cls := "java/lang/StringUTF16", name := "compress", desc := "([CI[BII)I" } : Jvm.MethodName)).before a0 Z = true := hw _ (List.mem_of_getElem? (i := 21) rfl)
theorem w22 {Z : State} {a0 : Array Value} (hw : oHw Z a0) : (Jvm.Cond.code ({ cls := "java/lang/StringUTF16", name := "compress", desc := "([CI[BII)I" } : Jvm.MethodName) jdk_52_method_21_code (7 : Nat) (Option.some Jvm.ClassFile.FieldType.int)).before a0 Z = true := hw _ (List.mem_of_getElem? (i := 22) rfl)
theorem w23 {Z : State} {a0 : Array Value} (hw : oHw Z a0) : (Jvm.Cond.methodLink "java/lang/String" (47 : Nat) ({ cls := "java/lang/StringUTF16", name := "coderFromArrayLen", desc := "([BI)B" } : Jvm.MethodName)).before a0 Z = true := hw _ (List.mem_of_getElem? (i := 23) rfl)
theorem w24 {Z : State} {a0 : Array Value} (hw : oHw Z a0) : (Jvm.Cond.static ({ cls := "java/lang/StringUTF16", name := "coderFromArrayLen", desc := "([BI)B" } : Jvm.MethodName)).before a0 Z = true := hw _ (List.mem_of_getElem? (i := 24) rfl)
theorem w25 {Z : State} {a0 : Array Value} (hw : oHw Z a0) : (Jvm.Cond.code ({ cls := "java/lang/StringUTF16", name := "coderFromArrayLen", desc := "([BI)B" } : Jvm.MethodName) jdk_52_method_15_code (2 : Nat) (Option.some Jvm.ClassFile.FieldType.byte)).before a0 Z = true := hw _ (List.mem_of_getElem? (i := 25) rfl)
theorem w26 {Z : State} {a0 : Array Value} (hw : oHw Z a0) : (Jvm.Cond.fieldLink "java/lang/String" (15 : Nat) "java/lang/String" "coder" "B").before a0 Z = true := hw _ (List.mem_of_getElem? (i := 26) rfl)
theorem w27 {Z : State} {a0 : Array Value} (hw : oHw Z a0) : (Jvm.Cond.laysFinal "java/lang/String" "java/lang/String" "coder" "B").before a0 Z = true := hw _ (List.mem_of_getElem? (i := 27) rfl)
theorem w28 {Z : State} {a0 : Array Value} (hw : oHw Z a0) : (Jvm.Cond.fieldLink "java/lang/String" (9 : Nat) "java/lang/String" "value" "[B").before a0 Z = true := hw _ (List.mem_of_getElem? (i := 28) rfl)
theorem w29 {Z : State} {a0 : Array Value} (hw : oHw Z a0) : (Jvm.Cond.laysFinal "java/lang/String" "java/lang/String" "value" "[B").before a0 Z = true := hw _ (List.mem_of_getElem? (i := 29) rfl)
theorem w30 {Z : State} {a0 : Array Value} (hw : oHw Z a0) : (Jvm.Cond.methodLink "com/example/rosterlink/rosterlink/api/OperationTakesPinLaw" (12 : Nat) ({ cls := "java/lang/String", name := "valueOf", desc := "(C)Ljava/lang/String;" } : Jvm.MethodName)).before a0 Z = true := hw _ (List.mem_of_getElem? (i := 30) rfl)
theorem w31 {Z : State} {a0 : Array Value} (hw : oHw Z a0) : (Jvm.Cond.static ({ cls := "java/lang/String", name := "valueOf", desc := "(C)Ljava/lang/String;" } : Jvm.MethodName)).before a0 Z = true := hw _ (List.mem_of_getElem? (i := 31) rfl)
theorem w32 {Z : State} {a0 : Array Value} (hw : oHw Z a0) : (Jvm.Cond.code ({ cls := "java/lang/String", name := "valueOf", desc := "(C)Ljava/lang/String;" } : Jvm.MethodName) jdk_42_method_139_code (1 : Nat) (Option.some (Jvm.ClassFile.FieldType.object "java/lang/String"))).before a0 Z = true := hw _ (List.mem_of_getElem? (i := 32) rfl)
theorem w33 {Z : State} {a0 : Array Value} (hw : oHw Z a0) : (Jvm.Cond.methodLink "java/lang/String" (1015 : Nat) ({ cls := "java/lang/StringLatin1", name := "canEncode", desc := "(C)Z" } : Jvm.MethodName)).before a0 Z = true := hw _ (List.mem_of_getElem? (i := 33) rfl)
theorem w34 {Z : State} {a0 : Array Value} (hw : oHw Z a0) : (Jvm.Cond.static ({ cls := "java/lang/StringLatin1", name := "canEncode", desc := "(C)Z" } : Jvm.MethodName)).before a0 Z = true := hw _ (List.mem_of_getElem? (i := 34) rfl)
theorem w35 {Z : State} {a0 : Array Value} (hw : oHw Z a0) : (Jvm.Cond.initialized "java/lang/StringLatin1").before a0 Z = true := hw _ (List.mem_of_getElem? (i := 35) rfl)
theorem w36 {Z : State} {a0 : Array Value} (hw : oHw Z a0) : (Jvm.Cond.code ({ cls := "java/lang/StringLatin1", name := "canEncode", desc := "(C)Z" } : Jvm.MethodName) jdk_43_method_3_code (1 : Nat) (Option.some Jvm.ClassFile.FieldType.boolean)).before a0 Z = true := hw _ (List.mem_of_getElem? (i := 36) rfl)
theorem w37 {Z : State} {a0 : Array Value} (hw : oHw Z a0) : (Jvm.Cond.classLink "java/lang/String" (10 : Nat) "java/lang/String").before a0 Z = true := hw _ (List.mem_of_getElem? (i := 37) rfl)
theorem w38 {Z : State} {a0 : Array Value} (hw : oHw Z a0) : (Jvm.Cond.methodLink "java/lang/String" (1018 : Nat) ({ cls := "java/lang/StringLatin1", name := "toBytes", desc := "(C)[B" } : Jvm.MethodName)).before a0 Z = true := hw _ (List.mem_of_getElem? (i := 38) rfl)
theorem w39 {Z : State} {a0 : Array Value} (hw : oHw Z a0) : (Jvm.Cond.static ({ cls := "java/lang/StringLatin1", name := "toBytes", desc := "(C)[B" } : Jvm.MethodName)).before a0 Z = true := hw _ (List.mem_of_getElem? (i := 39) rfl)
theorem w40 {Z : State} {a0 : Array Value} (hw : oHw Z a0) : (Jvm.Cond.code ({ cls := "java/lang/StringLatin1", name := "toBytes", desc := "(C)[B" } : Jvm.MethodName) jdk_43_method_46_code (1 : Nat) (Option.some (Jvm.ClassFile.FieldType.array Jvm.ClassFile.FieldType.byte))).before a0 Z = true := hw _ (List.mem_of_getElem? (i := 40) rfl)
theorem w41 {Z : State} {a0 : Array Value} (hw : oHw Z a0) : (Jvm.Cond.methodLink "java/lang/String" (209 : Nat) ({ cls := "java/lang/String", name := "<init>", desc := "([BB)V" } : Jvm.MethodName)).before a0 Z = true := hw _ (List.mem_of_getElem? (i := 41) rfl)
theorem w42 {Z : State} {a0 : Array Value} (hw : oHw Z a0) : (Jvm.Cond.instanceMethod ({ cls := "java/lang/String", name := "<init>", desc := "([BB)V" } : Jvm.MethodName)).before a0 Z = true := hw _ (List.mem_of_getElem? (i := 42) rfl)
theorem w43 {Z : State} {a0 : Array Value} (hw : oHw Z a0) : (Jvm.Cond.code ({ cls := "java/lang/String", name := "<init>", desc := "([BB)V" } : Jvm.MethodName) jdk_42_method_151_code (3 : Nat) (Option.none : Option Jvm.ClassFile.FieldType)).before a0 Z = true := hw _ (List.mem_of_getElem? (i := 43) rfl)
theorem w44 {Z : State} {a0 : Array Value} (hw : oHw Z a0) : (Jvm.Cond.classLink "com/example/rosterlink/rosterlink/api/OperationTakesPinLaw" (16 : Nat) "com/example/rosterlink/rosterlink/api/Schema").before a0 Z = true := hw _ (List.mem_of_getElem? (i := 44) rfl)
theorem w45 {Z : State} {a0 : Array Value} (hw : oHw Z a0) : (Jvm.Cond.instantiable "com/example/rosterlink/rosterlink/api/Schema" (2 : Nat)).before a0 Z = true := hw _ (List.mem_of_getElem? (i := 45) rfl)
theorem w46 {Z : State} {a0 : Array Value} (hw : oHw Z a0) : (Jvm.Cond.initialized "com/example/rosterlink/rosterlink/api/Schema").before a0 Z = true := hw _ (List.mem_of_getElem? (i := 46) rfl)
theorem w47 {Z : State} {a0 : Array Value} (hw : oHw Z a0) : (Jvm.Cond.methodLink "com/example/rosterlink/rosterlink/api/OperationTakesPinLaw" (18 : Nat) ({ cls := "com/example/rosterlink/rosterlink/api/Schema", name := "<init>", desc := "(Ljava/lang/String;Ljava/util/Map;)V" } : Jvm.MethodName)).before a0 Z = true := hw _ (List.mem_of_getElem? (i := 47) rfl)
theorem w48 {Z : State} {a0 : Array Value} (hw : oHw Z a0) : (Jvm.Cond.instanceMethod ({ cls := "com/example/rosterlink/rosterlink/api/Schema", name := "<init>", desc := "(Ljava/lang/String;Ljava/util/Map;)V" } : Jvm.MethodName)).before a0 Z = true := hw _ (List.mem_of_getElem? (i := 48) rfl)
theorem w49 {Z : State} {a0 : Array Value} (hw : oHw Z a0) : (Jvm.Cond.code ({ cls := "com/example/rosterlink/rosterlink/api/Schema", name := "<init>", desc := "(Ljava/lang/String;Ljava/util/Map;)V" } : Jvm.MethodName) prog_8_method_1_code (3 : Nat) (Option.none : Option Jvm.ClassFile.FieldType)).before a0 Z = true := hw _ (List.mem_of_getElem? (i := 49) rfl)
theorem w50 {Z : State} {a0 : Array Value} (hw : oHw Z a0) : (Jvm.Cond.methodLink "com/example/rosterlink/rosterlink/api/Schema" (1 : Nat) ({ cls := "java/lang/Record", name := "<init>", desc := "()V" } : Jvm.MethodName)).before a0 Z = true := hw _ (List.mem_of_getElem? (i := 50) rfl)
theorem w51 {Z : State} {a0 : Array Value} (hw : oHw Z a0) : (Jvm.Cond.instanceMethod ({ cls := "java/lang/Record", name := "<init>", desc := "()V" } : Jvm.MethodName)).before a0 Z = true := hw _ (List.mem_of_getElem? (i := 51) rfl)
theorem w53 {Z : State} {a0 : Array Value} (hw : oHw Z a0) : (Jvm.Cond.initialized "java/lang/Record").before a0 Z = true := hw _ (List.mem_of_getElem? (i := 53) rfl)
theorem w54 {Z : State} {a0 : Array Value} (hw : oHw Z a0) : (Jvm.Cond.code ({ cls := "java/lang/Record", name := "<init>", desc := "()V" } : Jvm.MethodName) jdk_30_method_1_code (1 : Nat) (Option.none : Option Jvm.ClassFile.FieldType)).before a0 Z = true := hw _ (List.mem_of_getElem? (i := 54) rfl)
theorem w55 {Z : State} {a0 : Array Value} (hw : oHw Z a0) : (Jvm.Cond.methodLink "java/lang/Record" (1 : Nat) ({ cls := "java/lang/Object", name := "<init>", desc := "()V" } : Jvm.MethodName)).before a0 Z = true := hw _ (List.mem_of_getElem? (i := 55) rfl)
theorem w56 {Z : State} {a0 : Array Value} (hw : oHw Z a0) : (Jvm.Cond.fieldLink "com/example/rosterlink/rosterlink/api/Schema" (7 : Nat) "com/example/rosterlink/rosterlink/api/Schema" "name" "Ljava/lang/String;").before a0 Z = true := hw _ (List.mem_of_getElem? (i := 56) rfl)
theorem w57 {Z : State} {a0 : Array Value} (hw : oHw Z a0) : (Jvm.Cond.laysFinal "com/example/rosterlink/rosterlink/api/Schema" "com/example/rosterlink/rosterlink/api/Schema" "name" "Ljava/lang/String;").before a0 Z = true := hw _ (List.mem_of_getElem? (i := 57) rfl)
theorem w58 {Z : State} {a0 : Array Value} (hw : oHw Z a0) : (Jvm.Cond.fieldLink "com/example/rosterlink/rosterlink/api/Schema" (13 : Nat) "com/example/rosterlink/rosterlink/api/Schema" "definition" "Ljava/util/Map;").before a0 Z = true := hw _ (List.mem_of_getElem? (i := 58) rfl)
theorem w59 {Z : State} {a0 : Array Value} (hw : oHw Z a0) : (Jvm.Cond.laysFinal "com/example/rosterlink/rosterlink/api/Schema" "com/example/rosterlink/rosterlink/api/Schema" "definition" "Ljava/util/Map;").before a0 Z = true := hw _ (List.mem_of_getElem? (i := 59) rfl)
theorem w60 {Z : State} {a0 : Array Value} (hw : oHw Z a0) : (Jvm.Cond.classLink "com/example/rosterlink/rosterlink/api/OperationTakesPinLaw" (24 : Nat) "com/example/rosterlink/rosterlink/api/Operation").before a0 Z = true := hw _ (List.mem_of_getElem? (i := 60) rfl)
theorem w61 {Z : State} {a0 : Array Value} (hw : oHw Z a0) : (Jvm.Cond.instantiable "com/example/rosterlink/rosterlink/api/Operation" (6 : Nat)).before a0 Z = true := hw _ (List.mem_of_getElem? (i := 61) rfl)
theorem w62 {Z : State} {a0 : Array Value} (hw : oHw Z a0) : (Jvm.Cond.initialized "com/example/rosterlink/rosterlink/api/Operation").before a0 Z = true := hw _ (List.mem_of_getElem? (i := 62) rfl)
theorem w63 {Z : State} {a0 : Array Value} (hw : oHw Z a0) : (Jvm.Cond.methodLink "com/example/rosterlink/rosterlink/api/OperationTakesPinLaw" (26 : Nat) ({ cls := "com/example/rosterlink/rosterlink/api/Operation", name := "<init>", desc := "(Ljava/lang/String;Ljava/lang/String;ZLcom/example/rosterlink/rosterlink/api/Schema;Lcom/example/rosterlink/rosterlink/api/Schema;Ljava/util/List;)V" } : Jvm.MethodName)).before a0 Z = true := hw _ (List.mem_of_getElem? (i := 63) rfl)
theorem w64 {Z : State} {a0 : Array Value} (hw : oHw Z a0) : (Jvm.Cond.instanceMethod ({ cls := "com/example/rosterlink/rosterlink/api/Operation", name := "<init>", desc := "(Ljava/lang/String;Ljava/lang/String;ZLcom/example/rosterlink/rosterlink/api/Schema;Lcom/example/rosterlink/rosterlink/api/Schema;Ljava/util/List;)V" } : Jvm.MethodName)).before a0 Z = true := hw _ (List.mem_of_getElem? (i := 64) rfl)
theorem w65 {Z : State} {a0 : Array Value} (hw : oHw Z a0) : (Jvm.Cond.code ({ cls := "com/example/rosterlink/rosterlink/api/Operation", name := "<init>", desc := "(Ljava/lang/String;Ljava/lang/String;ZLcom/example/rosterlink/rosterlink/api/Schema;Lcom/example/rosterlink/rosterlink/api/Schema;Ljava/util/List;)V" } : Jvm.MethodName) prog_5_method_1_code (7 : Nat) (Option.none : Option Jvm.ClassFile.FieldType)).before a0 Z = true := hw _ (List.mem_of_getElem? (i := 65) rfl)
theorem w66 {Z : State} {a0 : Array Value} (hw : oHw Z a0) : (Jvm.Cond.methodLink "com/example/rosterlink/rosterlink/api/Operation" (1 : Nat) ({ cls := "java/lang/Record", name := "<init>", desc := "()V" } : Jvm.MethodName)).before a0 Z = true := hw _ (List.mem_of_getElem? (i := 66) rfl)
theorem w67 {Z : State} {a0 : Array Value} (hw : oHw Z a0) : (Jvm.Cond.fieldLink "com/example/rosterlink/rosterlink/api/Operation" (7 : Nat) "com/example/rosterlink/rosterlink/api/Operation" "id" "Ljava/lang/String;").before a0 Z = true := hw _ (List.mem_of_getElem? (i := 67) rfl)
theorem w68 {Z : State} {a0 : Array Value} (hw : oHw Z a0) : (Jvm.Cond.laysFinal "com/example/rosterlink/rosterlink/api/Operation" "com/example/rosterlink/rosterlink/api/Operation" "id" "Ljava/lang/String;").before a0 Z = true := hw _ (List.mem_of_getElem? (i := 68) rfl)
theorem w69 {Z : State} {a0 : Array Value} (hw : oHw Z a0) : (Jvm.Cond.fieldLink "com/example/rosterlink/rosterlink/api/Operation" (13 : Nat) "com/example/rosterlink/rosterlink/api/Operation" "summary" "Ljava/lang/String;").before a0 Z = true := hw _ (List.mem_of_getElem? (i := 69) rfl)
theorem w70 {Z : State} {a0 : Array Value} (hw : oHw Z a0) : (Jvm.Cond.laysFinal "com/example/rosterlink/rosterlink/api/Operation" "com/example/rosterlink/rosterlink/api/Operation" "summary" "Ljava/lang/String;").before a0 Z = true := hw _ (List.mem_of_getElem? (i := 70) rfl)
theorem w71 {Z : State} {a0 : Array Value} (hw : oHw Z a0) : (Jvm.Cond.fieldLink "com/example/rosterlink/rosterlink/api/Operation" (16 : Nat) "com/example/rosterlink/rosterlink/api/Operation" "keyed" "Z").before a0 Z = true := hw _ (List.mem_of_getElem? (i := 71) rfl)
theorem w72 {Z : State} {a0 : Array Value} (hw : oHw Z a0) : (Jvm.Cond.laysFinal "com/example/rosterlink/rosterlink/api/Operation" "com/example/rosterlink/rosterlink/api/Operation" "keyed" "Z").before a0 Z = true := hw _ (List.mem_of_getElem? (i := 72) rfl)
theorem w73 {Z : State} {a0 : Array Value} (hw : oHw Z a0) : (Jvm.Cond.fieldLink "com/example/rosterlink/rosterlink/api/Operation" (20 : Nat) "com/example/rosterlink/rosterlink/api/Operation" "body" "Lcom/example/rosterlink/rosterlink/api/Schema;").before a0 Z = true := hw _ (List.mem_of_getElem? (i := 73) rfl)
theorem w74 {Z : State} {a0 : Array Value} (hw : oHw Z a0) : (Jvm.Cond.laysFinal "com/example/rosterlink/rosterlink/api/Operation" "com/example/rosterlink/rosterlink/api/Operation" "body" "Lcom/example/rosterlink/rosterlink/api/Schema;").before a0 Z = true := hw _ (List.mem_of_getElem? (i := 74) rfl)
theorem w75 {Z : State} {a0 : Array Value} (hw : oHw Z a0) : (Jvm.Cond.fieldLink "com/example/rosterlink/rosterlink/api/Operation" (24 : Nat) "com/example/rosterlink/rosterlink/api/Operation" "answer" "Lcom/example/rosterlink/rosterlink/api/Schema;").before a0 Z = true := hw _ (List.mem_of_getElem? (i := 75) rfl)
theorem w76 {Z : State} {a0 : Array Value} (hw : oHw Z a0) : (Jvm.Cond.laysFinal "com/example/rosterlink/rosterlink/api/Operation" "com/example/rosterlink/rosterlink/api/Operation" "answer" "Lcom/example/rosterlink/rosterlink/api/Schema;").before a0 Z = true := hw _ (List.mem_of_getElem? (i := 76) rfl)
theorem w77 {Z : State} {a0 : Array Value} (hw : oHw Z a0) : (Jvm.Cond.fieldLink "com/example/rosterlink/rosterlink/api/Operation" (27 : Nat) "com/example/rosterlink/rosterlink/api/Operation" "query" "Ljava/util/List;").before a0 Z = true := hw _ (List.mem_of_getElem? (i := 77) rfl)
theorem w78 {Z : State} {a0 : Array Value} (hw : oHw Z a0) : (Jvm.Cond.laysFinal "com/example/rosterlink/rosterlink/api/Operation" "com/example/rosterlink/rosterlink/api/Operation" "query" "Ljava/util/List;").before a0 Z = true := hw _ (List.mem_of_getElem? (i := 78) rfl)
theorem w79 {Z : State} {a0 : Array Value} (hw : oHw Z a0) : (Jvm.Cond.methodLink "com/example/rosterlink/rosterlink/api/OperationTakesPinLaw" (29 : Nat) ({ cls := "com/example/rosterlink/rosterlink/api/Operation", name := "takes", desc := "(Lcom/example/rosterlink/rosterlink/api/Schema;)Lcom/example/rosterlink/rosterlink/api/Operation;" } : Jvm.MethodName)).before a0 Z = true := hw _ (List.mem_of_getElem? (i := 79) rfl)
theorem w80 {Z : State} {a0 : Array Value} (hw : oHw Z a0) : (Jvm.Cond.declares ({ cls := "com/example/rosterlink/rosterlink/api/Operation", name := "takes", desc := "(Lcom/example/rosterlink/rosterlink/api/Schema;)Lcom/example/rosterlink/rosterlink/api/Operation;" } : Jvm.MethodName)).before a0 Z = true := hw _ (List.mem_of_getElem? (i := 80) rfl)
theorem w81 {Z : State} {a0 : Array Value} (hw : oHw Z a0) : (Jvm.Cond.instanceMethod ({ cls := "com/example/rosterlink/rosterlink/api/Operation", name := "takes", desc := "(Lcom/example/rosterlink/rosterlink/api/Schema;)Lcom/example/rosterlink/rosterlink/api/Operation;" } : Jvm.MethodName)).before a0 Z = true := hw _ (List.mem_of_getElem? (i := 81) rfl)
theorem w82 {Z : State} {a0 : Array Value} (hw : oHw Z a0) : (Jvm.Cond.selects "com/example/rosterlink/rosterlink/api/Operation" ({ cls := "com/example/rosterlink/rosterlink/api/Operation", name := "takes", desc := "(Lcom/example/rosterlink/rosterlink/api/Schema;)Lcom/example/rosterlink/rosterlink/api/Operation;" } : Jvm.MethodName) ({ cls := "com/example/rosterlink/rosterlink/api/Operation", name := "takes", desc := "(Lcom/example/rosterlink/rosterlink/api/Schema;)Lcom/example/rosterlink/rosterlink/api/Operation;" } : Jvm.MethodName)).before a0 Z = true := hw _ (List.mem_of_getElem? (i := 82) rfl)
theorem w83 {Z : State} {a0 : Array Value} (hw : oHw Z a0) : (Jvm.Cond.code ({ cls := "com/example/rosterlink/rosterlink/api/Operation", name := "takes", desc := "(Lcom/example/rosterlink/rosterlink/api/Schema;)Lcom/example/rosterlink/rosterlink/api/Operation;" } : Jvm.MethodName) prog_5_method_3_code (2 : Nat) (Option.some (Jvm.ClassFile.FieldType.object "com/example/rosterlink/rosterlink/api/Operation"))).before a0 Z = true := hw _ (List.mem_of_getElem? (i := 83) rfl)
theorem w84 {Z : State} {a0 : Array Value} (hw : oHw Z a0) : (Jvm.Cond.classLink "com/example/rosterlink/rosterlink/api/Operation" (8 : Nat) "com/example/rosterlink/rosterlink/api/Operation").before a0 Z = true := hw _ (List.mem_of_getElem? (i := 84) rfl)
theorem w85 {Z : State} {a0 : Array Value} (hw : oHw Z a0) : (Jvm.Cond.methodLink "com/example/rosterlink/rosterlink/api/Operation" (37 : Nat) ({ cls := "com/example/rosterlink/rosterlink/api/Operation", name := "<init>", desc := "(Ljava/lang/String;Ljava/lang/String;ZLcom/example/rosterlink/rosterlink/api/Schema;Lcom/example/rosterlink/rosterlink/api/Schema;Ljava/util/List;)V" } : Jvm.MethodName)).before a0 Z = true := hw _ (List.mem_of_getElem? (i := 85) rfl)
theorem w86 {Z : State} {a0 : Array Value} (hw : oHw Z a0) : (Jvm.Cond.methodLink "com/example/rosterlink/rosterlink/api/OperationTakesPinLaw" (33 : Nat) ({ cls := "com/example/rosterlink/rosterlink/api/Operation", name := "id", desc := "()Ljava/lang/String;" } : Jvm.MethodName)).before a0 Z = true := hw _ (List.mem_of_getElem? (i := 86) rfl)
theorem w87 {Z : State} {a0 : Array Value} (hw : oHw Z a0) : (Jvm.Cond.declares ({ cls := "com/example/rosterlink/rosterlink/api/Operation", name := "id", desc := "()Ljava/lang/String;" } : Jvm.MethodName)).before a0 Z = true := hw _ (List.mem_of_getElem? (i := 87) rfl)
theorem w88 {Z : State} {a0 : Array Value} (hw : oHw Z a0) : (Jvm.Cond.instanceMethod ({ cls := "com/example/rosterlink/rosterlink/api/Operation", name := "id", desc := "()Ljava/lang/String;" } : Jvm.MethodName)).before a0 Z = true := hw _ (List.mem_of_getElem? (i := 88) rfl)
theorem w89 {Z : State} {a0 : Array Value} (hw : oHw Z a0) : (Jvm.Cond.selects "com/example/rosterlink/rosterlink/api/Operation" ({ cls := "com/example/rosterlink/rosterlink/api/Operation", name := "id", desc := "()Ljava/lang/String;" } : Jvm.MethodName) ({ cls := "com/example/rosterlink/rosterlink/api/Operation", name := "id", desc := "()Ljava/lang/String;" } : Jvm.MethodName)).before a0 Z = true := hw _ (List.mem_of_getElem? (i := 89) rfl)
theorem w90 {Z : State} {a0 : Array Value} (hw : oHw Z a0) : (Jvm.Cond.code ({ cls := "com/example/rosterlink/rosterlink/api/Operation", name := "id", desc := "()Ljava/lang/String;" } : Jvm.MethodName) prog_5_method_9_code (1 : Nat) (Option.some (Jvm.ClassFile.FieldType.object "java/lang/String"))).before a0 Z = true := hw _ (List.mem_of_getElem? (i := 90) rfl)
theorem w91 {Z : State} {a0 : Array Value} (hw : oHw Z a0) : (Jvm.Cond.methodLink "com/example/rosterlink/rosterlink/api/OperationTakesPinLaw" (37 : Nat) ({ cls := "com/example/rosterlink/rosterlink/api/Operation", name := "summary", desc := "()Ljava/lang/String;" } : Jvm.MethodName)).before a0 Z = true := hw _ (List.mem_of_getElem? (i := 91) rfl)
theorem w92 {Z : State} {a0 : Array Value} (hw : oHw Z a0) : (Jvm.Cond.declares ({ cls := "com/example/rosterlink/rosterlink/api/Operation", name := "summary", desc := "()Ljava/lang/String;" } : Jvm.MethodName)).before a0 Z = true := hw _ (List.mem_of_getElem? (i := 92) rfl)
theorem w93 {Z : State} {a0 : Array Value} (hw : oHw Z a0) : (Jvm.Cond.instanceMethod ({ cls := "com/example/rosterlink/rosterlink/api/Operation", name := "summary", desc := "()Ljava/lang/String;" } : Jvm.MethodName)).before a0 Z = true := hw _ (List.mem_of_getElem? (i := 93) rfl)
theorem w94 {Z : State} {a0 : Array Value} (hw : oHw Z a0) : (Jvm.Cond.selects "com/example/rosterlink/rosterlink/api/Operation" ({ cls := "com/example/rosterlink/rosterlink/api/Operation", name := "summary", desc := "()Ljava/lang/String;" } : Jvm.MethodName) ({ cls := "com/example/rosterlink/rosterlink/api/Operation", name := "summary", desc := "()Ljava/lang/String;" } : Jvm.MethodName)).before a0 Z = true := hw _ (List.mem_of_getElem? (i := 94) rfl)
theorem w95 {Z : State} {a0 : Array Value} (hw : oHw Z a0) : (Jvm.Cond.code ({ cls := "com/example/rosterlink/rosterlink/api/Operation", name := "summary", desc := "()Ljava/lang/String;" } : Jvm.MethodName) prog_5_method_10_code (1 : Nat) (Option.some (Jvm.ClassFile.FieldType.object "java/lang/String"))).before a0 Z = true := hw _ (List.mem_of_getElem? (i := 95) rfl)
theorem w96 {Z : State} {a0 : Array Value} (hw : oHw Z a0) : (Jvm.Cond.methodLink "com/example/rosterlink/rosterlink/api/OperationTakesPinLaw" (40 : Nat) ({ cls := "com/example/rosterlink/rosterlink/api/Operation", name := "keyed", desc := "()Z" } : Jvm.MethodName)).before a0 Z = true := hw _ (List.mem_of_getElem? (i := 96) rfl)
theorem w97 {Z : State} {a0 : Array Value} (hw : oHw Z a0) : (Jvm.Cond.declares ({ cls := "com/example/rosterlink/rosterlink/api/Operation", name := "keyed", desc := "()Z" } : Jvm.MethodName)).before a0 Z = true := hw _ (List.mem_of_getElem? (i := 97) rfl)
theorem w98 {Z : State} {a0 : Array Value} (hw : oHw Z a0) : (Jvm.Cond.instanceMethod ({ cls := "com/example/rosterlink/rosterlink/api/Operation", name := "keyed", desc := "()Z" } : Jvm.MethodName)).before a0 Z = true := hw _ (List.mem_of_getElem? (i := 98) rfl)
theorem w99 {Z : State} {a0 : Array Value} (hw : oHw Z a0) : (Jvm.Cond.selects "com/example/rosterlink/rosterlink/api/Operation" ({ cls := "com/example/rosterlink/rosterlink/api/Operation", name := "keyed", desc := "()Z" } : Jvm.MethodName) ({ cls := "com/example/rosterlink/rosterlink/api/Operation", name := "keyed", desc := "()Z" } : Jvm.MethodName)).before a0 Z = true := hw _ (List.mem_of_getElem? (i := 99) rfl)
theorem w100 {Z : State} {a0 : Array Value} (hw : oHw Z a0) : (Jvm.Cond.code ({ cls := "com/example/rosterlink/rosterlink/api/Operation", name := "keyed", desc := "()Z" } : Jvm.MethodName) prog_5_method_11_code (1 : Nat) (Option.some Jvm.ClassFile.FieldType.boolean)).before a0 Z = true := hw _ (List.mem_of_getElem? (i := 100) rfl)
theorem w101 {Z : State} {a0 : Array Value} (hw : oHw Z a0) : (Jvm.Cond.methodLink "com/example/rosterlink/rosterlink/api/OperationTakesPinLaw" (44 : Nat) ({ cls := "com/example/rosterlink/rosterlink/api/Operation", name := "body", desc := "()Lcom/example/rosterlink/rosterlink/api/Schema;" } : Jvm.MethodName)).before a0 Z = true := hw _ (List.mem_of_getElem? (i := 101) rfl)
theorem w102 {Z : State} {a0 : Array Value} (hw : oHw Z a0) : (Jvm.Cond.declares ({ cls := "com/example/rosterlink/rosterlink/api/Operation", name := "body", desc := "()Lcom/example/rosterlink/rosterlink/api/Schema;" } : Jvm.MethodName)).before a0 Z = true := hw _ (List.mem_of_getElem? (i := 102) rfl)
theorem w103 {Z : State} {a0 : Array Value} (hw : oHw Z a0) : (Jvm.Cond.instanceMethod ({ cls := "com/example/rosterlink/rosterlink/api/Operation", name := "body", desc := "()Lcom/example/rosterlink/rosterlink/api/Schema;" } : Jvm.MethodName)).before a0 Z = true := hw _ (List.mem_of_getElem? (i := 103) rfl)
theorem w104 {Z : State} {a0 : Array Value} (hw : oHw Z a0) : (Jvm.Cond.selects "com/example/rosterlink/rosterlink/api/Operation" ({ cls := "com/example/rosterlink/rosterlink/api/Operation", name := "body", desc := "()Lcom/example/rosterlink/rosterlink/api/Schema;" } : Jvm.MethodName) ({ cls := "com/example/rosterlink/rosterlink/api/Operation", name := "body", desc := "()Lcom/example/rosterlink/rosterlink/api/Schema;" } : Jvm.MethodName)).before a0 Z = true := hw _ (List.mem_of_getElem? (i := 104) rfl)
theorem w105 {Z : State} {a0 : Array Value} (hw : oHw Z a0) : (Jvm.Cond.code ({ cls := "com/example/rosterlink/rosterlink/api/Operation", name := "body", desc := "()Lcom/example/rosterlink/rosterlink/api/Schema;" } : Jvm.MethodName) prog_5_method_12_code (1 : Nat) (Option.some (Jvm.ClassFile.FieldType.object "com/example/rosterlink/rosterlink/api/Schema"))).before a0 Z = true := hw _ (List.mem_of_getElem? (i := 105) rfl)
theorem w106 {Z : State} {a0 : Array Value} (hw : oHw Z a0) : (Jvm.Cond.methodLink "com/example/rosterlink/rosterlink/api/OperationTakesPinLaw" (48 : Nat) ({ cls := "com/example/rosterlink/rosterlink/api/Operation", name := "answer", desc := "()Lcom/example/rosterlink/rosterlink/api/Schema;" } : Jvm.MethodName)).before a0 Z = true := hw _ (List.mem_of_getElem? (i := 106) rfl)
theorem w107 {Z : State} {a0 : Array Value} (hw : oHw Z a0) : (Jvm.Cond.declares ({ cls := "com/example/rosterlink/rosterlink/api/Operation", name := "answer", desc := "()Lcom/example/rosterlink/rosterlink/api/Schema;" } : Jvm.MethodName)).before a0 Z = true := hw _ (List.mem_of_getElem? (i := 107) rfl)
theorem w108 {Z : State} {a0 : Array Value} (hw : oHw Z a0) : (Jvm.Cond.instanceMethod ({ cls := "com/example/rosterlink/rosterlink/api/Operation", name := "answer", desc := "()Lcom/example/rosterlink/rosterlink/api/Schema;" } : Jvm.MethodName)).before a0 Z = true := hw _ (List.mem_of_getElem? (i := 108) rfl)
theorem w109 {Z : State} {a0 : Array Value} (hw : oHw Z a0) : (Jvm.Cond.selects "com/example/rosterlink/rosterlink/api/Operation" ({ cls := "com/example/rosterlink/rosterlink/api/Operation", name := "answer", desc := "()Lcom/example/rosterlink/rosterlink/api/Schema;" } : Jvm.MethodName) ({ cls := "com/example/rosterlink/rosterlink/api/Operation", name := "answer", desc := "()Lcom/example/rosterlink/rosterlink/api/Schema;" } : Jvm.MethodName)).before a0 Z = true := hw _ (List.mem_of_getElem? (i := 109) rfl)
theorem w110 {Z : State} {a0 : Array Value} (hw : oHw Z a0) : (Jvm.Cond.code ({ cls := "com/example/rosterlink/rosterlink/api/Operation", name := "answer", desc := "()Lcom/example/rosterlink/rosterlink/api/Schema;" } : Jvm.MethodName) prog_5_method_13_code (1 : Nat) (Option.some (Jvm.ClassFile.FieldType.object "com/example/rosterlink/rosterlink/api/Schema"))).before a0 Z = true := hw _ (List.mem_of_getElem? (i := 110) rfl)
theorem w111 {Z : State} {a0 : Array Value} (hw : oHw Z a0) : (Jvm.Cond.methodLink "com/example/rosterlink/rosterlink/api/OperationTakesPinLaw" (51 : Nat) ({ cls := "com/example/rosterlink/rosterlink/api/Operation", name := "query", desc := "()Ljava/util/List;" } : Jvm.MethodName)).before a0 Z = true := hw _ (List.mem_of_getElem? (i := 111) rfl)
theorem w112 {Z : State} {a0 : Array Value} (hw : oHw Z a0) : (Jvm.Cond.declares ({ cls := "com/example/rosterlink/rosterlink/api/Operation", name := "query", desc := "()Ljava/util/List;" } : Jvm.MethodName)).before a0 Z = true := hw _ (List.mem_of_getElem? (i := 112) rfl)
theorem w113 {Z : State} {a0 : Array Value} (hw : oHw Z a0) : (Jvm.Cond.instanceMethod ({ cls := "com/example/rosterlink/rosterlink/api/Operation", name := "query", desc := "()Ljava/util/List;" } : Jvm.MethodName)).before a0 Z = true := hw _ (List.mem_of_getElem? (i := 113) rfl)
theorem w114 {Z : State} {a0 : Array Value} (hw : oHw Z a0) : (Jvm.Cond.selects "com/example/rosterlink/rosterlink/api/Operation" ({ cls := "com/example/rosterlink/rosterlink/api/Operation", name := "query", desc := "()Ljava/util/List;" } : Jvm.MethodName) ({ cls := "com/example/rosterlink/rosterlink/api/Operation", name := "query", desc := "()Ljava/util/List;" } : Jvm.MethodName)).before a0 Z = true := hw _ (List.mem_of_getElem? (i := 114) rfl)
theorem w115 {Z : State} {a0 : Array Value} (hw : oHw Z a0) : (Jvm.Cond.code ({ cls := "com/example/rosterlink/rosterlink/api/Operation", name := "query", desc := "()Ljava/util/List;" } : Jvm.MethodName) prog_5_method_14_code (1 : Nat) (Option.some (Jvm.ClassFile.FieldType.object "java/util/List"))).before a0 Z = true := hw _ (List.mem_of_getElem? (i := 115) rfl)
theorem w116 {Z : State} {a0 : Array Value} (hw : oHw Z a0) : (Jvm.Cond.classLink "com/example/rosterlink/rosterlink/api/OperationTakesPinLaw" (21 : Nat) "java/util/ArrayList").before a0 Z = true := hw _ (List.mem_of_getElem? (i := 116) rfl)
theorem w117 {Z : State} {a0 : Array Value} (hw : oHw Z a0) : (Jvm.Cond.instantiable "java/util/ArrayList" (3 : Nat)).before a0 Z = true := hw _ (List.mem_of_getElem? (i := 117) rfl)
theorem w118 {Z : State} {a0 : Array Value} (hw : oHw Z a0) : (Jvm.Cond.initialized "java/util/ArrayList").before a0 Z = true := hw _ (List.mem_of_getElem? (i := 118) rfl)
theorem w119 {Z : State} {a0 : Array Value} (hw : oHw Z a0) : (Jvm.Cond.methodLink "com/example/rosterlink/rosterlink/api/OperationTakesPinLaw" (23 : Nat) ({ cls := "java/util/ArrayList", name := "<init>", desc := "()V" } : Jvm.MethodName)).before a0 Z = true := hw _ (List.mem_of_getElem? (i := 119) rfl)
theorem w120 {Z : State} {a0 : Array Value} (hw : oHw Z a0) : (Jvm.Cond.instanceMethod ({ cls := "java/util/ArrayList", name := "<init>", desc := "()V" } : Jvm.MethodName)).before a0 Z = true := hw _ (List.mem_of_getElem? (i := 120) rfl)
theorem w121 {Z : State} {a0 : Array Value} (hw : oHw Z a0) : (Jvm.Cond.code ({ cls := "java/util/ArrayList", name := "<init>", desc := "()V" } : Jvm.MethodName) jdk_38_method_2_code (1 : Nat) (Option.none : Option Jvm.ClassFile.FieldType)).before a0 Z = true := hw _ (List.mem_of_getElem? (i := 121) rfl)
theorem w122 {Z : State} {a0 : Array Value} (hw : oHw Z a0) : (Jvm.Cond.methodLink "java/util/ArrayList" (1 : Nat) ({ cls := "java/util/AbstractList", name := "<init>", desc := "()V" } : Jvm.MethodName)).before a0 Z = true := hw _ (List.mem_of_getElem? (i := 122) rfl)
theorem w123 {Z : State} {a0 : Array Value} (hw : oHw Z a0) : (Jvm.Cond.instanceMethod ({ cls := "java/util/AbstractList", name := "<init>", desc := "()V" } : Jvm.MethodName)).before a0 Z = true := hw _ (List.mem_of_getElem? (i := 123) rfl)
theorem w126 {Z : State} {a0 : Array Value} (hw : oHw Z a0) : (Jvm.Cond.initialized "java/util/AbstractList").before a0 Z = true := hw _ (List.mem_of_getElem? (i := 126) rfl)
theorem w127 {Z : State} {a0 : Array Value} (hw : oHw Z a0) : (Jvm.Cond.code ({ cls := "java/util/AbstractList", name := "<init>", desc := "()V" } : Jvm.MethodName) jdk_39_method_1_code (1 : Nat) (Option.none : Option Jvm.ClassFile.FieldType)).before a0 Z = true := hw _ (List.mem_of_getElem? (i := 127) rfl)
theorem w128 {Z : State} {a0 : Array Value} (hw : oHw Z a0) : (Jvm.Cond.methodLink "java/util/AbstractList" (1 : Nat) ({ cls := "java/util/AbstractCollection", name := "<init>", desc := "()V" } : Jvm.MethodName)).before a0 Z = true := hw _ (List.mem_of_getElem? (i := 128) rfl)
theorem w129 {Z : State} {a0 : Array Value} (hw : oHw Z a0) : (Jvm.Cond.instanceMethod ({ cls := "java/util/AbstractCollection", name := "<init>", desc := "()V" } : Jvm.MethodName)).before a0 Z = true := hw _ (List.mem_of_getElem? (i := 129) rfl)
theorem w132 {Z : State} {a0 : Array Value} (hw : oHw Z a0) : (Jvm.Cond.initialized "java/util/AbstractCollection").before a0 Z = true := hw _ (List.mem_of_getElem? (i := 132) rfl)
theorem w133 {Z : State} {a0 : Array Value} (hw : oHw Z a0) : (Jvm.Cond.code ({ cls := "java/util/AbstractCollection", name := "<init>", desc := "()V" } : Jvm.MethodName) jdk_22_method_1_code (1 : Nat) (Option.none : Option Jvm.ClassFile.FieldType)).before a0 Z = true := hw _ (List.mem_of_getElem? (i := 133) rfl)
theorem w134 {Z : State} {a0 : Array Value} (hw : oHw Z a0) : (Jvm.Cond.methodLink "java/util/AbstractCollection" (1 : Nat) ({ cls := "java/lang/Object", name := "<init>", desc := "()V" } : Jvm.MethodName)).before a0 Z = true := hw _ (List.mem_of_getElem? (i := 134) rfl)
theorem w135 {Z : State} {a0 : Array Value} (hw : oHw Z a0) : (Jvm.Cond.fieldLink "java/util/AbstractList" (7 : Nat) "java/util/AbstractList" "modCount" "I").before a0 Z = true := hw _ (List.mem_of_getElem? (i := 135) rfl)
theorem w136 {Z : State} {a0 : Array Value} (hw : oHw Z a0) : (Jvm.Cond.lays "java/util/ArrayList" "java/util/AbstractList" "modCount" "I").before a0 Z = true := hw _ (List.mem_of_getElem? (i := 136) rfl)
theorem w137 {Z : State} {a0 : Array Value} (hw : oHw Z a0) : (Jvm.Cond.fieldLink "java/util/ArrayList" (39 : Nat) "java/util/ArrayList" "DEFAULTCAPACITY_EMPTY_ELEMENTDATA" "[Ljava/lang/Object;").before a0 Z = true := hw _ (List.mem_of_getElem? (i := 137) rfl)
theorem w138 {Z : State} {a0 : Array Value} (hw : oHw Z a0) : (Jvm.Cond.fieldLink "java/util/ArrayList" (9 : Nat) "java/util/ArrayList" "elementData" "[Ljava/lang/Object;").before a0 Z = true := hw _ (List.mem_of_getElem? (i := 138) rfl)
theorem w139 {Z : State} {a0 : Array Value} (hw : oHw Z a0) : (Jvm.Cond.lays "java/util/ArrayList" "java/util/ArrayList" "elementData" "[Ljava/lang/Object;").before a0 Z = true := hw _ (List.mem_of_getElem? (i := 139) rfl)
theorem d_canenc_0 : decode jdk_43_method_3_code 0 = .ok (.iload_n 0, 1) := by decide +kernel
theorem d_canenc_1 : decode jdk_43_method_3_code 1 = .ok (.sipush 255, 3) := by decide +kernel
theorem d_canenc_4 : decode jdk_43_method_3_code 4 = .ok (.if_icmp .gt 7, 3) := by decide +kernel
theorem d_canenc_7 : decode jdk_43_method_3_code 7 = .ok (.iconst 1, 1) := by decide +kernel
theorem d_canenc_8 : decode jdk_43_method_3_code 8 = .ok (.goto 4, 3) := by decide +kernel
theorem d_canenc_12 : decode jdk_43_method_3_code 12 = .ok (.ireturn, 1) := by decide +kernel
def r_canenc : Room := { frames := 0, cells := 0, slots := 0, locals := 0 }
def Q_canenc (Z : State) (c : Int32) (h0 : Heap) (v : Option Value) (h : Heap) : Prop := v = some (.int (1 : Int32)) ∧ h0 = h
set_option maxRecDepth 65536 in
set_option maxHeartbeats 40000000 in
theorem rm_canenc (l : Launch) (Z : State) (a0 : Array Value) (hw : oHw Z a0) (c : Int32) (h0 : Heap) (q0 : ¬ ((255 : Int32) < c)) : oMet l Z (⟨"java/lang/StringLatin1", "canEncode", "(C)Z"⟩ : MethodName) jdk_43_method_3_code 1 (some .boolean) r_canenc [] #[(.int c)] h0 (Q_canenc Z c h0) := by
  refine oEnter (plainFor_of_name (by first | (simp [plainName, overriddenIn]; done) | decide +kernel)) (own := "java/lang/StringLatin1") (nm := "canEncode") rfl rfl (L := #[.val (.int c)]) (fun m => by first | (simp [entryFrame, mkF, argsToLocals, Value.category]; done) | rfl) ?_
  intro pp ee ss mm bb mtd cc T0 K X0
  have E0 := X0.ext0
  refine o_iloadN K X0 d_canenc_0 (pc' := 1) rfl rfl ?_
  refine o_sipush K X0 d_canenc_1 (pc' := 4) rfl (z := (255 : Int32)) rfl ?_
  refine o_icmp_gt_f K X0 d_canenc_4 (pc' := 7) rfl q0 ?_
  refine o_iconst K X0 d_canenc_7 (pc' := 8) rfl (z := (1 : Int32)) rfl ?_
  refine o_goto K X0 d_canenc_8 (by decide) (pc' := 12) (by decide) ?_
  refine o_ireturnN K X0 .boolean d_canenc_12 rfl (by simp) (z' := (1 : Int32)) (by decide) ?_ (by decide) (by decide)
  exact ⟨rfl, rfl⟩
theorem d_tobytes_0 : decode jdk_43_method_46_code 0 = .ok (.iconst 1, 1) := by decide +kernel
theorem d_tobytes_1 : decode jdk_43_method_46_code 1 = .ok (.newarray .byte, 2) := by decide +kernel
theorem d_tobytes_3 : decode jdk_43_method_46_code 3 = .ok (.dup, 1) := by decide +kernel
theorem d_tobytes_4 : decode jdk_43_method_46_code 4 = .ok (.iconst 0, 1) := by decide +kernel
theorem d_tobytes_5 : decode jdk_43_method_46_code 5 = .ok (.iload_n 0, 1) := by decide +kernel
theorem d_tobytes_6 : decode jdk_43_method_46_code 6 = .ok (.i2b, 1) := by decide +kernel
theorem d_tobytes_7 : decode jdk_43_method_46_code 7 = .ok (.bastore, 1) := by decide +kernel
theorem d_tobytes_8 : decode jdk_43_method_46_code 8 = .ok (.areturn, 1) := by decide +kernel
def r_tobytes : Room := { frames := 0, cells := 1, slots := 1, locals := 0 }
def Q_tobytes (Z : State) (c : Int32) (h0 : Heap) (v : Option Value) (h : Heap) : Prop := ∃ r : Addr, ∃ k : ClassId, v = some (.ref r) ∧ Keep h0 h [] ∧ h0.size ≤ r ∧ oArr Z h r k .byte [(.int (nar .byte c))]
set_option maxRecDepth 65536 in
set_option maxHeartbeats 40000000 in
theorem rm_tobytes (l : Launch) (Z : State) (a0 : Array Value) (hw : oHw Z a0) (c : Int32) (h0 : Heap) : oMet l Z (⟨"java/lang/StringLatin1", "toBytes", "(C)[B"⟩ : MethodName) jdk_43_method_46_code 1 (some (.array .byte)) r_tobytes [] #[(.int c)] h0 (Q_tobytes Z c h0) := by
  refine oEnter (plainFor_of_name (by first | (simp [plainName, overriddenIn]; done) | decide +kernel)) (own := "java/lang/StringLatin1") (nm := "toBytes") rfl rfl (L := #[.val (.int c)]) (fun m => by first | (simp [entryFrame, mkF, argsToLocals, Value.category]; done) | rfl) ?_
  intro pp ee ss mm bb mtd cc T0 K X0
  have E0 := X0.ext0
  refine o_iconst K X0 d_tobytes_0 (pc' := 1) rfl (z := (1 : Int32)) rfl ?_
  refine o_newarray K X0 (aty := .byte) 1 (w19 hw) (ad := "[B") (by decide +kernel) (by decide) (by decide) (by decide) rfl d_tobytes_1 (pc' := 3) rfl (by decide) (by decide) ?_
  intro T1 h1 b1 k1 X1 g1 E1 A1 B1 G1
  replace A1 : oArr Z h1 b1 k1 .byte [(.int (0 : Int32))] := A1
  refine o_dup K X1 d_tobytes_3 (pc' := 4) rfl rfl ?_
  refine o_iconst K X1 d_tobytes_4 (pc' := 5) rfl (z := (0 : Int32)) rfl ?_
  refine o_iloadN K X1 d_tobytes_5 (pc' := 6) rfl rfl ?_
  refine o_i2b K X1 d_tobytes_6 (pc' := 7) rfl (z := (nar .byte c)) rfl ?_
  refine o_bastore K X1 A1 (by decide) (show (0 : Int32).toNatClampNeg < 1 from (by decide)) G1 (z := (.int (nar .byte c))) (congrArg Value.int (oNarIdembyte _)) d_tobytes_7 (pc' := 8) rfl ?_
  intro T2 h2 X2 W2 A2
  replace A2 : oArr Z h2 b1 k1 .byte [(.int (nar .byte c))] := A2
  refine o_areturn K X2 (t := (.array .byte)) d_tobytes_8 rfl rfl rfl ?_ (by decide) (by decide)
  exact ⟨b1, k1, rfl, (((Keep.refl h0 []).ext E1).wr W2 (Or.inr (Nat.le_of_eq g1.symm))), (Nat.le_of_eq g1.symm), A2⟩
theorem d_strbb_0 : decode jdk_42_method_151_code 0 = .ok (.aload_n 0, 1) := by decide +kernel
theorem d_strbb_1 : decode jdk_42_method_151_code 1 = .ok (.invokespecial 1, 3) := by decide +kernel
theorem d_strbb_4 : decode jdk_42_method_151_code 4 = .ok (.aload_n 0, 1) := by decide +kernel
theorem d_strbb_5 : decode jdk_42_method_151_code 5 = .ok (.aload_n 1, 1) := by decide +kernel
theorem d_strbb_6 : decode jdk_42_method_151_code 6 = .ok (.putfield 9, 3) := by decide +kernel
theorem d_strbb_9 : decode jdk_42_method_151_code 9 = .ok (.aload_n 0, 1) := by decide +kernel
theorem d_strbb_10 : decode jdk_42_method_151_code 10 = .ok (.iload_n 2, 1) := by decide +kernel
theorem d_strbb_11 : decode jdk_42_method_151_code 11 = .ok (.putfield 15, 3) := by decide +kernel
theorem d_strbb_14 : decode jdk_42_method_151_code 14 = .ok (.return_, 1) := by decide +kernel
def r_strbb : Room := { frames := 1, cells := 0, slots := 0, locals := 12 }
def Q_strbb (Z : State) (a : Addr) (b : Addr) (h0 : Heap) (v : Option Value) (h : Heap) : Prop := v = none ∧ Keep h0 h [a] ∧ Exa Z h a "java/lang/String" ∧ Fld Z h a "java/lang/String" "value" "[B" (.ref b) ∧ Fld Z h a "java/lang/String" "coder" "B" (.int (0 : Int32))
set_option maxRecDepth 65536 in
set_option maxHeartbeats 40000000 in
theorem rm_strbb (l : Launch) (Z : State) (a0 : Array Value) (hw : oHw Z a0) (a : Addr) (b : Addr) (h0 : Heap) (q0 : Exa Z h0 a "java/lang/String") (q1 : Fld Z h0 a "java/lang/String" "value" "[B" .null) (q2 : Fld Z h0 a "java/lang/String" "coder" "B" (.int (0 : Int32))) (q3 : Z.heap.size ≤ a) : oMet l Z (⟨"java/lang/String", "<init>", "([BB)V"⟩ : MethodName) jdk_42_method_151_code 3 none r_strbb [] #[(.ref a), (.ref b), (.int (0 : Int32))] h0 (Q_strbb Z a b h0) := by
  refine oEnter (plainFor_of_name (by first | (simp [plainName, overriddenIn]; done) | decide +kernel)) (own := "java/lang/String") (nm := "<init>") rfl rfl (L := #[.val (.ref a), .val (.ref b), .val (.int (0 : Int32))]) (fun m => by first | (simp [entryFrame, mkF, argsToLocals, Value.category]; done) | rfl) ?_
  intro pp ee ss mm bb mtd cc T0 K X0
  have E0 := X0.ext0
  refine o_aloadN K X0 d_strbb_0 (pc' := 1) rfl rfl rfl ?_
  refine o_initObj K X0 (w11 hw) (w12 hw) (w13 hw) d_strbb_1 (pc' := 4) rfl rfl (by decide) (W := 0) rfl (by decide) ?_
  intro T1 X1
  refine o_aloadN K X1 d_strbb_4 (pc' := 5) rfl rfl rfl ?_
  refine o_aloadN K X1 d_strbb_5 (pc' := 6) rfl rfl rfl ?_
  refine o_putfield K X1 (host := "") (Or.inl (w28 hw)) Via.refl q1 q0 (Or.inr ⟨(w29 hw), rfl, rfl⟩) (w2 hw) (ty := (.array .byte)) (by decide) rfl rfl q3 d_strbb_6 (pc' := 9) rfl ?_
  intro T2 h2 X2 W2
  have F2 := Fld.same W2 q1
  refine o_aloadN K X2 d_strbb_9 (pc' := 10) rfl rfl rfl ?_
  refine o_iloadN K X2 d_strbb_10 (pc' := 11) rfl rfl ?_
  refine o_putfieldN K X2 (w26 hw) Via.refl (Fld.other W2 q2 (Or.inr (slot_ne (Or.inr (w27 hw)) (Or.inr (w29 hw)) (by decide) (t := .byte) (t' := (.array .byte)) (by decide) (by decide)))) (Exa.wr W2 q0) (Or.inr ⟨(w27 hw), rfl, rfl⟩) (w2 hw) (ty := .byte) (by decide) (v' := (.int (0 : Int32))) (congrArg Value.int (by decide)) (oFitbyte (x := (0 : Int32)) (by decide)) q3 d_strbb_11 (pc' := 14) rfl ?_
  intro T3 h3 X3 W3
  have F3 := Fld.same W3 (Fld.other W2 q2 (Or.inr (slot_ne (Or.inr (w27 hw)) (Or.inr (w29 hw)) (by decide) (t := .byte) (t' := (.array .byte)) (by decide) (by decide))))
  refine o_return K X3 d_strbb_14 rfl ?_ (by decide) (by decide)
  exact ⟨rfl, (((Keep.refl h0 [a]).wr W2 (Or.inl (List.mem_of_getElem? (i := 0) rfl))).wr W3 (Or.inl (List.mem_of_getElem? (i := 0) rfl))), (Exa.wr W3 (Exa.wr W2 q0)), (Fld.other W3 F2 (Or.inr (slot_ne (Or.inr (w29 hw)) (Or.inr (w27 hw)) (by decide) (t := (.array .byte)) (t' := .byte) (by decide) (by decide)))), F3⟩
theorem d_valueof_0 : decode jdk_42_method_139_code 0 = .ok (.getstatic 38, 3) := by decide +kernel
theorem d_valueof_3 : decode jdk_42_method_139_code 3 = .ok (.ifCond .eq 23, 3) := by decide +kernel
theorem d_valueof_6 : decode jdk_42_method_139_code 6 = .ok (.iload_n 0, 1) := by decide +kernel
theorem d_valueof_7 : decode jdk_42_method_139_code 7 = .ok (.invokestatic 1015, 3) := by decide +kernel
theorem d_valueof_10 : decode jdk_42_method_139_code 10 = .ok (.ifCond .eq 16, 3) := by decide +kernel
theorem d_valueof_13 : decode jdk_42_method_139_code 13 = .ok (.new 10, 3) := by decide +kernel
theorem d_valueof_16 : decode jdk_42_method_139_code 16 = .ok (.dup, 1) := by decide +kernel
theorem d_valueof_17 : decode jdk_42_method_139_code 17 = .ok (.iload_n 0, 1) := by decide +kernel
theorem d_valueof_18 : decode jdk_42_method_139_code 18 = .ok (.invokestatic 1018, 3) := by decide +kernel
theorem d_valueof_21 : decode jdk_42_method_139_code 21 = .ok (.iconst 0, 1) := by decide +kernel
theorem d_valueof_22 : decode jdk_42_method_139_code 22 = .ok (.invokespecial 209, 3) := by decide +kernel
theorem d_valueof_25 : decode jdk_42_method_139_code 25 = .ok (.areturn, 1) := by decide +kernel
theorem pd_valueof_0 : parseMethodDescriptor "(C)Z" = some ⟨[.char], some .boolean⟩ := by decide +kernel
theorem pd_valueof_1 : parseMethodDescriptor "(C)[B" = some ⟨[.char], some (.array .byte)⟩ := by decide +kernel
theorem pd_valueof_2 : parseMethodDescriptor "([BB)V" = some ⟨[(.array .byte), .byte], none⟩ := by decide +kernel
def r_valueof : Room := { frames := 2, cells := 2, slots := 5, locals := 27 }
def Q_valueof (Z : State) (c : Int32) (cs : Int32) (h0 : Heap) (v : Option Value) (h : Heap) : Prop := ∃ r : Addr, ∃ vb : Addr, ∃ k : ClassId, v = some (.ref r) ∧ Keep h0 h [] ∧ h0.size ≤ r ∧ Exa Z h r "java/lang/String" ∧ Fld Z h r "java/lang/String" "value" "[B" (.ref vb) ∧ Fld Z h r "java/lang/String" "coder" "B" (.int (0 : Int32)) ∧ h0.size ≤ vb ∧ oArr Z h vb k .byte [(.int (nar .byte c))]
set_option maxRecDepth 65536 in
set_option maxHeartbeats 40000000 in
theorem rm_valueof (l : Launch) (Z : State) (a0 : Array Value) (hw : oHw Z a0) (c : Int32) (cs : Int32) (h0 : Heap) (q0 : ¬ ((255 : Int32) < c)) (q1 : Sta Z Z.heap "java/lang/String" "COMPACT_STRINGS" "Z" (.int cs)) (q2 : ¬ (cs = (0 : Int32))) : oMet l Z (⟨"java/lang/String", "valueOf", "(C)Ljava/lang/String;"⟩ : MethodName) jdk_42_method_139_code 1 (some (.object "java/lang/String")) r_valueof [] #[(.int c)] h0 (Q_valueof Z c cs h0) := by
  refine oEnter (plainFor_of_name (by first | (simp [plainName, overriddenIn]; done) | decide +kernel)) (own := "java/lang/String") (nm := "valueOf") rfl rfl (L := #[.val (.int c)]) (fun m => by first | (simp [entryFrame, mkF, argsToLocals, Value.category]; done) | rfl) ?_
  intro pp ee ss mm bb mtd cc T0 K X0
  have E0 := X0.ext0
  refine o_getstatic K X0 (host := "") (Or.inl (w14 hw)) Via.refl (q1.ext X0.ext0) d_valueof_0 (pc' := 3) rfl ?_
  intro T1 X1
  refine o_if_eq_f K X1 d_valueof_3 (pc' := 6) rfl q2 ?_
  refine o_iloadN K X1 d_valueof_6 (pc' := 7) rfl rfl ?_
  refine o_static K X1 (y := (⟨"java/lang/StringLatin1", "canEncode", "(C)Z"⟩ : MethodName)) (w33 hw) (w34 hw) (w35 hw) (w36 hw) (by decide) (rm_canenc l Z a0 hw c h0 q0) (by decide) rfl (argsL := [(.int c)]) rfl (lenOf pd_valueof_0 rfl) (W := 0) rfl (by decide) (by decide) (by decide) d_valueof_7 (pc' := 10) rfl ?_
  intro v2 T2 h2 X2 U2
  obtain ⟨rfl, rfl⟩ := U2
  show oGoes pp ee bb ss Z T2 (mkF mm 10 #[.val (.int c)] [(.int (1 : Int32))]) _ _ _
  refine o_if_eq_f K X2 d_valueof_10 (pc' := 13) rfl (by decide) ?_
  refine o_new K X2 (w37 hw) (w2 hw) (w3 hw) d_valueof_13 (pc' := 16) rfl (by decide) (by decide) ?_
  intro T3 h3 b3 X3 g3 E3 A3 D3 G3
  have F3_coder : Fld Z h3 b3 "java/lang/String" "coder" "B" (.int (0 : Int32)) := (D3 (Or.inr (w27 hw)) (ty := .byte) (by decide))
  have F3_value : Fld Z h3 b3 "java/lang/String" "value" "[B" .null := (D3 (Or.inr (w29 hw)) (ty := (.array .byte)) (by decide))
  refine o_dup K X3 d_valueof_16 (pc' := 17) rfl rfl ?_
  refine o_iloadN K X3 d_valueof_17 (pc' := 18) rfl rfl ?_
  refine o_static K X3 (y := (⟨"java/lang/StringLatin1", "toBytes", "(C)[B"⟩ : MethodName)) (w38 hw) (w39 hw) (w35 hw) (w40 hw) (by decide) (rm_tobytes l Z a0 hw c h3) (by decide) rfl (argsL := [(.int c)]) rfl (lenOf pd_valueof_1 rfl) (W := 2) rfl (by decide) (by decide) (by decide) d_valueof_18 (pc' := 21) rfl ?_
  intro v4 T4 h4 X4 U4
  obtain ⟨r_4, k_4, rfl, u4_0, u4_1, u4_2⟩ := U4
  have G4_r : Z.heap.size ≤ r_4 := Nat.le_trans (Nat.le_trans E0.1 E3.1) u4_1
  show oGoes pp ee bb ss Z T4 (mkF mm 21 #[.val (.int c)] [(.ref r_4), (.ref b3), (.ref b3)]) _ _ _
  refine o_iconst K X4 d_valueof_21 (pc' := 22) rfl (z := (0 : Int32)) rfl ?_
  refine o_special K X4 (y := (⟨"java/lang/String", "<init>", "([BB)V"⟩ : MethodName)) rfl (w41 hw) (w42 hw) (w3 hw) (w43 hw) (by decide) (rm_strbb l Z a0 hw b3 r_4 h4 (A3.keep u4_0) (F3_value.keep u4_0 nin0) (F3_coder.keep u4_0 nin0) G3) (by decide) rfl (argsL := [(.ref r_4), (.int (0 : Int32))]) rfl (lenOf pd_valueof_2 rfl) (W := 1) rfl (by decide) (by decide) (by decide) d_valueof_22 (pc' := 25) rfl ?_
  intro v5 T5 h5 X5 U5
  obtain ⟨rfl, u5_0, u5_1, u5_2, u5_3⟩ := U5
  show oGoes pp ee bb ss Z T5 (mkF mm 25 #[.val (.int c)] [(.ref b3)]) _ _ _
  refine o_areturn K X5 (t := (.object "java/lang/String")) d_valueof_25 rfl rfl rfl ?_ (by decide) (by decide)
  exact ⟨b3, r_4, k_4, rfl, ((((Keep.refl h0 []).ext E3).trans u4_0 all0).trans u5_0 (allS (Or.inr (Nat.le_of_eq g3.symm)) all0)), (Nat.le_of_eq g3.symm), u5_1, u5_2, u5_3, (Nat.le_trans E3.1 u4_1), (u4_2.keep u5_0 (ninS (Ne.symm (Nat.ne_of_lt (Nat.lt_of_lt_of_le A3.lt u4_1))) nin0))⟩
theorem d_cmp5_2_0 : decode jdk_52_method_21_code 0 = .ok (.iconst 0, 1) := by decide +kernel
theorem d_cmp5_2_1 : decode jdk_52_method_21_code 1 = .ok (.istore 5, 2) := by decide +kernel
theorem d_cmp5_2_3 : decode jdk_52_method_21_code 3 = .ok (.iload 5, 2) := by decide +kernel
theorem d_cmp5_2_5 : decode jdk_52_method_21_code 5 = .ok (.iload 4, 2) := by decide +kernel
theorem d_cmp5_2_7 : decode jdk_52_method_21_code 7 = .ok (.if_icmp .ge 37, 3) := by decide +kernel
theorem d_cmp5_2_10 : decode jdk_52_method_21_code 10 = .ok (.aload_n 0, 1) := by decide +kernel
theorem d_cmp5_2_11 : decode jdk_52_method_21_code 11 = .ok (.iload_n 1, 1) := by decide +kernel
theorem d_cmp5_2_12 : decode jdk_52_method_21_code 12 = .ok (.caload, 1) := by decide +kernel
theorem d_cmp5_2_13 : decode jdk_52_method_21_code 13 = .ok (.istore 6, 2) := by decide +kernel
theorem d_cmp5_2_15 : decode jdk_52_method_21_code 15 = .ok (.iload 6, 2) := by decide +kernel
theorem d_cmp5_2_17 : decode jdk_52_method_21_code 17 = .ok (.sipush 255, 3) := by decide +kernel
theorem d_cmp5_2_20 : decode jdk_52_method_21_code 20 = .ok (.if_icmp .le 6, 3) := by decide +kernel
theorem d_cmp5_2_26 : decode jdk_52_method_21_code 26 = .ok (.aload_n 2, 1) := by decide +kernel
theorem d_cmp5_2_27 : decode jdk_52_method_21_code 27 = .ok (.iload_n 3, 1) := by decide +kernel
theorem d_cmp5_2_28 : decode jdk_52_method_21_code 28 = .ok (.iload 6, 2) := by decide +kernel
theorem d_cmp5_2_30 : decode jdk_52_method_21_code 30 = .ok (.i2b, 1) := by decide +kernel
theorem d_cmp5_2_31 : decode jdk_52_method_21_code 31 = .ok (.bastore, 1) := by decide +kernel
theorem d_cmp5_2_32 : decode jdk_52_method_21_code 32 = .ok (.iinc 1 1, 3) := by decide +kernel
theorem d_cmp5_2_35 : decode jdk_52_method_21_code 35 = .ok (.iinc 3 1, 3) := by decide +kernel
theorem d_cmp5_2_38 : decode jdk_52_method_21_code 38 = .ok (.iinc 5 1, 3) := by decide +kernel
theorem d_cmp5_2_41 : decode jdk_52_method_21_code 41 = .ok (.goto (-38), 3) := by decide +kernel
theorem d_cmp5_2_44 : decode jdk_52_method_21_code 44 = .ok (.iload 4, 2) := by decide +kernel
theorem d_cmp5_2_46 : decode jdk_52_method_21_code 46 = .ok (.ireturn, 1) := by decide +kernel
def r_cmp5_2 : Room := { frames := 0, cells := 0, slots := 0, locals := 0 }
def Q_cmp5_2 (Z : State) (b : Addr) (kb : ClassId) (d : Addr) (kd : ClassId) (c0 : Int32) (c1 : Int32) (h0 : Heap) (v : Option Value) (h : Heap) : Prop := v = some (.int (2 : Int32)) ∧ Keep h0 h [d] ∧ oArr Z h d kd .byte [(.int (nar .byte c0)), (.int (nar .byte c1))]
set_option maxRecDepth 65536 in
set_option maxHeartbeats 40000000 in
theorem rm_cmp5_2 (l : Launch) (Z : State) (a0 : Array Value) (hw : oHw Z a0) (b : Addr) (kb : ClassId) (d : Addr) (kd : ClassId) (c0 : Int32) (c1 : Int32) (h0 : Heap) (q0 : oArr Z h0 b kb .char [(.int c0), (.int c1)]) (q1 : oArr Z h0 d kd .byte [(.int (0 : Int32)), (.int (0 : Int32))]) (q2 : Z.heap.size ≤ d) (q3 : b ≠ d) (q4 : ¬ ((255 : Int32) < c0)) (q5 : ¬ ((255 : Int32) < c1)) : oMet l Z (⟨"java/lang/StringUTF16", "compress", "([CI[BII)I"⟩ : MethodName) jdk_52_method_21_code 7 (some .int) r_cmp5_2 [] #[(.ref b), (.int (0 : Int32)), (.ref d), (.int (0 : Int32)), (.int (2 : Int32))] h0 (Q_cmp5_2 Z b kb d kd c0 c1 h0) := by
  refine oEnter (plainFor_of_name (by first | (simp [plainName, overriddenIn]; done) | decide +kernel)) (own := "java/lang/StringUTF16") (nm := "compress") rfl rfl (L := #[.val (.ref b), .val (.int (0 : Int32)), .val (.ref d), .val (.int (0 : Int32)), .val (.int (2 : Int32)), .unset, .unset]) (fun m => by first | (simp [entryFrame, mkF, argsToLocals, Value.category]; done) | rfl) ?_
  intro pp ee ss mm bb mtd cc T0 K X0
  have E0 := X0.ext0
  refine o_iconst K X0 d_cmp5_2_0 (pc' := 1) rfl (z := (0 : Int32)) rfl ?_
  refine o_istore K X0 d_cmp5_2_1 (pc' := 3) rfl (L' := #[.val (.ref b), .val (.int (0 : Int32)), .val (.ref d), .val (.int (0 : Int32)), .val (.int (2 : Int32)), .val (.int (0 : Int32)), .unset]) rfl ?_
  refine o_iload K X0 d_cmp5_2_3 (pc' := 5) rfl rfl ?_
  refine o_iload K X0 d_cmp5_2_5 (pc' := 7) rfl rfl ?_
  refine o_icmp_ge_f K X0 d_cmp5_2_7 (pc' := 10) rfl (by decide) ?_
  refine o_aloadN K X0 d_cmp5_2_10 (pc' := 11) rfl rfl rfl ?_
  refine o_iloadN K X0 d_cmp5_2_11 (pc' := 12) rfl rfl ?_
  refine o_caload K X0 q0 (by decide) (v := (.int c0)) rfl d_cmp5_2_12 (pc' := 13) rfl ?_
  refine o_istore K X0 d_cmp5_2_13 (pc' := 15) rfl (L' := #[.val (.ref b), .val (.int (0 : Int32)), .val (.ref d), .val (.int (0 : Int32)), .val (.int (2 : Int32)), .val (.int (0 : Int32)), .val (.int c0)]) rfl ?_
  refine o_iload K X0 d_cmp5_2_15 (pc' := 17) rfl rfl ?_
  refine o_sipush K X0 d_cmp5_2_17 (pc' := 20) rfl (z := (255 : Int32)) rfl ?_
  refine o_icmp_le_t K X0 d_cmp5_2_20 (by decide) (pc' := 26) (by decide) q4 ?_
  refine o_aloadN K X0 d_cmp5_2_26 (pc' := 27) rfl rfl rfl ?_
  refine o_iloadN K X0 d_cmp5_2_27 (pc' := 28) rfl rfl ?_
  refine o_iload K X0 d_cmp5_2_28 (pc' := 30) rfl rfl ?_
  refine o_i2b K X0 d_cmp5_2_30 (pc' := 31) rfl (z := (nar .byte c0)) rfl ?_
  refine o_bastore K X0 q1 (by decide) (show (0 : Int32).toNatClampNeg < 2 from (by decide)) q2 (z := (.int (nar .byte c0))) (congrArg Value.int (oNarIdembyte _)) d_cmp5_2_31 (pc' := 32) rfl ?_
  intro T1 h1 X1 W1 A1
  replace A1 : oArr Z h1 d kd .byte [(.int (nar .byte c0)), (.int (0 : Int32))] := A1
  refine o_iinc K X1 d_cmp5_2_32 (pc' := 35) rfl rfl (L' := #[.val (.ref b), .val (.int (1 : Int32)), .val (.ref d), .val (.int (0 : Int32)), .val (.int (2 : Int32)), .val (.int (0 : Int32)), .val (.int c0)]) (by rw [show (0 : Int32) + Int32.ofInt 1 = (1 : Int32) from (by decide)]; rfl) ?_
  refine o_iinc K X1 d_cmp5_2_35 (pc' := 38) rfl rfl (L' := #[.val (.ref b), .val (.int (1 : Int32)), .val (.ref d), .val (.int (1 : Int32)), .val (.int (2 : Int32)), .val (.int (0 : Int32)), .val (.int c0)]) (by rw [show (0 : Int32) + Int32.ofInt 1 = (1 : Int32) from (by decide)]; rfl) ?_
  refine o_iinc K X1 d_cmp5_2_38 (pc' := 41) rfl rfl (L' := #[.val (.ref b), .val (.int (1 : Int32)), .val (.ref d), .val (.int (1 : Int32)), .val (.int (2 : Int32)), .val (.int (1 : Int32)), .val (.int c0)]) (by rw [show (0 : Int32) + Int32.ofInt 1 = (1 : Int32) from (by decide)]; rfl) ?_
  refine o_goto K X1 d_cmp5_2_41 (by decide) (pc' := 3) (by decide) ?_
  refine o_iload K X1 d_cmp5_2_3 (pc' := 5) rfl rfl ?_
  refine o_iload K X1 d_cmp5_2_5 (pc' := 7) rfl rfl ?_
  refine o_icmp_ge_f K X1 d_cmp5_2_7 (pc' := 10) rfl (by decide) ?_
  refine o_aloadN K X1 d_cmp5_2_10 (pc' := 11) rfl rfl rfl ?_
  refine o_iloadN K X1 d_cmp5_2_11 (pc' := 12) rfl rfl ?_
  refine o_caload K X1 (q0.other W1 q3) (by decide) (v := (.int c1)) rfl d_cmp5_2_12 (pc' := 13) rfl ?_
  refine o_istore K X1 d_cmp5_2_13 (pc' := 15) rfl (L' := #[.val (.ref b), .val (.int (1 : Int32)), .val (.ref d), .val (.int (1 : Int32)), .val (.int (2 : Int32)), .val (.int (1 : Int32)), .val (.int c1)]) rfl ?_
  refine o_iload K X1 d_cmp5_2_15 (pc' := 17) rfl rfl ?_
  refine o_sipush K X1 d_cmp5_2_17 (pc' := 20) rfl (z := (255 : Int32)) rfl ?_
  refine o_icmp_le_t K X1 d_cmp5_2_20 (by decide) (pc' := 26) (by decide) q5 ?_
  refine o_aloadN K X1 d_cmp5_2_26 (pc' := 27) rfl rfl rfl ?_
  refine o_iloadN K X1 d_cmp5_2_27 (pc' := 28) rfl rfl ?_
  refine o_iload K X1 d_cmp5_2_28 (pc' := 30) rfl rfl ?_
  refine o_i2b K X1 d_cmp5_2_30 (pc' := 31) rfl (z := (nar .byte c1)) rfl ?_
  refine o_bastore K X1 A1 (by decide) (show (1 : Int32).toNatClampNeg < 2 from (by decide)) q2 (z := (.int (nar .byte c1))) (congrArg Value.int (oNarIdembyte _)) d_cmp5_2_31 (pc' := 32) rfl ?_
  intro T2 h2 X2 W2 A2
  replace A2 : oArr Z h2 d kd .byte [(.int (nar .byte c0)), (.int (nar .byte c1))] := A2
  refine o_iinc K X2 d_cmp5_2_32 (pc' := 35) rfl rfl (L' := #[.val (.ref b), .val (.int (2 : Int32)), .val (.ref d), .val (.int (1 : Int32)), .val (.int (2 : Int32)), .val (.int (1 : Int32)), .val (.int c1)]) (by rw [show (1 : Int32) + Int32.ofInt 1 = (2 : Int32) from (by decide)]; rfl) ?_
  refine o_iinc K X2 d_cmp5_2_35 (pc' := 38) rfl rfl (L' := #[.val (.ref b), .val (.int (2 : Int32)), .val (.ref d), .val (.int (2 : Int32)), .val (.int (2 : Int32)), .val (.int (1 : Int32)), .val (.int c1)]) (by rw [show (1 : Int32) + Int32.ofInt 1 = (2 : Int32) from (by decide)]; rfl) ?_
  refine o_iinc K X2 d_cmp5_2_38 (pc' := 41) rfl rfl (L' := #[.val (.ref b), .val (.int (2 : Int32)), .val (.ref d), .val (.int (2 : Int32)), .val (.int (2 : Int32)), .val (.int (2 : Int32)), .val (.int c1)]) (by rw [show (1 : Int32) + Int32.ofInt 1 = (2 : Int32) from (by decide)]; rfl) ?_
  refine o_goto K X2 d_cmp5_2_41 (by decide) (pc' := 3) (by decide) ?_
  refine o_iload K X2 d_cmp5_2_3 (pc' := 5) rfl rfl ?_
  refine o_iload K X2 d_cmp5_2_5 (pc' := 7) rfl rfl ?_
  refine o_icmp_ge_t K X2 d_cmp5_2_7 (by decide) (pc' := 44) (by decide) (by decide) ?_
  refine o_iload K X2 d_cmp5_2_44 (pc' := 46) rfl rfl ?_
  refine o_ireturn K X2 d_cmp5_2_46 rfl ?_ (by decide) (by decide)
  exact ⟨rfl, (((Keep.refl h0 [d]).wr W1 (Or.inl (List.mem_of_getElem? (i := 0) rfl))).wr W2 (Or.inl (List.mem_of_getElem? (i := 0) rfl))), A2⟩
theorem d_cmp3_2_0 : decode jdk_52_method_16_code 0 = .ok (.iload_n 2, 1) := by decide +kernel
theorem d_cmp3_2_1 : decode jdk_52_method_16_code 1 = .ok (.newarray .byte, 2) := by decide +kernel
theorem d_cmp3_2_3 : decode jdk_52_method_16_code 3 = .ok (.astore_n 3, 1) := by decide +kernel
theorem d_cmp3_2_4 : decode jdk_52_method_16_code 4 = .ok (.aload_n 0, 1) := by decide +kernel
theorem d_cmp3_2_5 : decode jdk_52_method_16_code 5 = .ok (.iload_n 1, 1) := by decide +kernel
theorem d_cmp3_2_6 : decode jdk_52_method_16_code 6 = .ok (.aload_n 3, 1) := by decide +kernel
theorem d_cmp3_2_7 : decode jdk_52_method_16_code 7 = .ok (.iconst 0, 1) := by decide +kernel
theorem d_cmp3_2_8 : decode jdk_52_method_16_code 8 = .ok (.iload_n 2, 1) := by decide +kernel
theorem d_cmp3_2_9 : decode jdk_52_method_16_code 9 = .ok (.invokestatic 115, 3) := by decide +kernel
theorem d_cmp3_2_12 : decode jdk_52_method_16_code 12 = .ok (.istore 4, 2) := by decide +kernel
theorem d_cmp3_2_14 : decode jdk_52_method_16_code 14 = .ok (.iload 4, 2) := by decide +kernel
theorem d_cmp3_2_16 : decode jdk_52_method_16_code 16 = .ok (.iload_n 2, 1) := by decide +kernel
theorem d_cmp3_2_17 : decode jdk_52_method_16_code 17 = .ok (.if_icmp .eq 40, 3) := by decide +kernel
theorem d_cmp3_2_57 : decode jdk_52_method_16_code 57 = .ok (.aload_n 3, 1) := by decide +kernel
theorem d_cmp3_2_58 : decode jdk_52_method_16_code 58 = .ok (.areturn, 1) := by decide +kernel
theorem pd_cmp3_2_0 : parseMethodDescriptor "([CI[BII)I" = some ⟨[(.array .char), .int, (.array .byte), .int, .int], some .int⟩ := by decide +kernel
def r_cmp3_2 : Room := { frames := 1, cells := 1, slots := 2, locals := 18 }
def Q_cmp3_2 (Z : State) (b : Addr) (kb : ClassId) (c0 : Int32) (c1 : Int32) (h0 : Heap) (v : Option Value) (h : Heap) : Prop := ∃ r : Addr, ∃ k : ClassId, v = some (.ref r) ∧ Keep h0 h [] ∧ h0.size ≤ r ∧ oArr Z h r k .byte [(.int (nar .byte c0)), (.int (nar .byte c1))]
set_option maxRecDepth 65536 in
set_option maxHeartbeats 40000000 in
theorem rm_cmp3_2 (l : Launch) (Z : State) (a0 : Array Value) (hw : oHw Z a0) (b : Addr) (kb : ClassId) (c0 : Int32) (c1 : Int32) (h0 : Heap) (q0 : oArr Z h0 b kb .char [(.int c0), (.int c1)]) (q1 : ¬ ((255 : Int32) < c0)) (q2 : ¬ ((255 : Int32) < c1)) : oMet l Z (⟨"java/lang/StringUTF16", "compress", "([CII)[B"⟩ : MethodName) jdk_52_method_16_code 6 (some (.array .byte)) r_cmp3_2 [] #[(.ref b), (.int (0 : Int32)), (.int (2 : Int32))] h0 (Q_cmp3_2 Z b kb c0 c1 h0) := by
  refine oEnter (plainFor_of_name (by first | (simp [plainName, overriddenIn]; done) | decide +kernel)) (own := "java/lang/StringUTF16") (nm := "compress") rfl rfl (L := #[.val (.ref b), .val (.int (0 : Int32)), .val (.int (2 : Int32)), .unset, .unset, .unset]) (fun m => by first | (simp [entryFrame, mkF, argsToLocals, Value.category]; done) | rfl) ?_
  intro pp ee ss mm bb mtd cc T0 K X0
  have E0 := X0.ext0
  refine o_iloadN K X0 d_cmp3_2_0 (pc' := 1) rfl rfl ?_
  refine o_newarray K X0 (aty := .byte) 2 (w19 hw) (ad := "[B") (by decide +kernel) (by decide) (by decide) (by decide) rfl d_cmp3_2_1 (pc' := 3) rfl (by decide) (by decide) ?_
  intro T1 h1 b1 k1 X1 g1 E1 A1 B1 G1
  replace A1 : oArr Z h1 b1 k1 .byte [(.int (0 : Int32)), (.int (0 : Int32))] := A1
  refine o_astoreN K X1 d_cmp3_2_3 (pc' := 4) rfl rfl (L' := #[.val (.ref b), .val (.int (0 : Int32)), .val (.int (2 : Int32)), .val (.ref b1), .unset, .unset]) rfl ?_
  refine o_aloadN K X1 d_cmp3_2_4 (pc' := 5) rfl rfl rfl ?_
  refine o_iloadN K X1 d_cmp3_2_5 (pc' := 6) rfl rfl ?_
  refine o_aloadN K X1 d_cmp3_2_6 (pc' := 7) rfl rfl rfl ?_
  refine o_iconst K X1 d_cmp3_2_7 (pc' := 8) rfl (z := (0 : Int32)) rfl ?_
  refine o_iloadN K X1 d_cmp3_2_8 (pc' := 9) rfl rfl ?_
  refine o_static K X1 (y := (⟨"java/lang/StringUTF16", "compress", "([CI[BII)I"⟩ : MethodName)) (w20 hw) (w21 hw) (w17 hw) (w22 hw) (by decide) (rm_cmp5_2 l Z a0 hw b kb b1 k1 c0 c1 h1 (q0.ext E1) A1 G1 (Nat.ne_of_lt (Nat.lt_of_lt_of_le q0.lt (Nat.le_of_eq g1.symm))) q1 q2) (by decide) rfl (argsL := [(.ref b), (.int (0 : Int32)), (.ref b1), (.int (0 : Int32)), (.int (2 : Int32))]) rfl (lenOf pd_cmp3_2_0 rfl) (W := 0) rfl (by decide) (by decide) (by decide) d_cmp3_2_9 (pc' := 12) rfl ?_
  intro v2 T2 h2 X2 U2
  obtain ⟨rfl, u2_0, u2_1⟩ := U2
  show oGoes pp ee bb ss Z T2 (mkF mm 12 #[.val (.ref b), .val (.int (0 : Int32)), .val (.int (2 : Int32)), .val (.ref b1), .unset, .unset] [(.int (2 : Int32))]) _ _ _
  refine o_istore K X2 d_cmp3_2_12 (pc' := 14) rfl (L' := #[.val (.ref b), .val (.int (0 : Int32)), .val (.int (2 : Int32)), .val (.ref b1), .val (.int (2 : Int32)), .unset]) rfl ?_
  refine o_iload K X2 d_cmp3_2_14 (pc' := 16) rfl rfl ?_
  refine o_iloadN K X2 d_cmp3_2_16 (pc' := 17) rfl rfl ?_
  refine o_icmp_eq_t K X2 d_cmp3_2_17 (by decide) (pc' := 57) (by decide) (by decide) ?_
  refine o_aloadN K X2 d_cmp3_2_57 (pc' := 58) rfl rfl rfl ?_
  refine o_areturn K X2 (t := (.array .byte)) d_cmp3_2_58 rfl rfl rfl ?_ (by decide) (by decide)
  exact ⟨b1, k1, rfl, (((Keep.refl h0 []).ext E1).trans u2_0 (allS (Or.inr (Nat.le_of_eq g1.symm)) all0)), (Nat.le_of_eq g1.symm), u2_1⟩
theorem d_coder_2_0 : decode jdk_52_method_15_code 0 = .ok (.iload_n 1, 1) := by decide +kernel
theorem d_coder_2_1 : decode jdk_52_method_15_code 1 = .ok (.aload_n 0, 1) := by decide +kernel
theorem d_coder_2_2 : decode jdk_52_method_15_code 2 = .ok (.arraylength, 1) := by decide +kernel
theorem d_coder_2_3 : decode jdk_52_method_15_code 3 = .ok (.isub, 1) := by decide +kernel
theorem d_coder_2_4 : decode jdk_52_method_15_code 4 = .ok (.bipush 31, 2) := by decide +kernel
theorem d_coder_2_6 : decode jdk_52_method_15_code 6 = .ok (.iushr, 1) := by decide +kernel
theorem d_coder_2_7 : decode jdk_52_method_15_code 7 = .ok (.i2b, 1) := by decide +kernel
theorem d_coder_2_8 : decode jdk_52_method_15_code 8 = .ok (.ireturn, 1) := by decide +kernel
def r_coder_2 : Room := { frames := 0, cells := 0, slots := 0, locals := 0 }
def Q_coder_2 (Z : State) (b : Addr) (kb : ClassId) (c0 : Int32) (c1 : Int32) (h0 : Heap) (v : Option Value) (h : Heap) : Prop := v = some (.int (0 : Int32)) ∧ h0 = h
set_option maxRecDepth 65536 in
set_option maxHeartbeats 40000000 in
theorem rm_coder_2 (l : Launch) (Z : State) (a0 : Array Value) (hw : oHw Z a0) (b : Addr) (kb : ClassId) (c0 : Int32) (c1 : Int32) (h0 : Heap) (q0 : oArr Z h0 b kb .byte [(.int c0), (.int c1)]) : oMet l Z (⟨"java/lang/StringUTF16", "coderFromArrayLen", "([BI)B"⟩ : MethodName) jdk_52_method_15_code 2 (some .byte) r_coder_2 [] #[(.ref b), (.int (2 : Int32))] h0 (Q_coder_2 Z b kb c0 c1 h0) := by
  refine oEnter (plainFor_of_name (by first | (simp [plainName, overriddenIn]; done) | decide +kernel)) (own := "java/lang/StringUTF16") (nm := "coderFromArrayLen") rfl rfl (L := #[.val (.ref b), .val (.int (2 : Int32))]) (fun m => by first | (simp [entryFrame, mkF, argsToLocals, Value.category]; done) | rfl) ?_
  intro pp ee ss mm bb mtd cc T0 K X0
  have E0 := X0.ext0
  refine o_iloadN K X0 d_coder_2_0 (pc' := 1) rfl rfl ?_
  refine o_aloadN K X0 d_coder_2_1 (pc' := 2) rfl rfl rfl ?_
  refine o_arraylength K X0 q0 (z := (2 : Int32)) rfl d_coder_2_2 (pc' := 3) rfl ?_
  refine o_isub K X0 d_coder_2_3 (pc' := 4) rfl (z := (0 : Int32)) (by decide) ?_
  refine o_bipush K X0 d_coder_2_4 (pc' := 6) rfl (z := (31 : Int32)) rfl ?_
  refine o_iushr K X0 d_coder_2_6 (pc' := 7) rfl (z := (0 : Int32)) (by decide) ?_
  refine o_i2b K X0 d_coder_2_7 (pc' := 8) rfl (z := (0 : Int32)) (by decide) ?_
  refine o_ireturnN K X0 .byte d_coder_2_8 rfl (by simp) (z' := (0 : Int32)) (by decide) ?_ (by decide) (by decide)
  exact ⟨rfl, rfl⟩
theorem d_str4_2_0 : decode jdk_42_method_149_code 0 = .ok (.aload_n 0, 1) := by decide +kernel
theorem d_str4_2_1 : decode jdk_42_method_149_code 1 = .ok (.invokespecial 1, 3) := by decide +kernel
theorem d_str4_2_4 : decode jdk_42_method_149_code 4 = .ok (.iload_n 3, 1) := by decide +kernel
theorem d_str4_2_5 : decode jdk_42_method_149_code 5 = .ok (.ifCond .ne 22, 3) := by decide +kernel
theorem d_str4_2_27 : decode jdk_42_method_149_code 27 = .ok (.getstatic 38, 3) := by decide +kernel
theorem d_str4_2_30 : decode jdk_42_method_149_code 30 = .ok (.ifCond .eq 28, 3) := by decide +kernel
theorem d_str4_2_33 : decode jdk_42_method_149_code 33 = .ok (.aload_n 1, 1) := by decide +kernel
theorem d_str4_2_34 : decode jdk_42_method_149_code 34 = .ok (.iload_n 2, 1) := by decide +kernel
theorem d_str4_2_35 : decode jdk_42_method_149_code 35 = .ok (.iload_n 3, 1) := by decide +kernel
theorem d_str4_2_36 : decode jdk_42_method_149_code 36 = .ok (.invokestatic 177, 3) := by decide +kernel
theorem d_str4_2_39 : decode jdk_42_method_149_code 39 = .ok (.astore 5, 2) := by decide +kernel
theorem d_str4_2_41 : decode jdk_42_method_149_code 41 = .ok (.aload_n 0, 1) := by decide +kernel
theorem d_str4_2_42 : decode jdk_42_method_149_code 42 = .ok (.aload 5, 2) := by decide +kernel
theorem d_str4_2_44 : decode jdk_42_method_149_code 44 = .ok (.iload_n 3, 1) := by decide +kernel
theorem d_str4_2_45 : decode jdk_42_method_149_code 45 = .ok (.invokestatic 47, 3) := by decide +kernel
theorem d_str4_2_48 : decode jdk_42_method_149_code 48 = .ok (.putfield 15, 3) := by decide +kernel
theorem d_str4_2_51 : decode jdk_42_method_149_code 51 = .ok (.aload_n 0, 1) := by decide +kernel
theorem d_str4_2_52 : decode jdk_42_method_149_code 52 = .ok (.aload 5, 2) := by decide +kernel
theorem d_str4_2_54 : decode jdk_42_method_149_code 54 = .ok (.putfield 9, 3) := by decide +kernel
theorem d_str4_2_57 : decode jdk_42_method_149_code 57 = .ok (.return_, 1) := by decide +kernel
theorem pd_str4_2_0 : parseMethodDescriptor "([CII)[B" = some ⟨[(.array .char), .int, .int], some (.array .byte)⟩ := by decide +kernel
theorem pd_str4_2_1 : parseMethodDescriptor "([BI)B" = some ⟨[(.array .byte), .int], some .byte⟩ := by decide +kernel
def r_str4_2 : Room := { frames := 2, cells := 1, slots := 2, locals := 35 }
def Q_str4_2 (Z : State) (a : Addr) (b : Addr) (kb : ClassId) (cs : Int32) (c0 : Int32) (c1 : Int32) (h0 : Heap) (v : Option Value) (h : Heap) : Prop := ∃ vb : Addr, ∃ k : ClassId, v = none ∧ Keep h0 h [a] ∧ Exa Z h a "java/lang/String" ∧ Fld Z h a "java/lang/String" "value" "[B" (.ref vb) ∧ Fld Z h a "java/lang/String" "coder" "B" (.int (0 : Int32)) ∧ h0.size ≤ vb ∧ oArr Z h vb k .byte [(.int (nar .byte c0)), (.int (nar .byte c1))]
set_option maxRecDepth 65536 in
set_option maxHeartbeats 40000000 in
theorem rm_str4_2 (l : Launch) (Z : State) (a0 : Array Value) (hw : oHw Z a0) (a : Addr) (b : Addr) (kb : ClassId) (cs : Int32) (c0 : Int32) (c1 : Int32) (h0 : Heap) (q0 : Exa Z h0 a "java/lang/String") (q1 : Fld Z h0 a "java/lang/String" "value" "[B" .null) (q2 : Fld Z h0 a "java/lang/String" "coder" "B" (.int (0 : Int32))) (q3 : Z.heap.size ≤ a) (q4 : oArr Z h0 b kb .char [(.int c0), (.int c1)]) (q5 : Sta Z Z.heap "java/lang/String" "COMPACT_STRINGS" "Z" (.int cs)) (q6 : ¬ (cs = (0 : Int32))) (q7 : ¬ ((255 : Int32) < c0)) (q8 : ¬ ((255 : Int32) < c1)) : oMet l Z (⟨"java/lang/String", "<init>", "([CIILjava/lang/Void;)V"⟩ : MethodName) jdk_42_method_149_code 6 none r_str4_2 [] #[(.ref a), (.ref b), (.int (0 : Int32)), (.int (2 : Int32)), .null] h0 (Q_str4_2 Z a b kb cs c0 c1 h0) := by
  refine oEnter (plainFor_of_name (by first | (simp [plainName, overriddenIn]; done) | decide +kernel)) (own := "java/lang/String") (nm := "<init>") rfl rfl (L := #[.val (.ref a), .val (.ref b), .val (.int (0 : Int32)), .val (.int (2 : Int32)), .val .null, .unset]) (fun m => by first | (simp [entryFrame, mkF, argsToLocals, Value.category]; done) | rfl) ?_
  intro pp ee ss mm bb mtd cc T0 K X0
  have E0 := X0.ext0
  refine o_aloadN K X0 d_str4_2_0 (pc' := 1) rfl rfl rfl ?_
  refine o_initObj K X0 (w11 hw) (w12 hw) (w13 hw) d_str4_2_1 (pc' := 4) rfl rfl (by decide) (W := 0) rfl (by decide) ?_
  intro T1 X1
  refine o_iloadN K X1 d_str4_2_4 (pc' := 5) rfl rfl ?_
  refine o_if_ne_t K X1 d_str4_2_5 (by decide) (pc' := 27) (by decide) (by decide) ?_
  refine o_getstatic K X1 (host := "") (Or.inl (w14 hw)) Via.refl (q5.ext X1.ext0) d_str4_2_27 (pc' := 30) rfl ?_
  intro T2 X2
  refine o_if_eq_f K X2 d_str4_2_30 (pc' := 33) rfl q6 ?_
  refine o_aloadN K X2 d_str4_2_33 (pc' := 34) rfl rfl rfl ?_
  refine o_iloadN K X2 d_str4_2_34 (pc' := 35) rfl rfl ?_
  refine o_iloadN K X2 d_str4_2_35 (pc' := 36) rfl rfl ?_
  refine o_static K X2 (y := (⟨"java/lang/StringUTF16", "compress", "([CII)[B"⟩ : MethodName)) (w15 hw) (w16 hw) (w17 hw) (w18 hw) (by decide) (rm_cmp3_2 l Z a0 hw b kb c0 c1 h0 q4 q7 q8) (by decide) rfl (argsL := [(.ref b), (.int (0 : Int32)), (.int (2 : Int32))]) rfl (lenOf pd_str4_2_0 rfl) (W := 0) rfl (by decide) (by decide) (by decide) d_str4_2_36 (pc' := 39) rfl ?_
  intro v3 T3 h3 X3 U3
  obtain ⟨r_3, k_3, rfl, u3_0, u3_1, u3_2⟩ := U3
  have G3_r : Z.heap.size ≤ r_3 := Nat.le_trans (Nat.le_trans E0.1 (Nat.le_refl _)) u3_1
  show oGoes pp ee bb ss Z T3 (mkF mm 39 #[.val (.ref a), .val (.ref b), .val (.int (0 : Int32)), .val (.int (2 : Int32)), .val .null, .unset] [(.ref r_3)]) _ _ _
  refine o_astore K X3 d_str4_2_39 (pc' := 41) rfl rfl (L' := #[.val (.ref a), .val (.ref b), .val (.int (0 : Int32)), .val (.int (2 : Int32)), .val .null, .val (.ref r_3)]) rfl ?_
  refine o_aloadN K X3 d_str4_2_41 (pc' := 42) rfl rfl rfl ?_
  refine o_aload K X3 d_str4_2_42 (pc' := 44) rfl rfl rfl ?_
  refine o_iloadN K X3 d_str4_2_44 (pc' := 45) rfl rfl ?_
  refine o_static K X3 (y := (⟨"java/lang/StringUTF16", "coderFromArrayLen", "([BI)B"⟩ : MethodName)) (w23 hw) (w24 hw) (w17 hw) (w25 hw) (by decide) (rm_coder_2 l Z a0 hw r_3 k_3 (nar .byte c0) (nar .byte c1) h3 u3_2) (by decide) rfl (argsL := [(.ref r_3), (.int (2 : Int32))]) rfl (lenOf pd_str4_2_1 rfl) (W := 1) rfl (by decide) (by decide) (by decide) d_str4_2_45 (pc' := 48) rfl ?_
  intro v4 T4 h4 X4 U4
  obtain ⟨rfl, rfl⟩ := U4
  show oGoes pp ee bb ss Z T4 (mkF mm 48 #[.val (.ref a), .val (.ref b), .val (.int (0 : Int32)), .val (.int (2 : Int32)), .val .null, .val (.ref r_3)] [(.int (0 : Int32)), (.ref a)]) _ _ _
  refine o_putfieldN K X4 (w26 hw) Via.refl (q2.keep u3_0 nin0) (q0.keep u3_0) (Or.inr ⟨(w27 hw), rfl, rfl⟩) (w2 hw) (ty := .byte) (by decide) (v' := (.int (0 : Int32))) (congrArg Value.int (by decide)) (oFitbyte (x := (0 : Int32)) (by decide)) q3 d_str4_2_48 (pc' := 51) rfl ?_
  intro T5 h5 X5 W5
  have F5 := Fld.same W5 (q2.keep u3_0 nin0)
  refine o_aloadN K X5 d_str4_2_51 (pc' := 52) rfl rfl rfl ?_
  refine o_aload K X5 d_str4_2_52 (pc' := 54) rfl rfl rfl ?_
  refine o_putfield K X5 (host := "") (Or.inl (w28 hw)) Via.refl (Fld.other W5 (q1.keep u3_0 nin0) (Or.inr (slot_ne (Or.inr (w29 hw)) (Or.inr (w27 hw)) (by decide) (t := (.array .byte)) (t' := .byte) (by decide) (by decide)))) (Exa.wr W5 (q0.keep u3_0)) (Or.inr ⟨(w29 hw), rfl, rfl⟩) (w2 hw) (ty := (.array .byte)) (by decide) rfl rfl q3 d_str4_2_54 (pc' := 57) rfl ?_
  intro T6 h6 X6 W6
  have F6 := Fld.same W6 (Fld.other W5 (q1.keep u3_0 nin0) (Or.inr (slot_ne (Or.inr (w29 hw)) (Or.inr (w27 hw)) (by decide) (t := (.array .byte)) (t' := .byte) (by decide) (by decide))))
  refine o_return K X6 d_str4_2_57 rfl ?_ (by decide) (by decide)
  exact ⟨r_3, k_3, rfl, ((((Keep.refl h0 [a]).trans u3_0 all0).wr W5 (Or.inl (List.mem_of_getElem? (i := 0) rfl))).wr W6 (Or.inl (List.mem_of_getElem? (i := 0) rfl))), (Exa.wr W6 (Exa.wr W5 (q0.keep u3_0))), F6, (Fld.other W6 F5 (Or.inr (slot_ne (Or.inr (w27 hw)) (Or.inr (w29 hw)) (by decide) (t := .byte) (t' := (.array .byte)) (by decide) (by decide)))), u3_1, ((u3_2.other W5 (Ne.symm (Nat.ne_of_lt (Nat.lt_of_lt_of_le q0.lt u3_1)))).other W6 (Ne.symm (Nat.ne_of_lt (Nat.lt_of_lt_of_le q0.lt u3_1))))⟩
theorem d_str_2_0 : decode jdk_42_method_3_code 0 = .ok (.aload_n 0, 1) := by decide +kernel
theorem d_str_2_1 : decode jdk_42_method_3_code 1 = .ok (.aload_n 1, 1) := by decide +kernel
theorem d_str_2_2 : decode jdk_42_method_3_code 2 = .ok (.iconst 0, 1) := by decide +kernel
theorem d_str_2_3 : decode jdk_42_method_3_code 3 = .ok (.aload_n 1, 1) := by decide +kernel
theorem d_str_2_4 : decode jdk_42_method_3_code 4 = .ok (.arraylength, 1) := by decide +kernel
theorem d_str_2_5 : decode jdk_42_method_3_code 5 = .ok (.aconst_null, 1) := by decide +kernel
theorem d_str_2_6 : decode jdk_42_method_3_code 6 = .ok (.invokespecial 27, 3) := by decide +kernel
theorem d_str_2_9 : decode jdk_42_method_3_code 9 = .ok (.return_, 1) := by decide +kernel
theorem pd_str_2_0 : parseMethodDescriptor "([CIILjava/lang/Void;)V" = some ⟨[(.array .char), .int, .int, (.object "java/lang/Void")], none⟩ := by decide +kernel
def r_str_2 : Room := { frames := 3, cells := 1, slots := 2, locals := 52 }
def Q_str_2 (Z : State) (a : Addr) (b : Addr) (kb : ClassId) (cs : Int32) (c0 : Int32) (c1 : Int32) (h0 : Heap) (v : Option Value) (h : Heap) : Prop := ∃ vb : Addr, ∃ k : ClassId, v = none ∧ Keep h0 h [a] ∧ Exa Z h a "java/lang/String" ∧ Fld Z h a "java/lang/String" "value" "[B" (.ref vb) ∧ Fld Z h a "java/lang/String" "coder" "B" (.int (0 : Int32)) ∧ h0.size ≤ vb ∧ oArr Z h vb k .byte [(.int (nar .byte c0)), (.int (nar .byte c1))]
set_option maxRecDepth 65536 in
set_option maxHeartbeats 40000000 in
theorem rm_str_2 (l : Launch) (Z : State) (a0 : Array Value) (hw : oHw Z a0) (a : Addr) (b : Addr) (kb : ClassId) (cs : Int32) (c0 : Int32) (c1 : Int32) (h0 : Heap) (q0 : Exa Z h0 a "java/lang/String") (q1 : Fld Z h0 a "java/lang/String" "value" "[B" .null) (q2 : Fld Z h0 a "java/lang/String" "coder" "B" (.int (0 : Int32))) (q3 : Z.heap.size ≤ a) (q4 : oArr Z h0 b kb .char [(.int c0), (.int c1)]) (q5 : Sta Z Z.heap "java/lang/String" "COMPACT_STRINGS" "Z" (.int cs)) (q6 : ¬ (cs = (0 : Int32))) (q7 : ¬ ((255 : Int32) < c0)) (q8 : ¬ ((255 : Int32) < c1)) : oMet l Z (⟨"java/lang/String", "<init>", "([C)V"⟩ : MethodName) jdk_42_method_3_code 2 none r_str_2 [] #[(.ref a), (.ref b)] h0 (Q_str_2 Z a b kb cs c0 c1 h0) := by
  refine oEnter (plainFor_of_name (by first | (simp [plainName, overriddenIn]; done) | decide +kernel)) (own := "java/lang/String") (nm := "<init>") rfl rfl (L := #[.val (.ref a), .val (.ref b)]) (fun m => by first | (simp [entryFrame, mkF, argsToLocals, Value.category]; done) | rfl) ?_
  intro pp ee ss mm bb mtd cc T0 K X0
  have E0 := X0.ext0
  refine o_aloadN K X0 d_str_2_0 (pc' := 1) rfl rfl rfl ?_
  refine o_aloadN K X0 d_str_2_1 (pc' := 2) rfl rfl rfl ?_
  refine o_iconst K X0 d_str_2_2 (pc' := 3) rfl (z := (0 : Int32)) rfl ?_
  refine o_aloadN K X0 d_str_2_3 (pc' := 4) rfl rfl rfl ?_
  refine o_arraylength K X0 q4 (z := (2 : Int32)) rfl d_str_2_4 (pc' := 5) rfl ?_
  refine o_aconst_null K X0 d_str_2_5 (pc' := 6) rfl ?_
  refine o_special K X0 (y := (⟨"java/lang/String", "<init>", "([CIILjava/lang/Void;)V"⟩ : MethodName)) rfl (w7 hw) (w8 hw) (w3 hw) (w10 hw) (by decide) (rm_str4_2 l Z a0 hw a b kb cs c0 c1 h0 q0 q1 q2 q3 q4 q5 q6 q7 q8) (by decide) rfl (argsL := [(.ref b), (.int (0 : Int32)), (.int (2 : Int32)), .null]) rfl (lenOf pd_str_2_0 rfl) (W := 0) rfl (by decide) (by decide) (by decide) d_str_2_6 (pc' := 9) rfl ?_
  intro v1 T1 h1 X1 U1
  obtain ⟨vb_1, k_1, rfl, u1_0, u1_1, u1_2, u1_3, u1_4, u1_5⟩ := U1
  have G1_vb : Z.heap.size ≤ vb_1 := Nat.le_trans (Nat.le_trans E0.1 (Nat.le_refl _)) u1_4
  show oGoes pp ee bb ss Z T1 (mkF mm 9 #[.val (.ref a), .val (.ref b)] []) _ _ _
  refine o_return K X1 d_str_2_9 rfl ?_ (by decide) (by decide)
  exact ⟨vb_1, k_1, rfl, ((Keep.refl h0 [a]).trans u1_0 (allS (Or.inl (List.mem_of_getElem? (i := 0) rfl)) all0)), u1_1, u1_2, u1_3, u1_4, u1_5⟩
theorem d_rec_0 : decode jdk_30_method_1_code 0 = .ok (.aload_n 0, 1) := by decide +kernel
theorem d_rec_1 : decode jdk_30_method_1_code 1 = .ok (.invokespecial 1, 3) := by decide +kernel
theorem d_rec_4 : decode jdk_30_method_1_code 4 = .ok (.return_, 1) := by decide +kernel
def r_rec : Room := { frames := 1, cells := 0, slots := 0, locals := 12 }
def Q_rec (Z : State) (a : Addr) (h0 : Heap) (v : Option Value) (h : Heap) : Prop := v = none ∧ h0 = h
set_option maxRecDepth 65536 in
set_option maxHeartbeats 40000000 in
theorem rm_rec (l : Launch) (Z : State) (a0 : Array Value) (hw : oHw Z a0) (a : Addr) (h0 : Heap) : oMet l Z (⟨"java/lang/Record", "<init>", "()V"⟩ : MethodName) jdk_30_method_1_code 1 none r_rec [] #[(.ref a)] h0 (Q_rec Z a h0) := by
  refine oEnter (plainFor_of_name (by first | (simp [plainName, overriddenIn]; done) | decide +kernel)) (own := "java/lang/Record") (nm := "<init>") rfl rfl (L := #[.val (.ref a)]) (fun m => by first | (simp [entryFrame, mkF, argsToLocals, Value.category]; done) | rfl) ?_
  intro pp ee ss mm bb mtd cc T0 K X0
  have E0 := X0.ext0
  refine o_aloadN K X0 d_rec_0 (pc' := 1) rfl rfl rfl ?_
  refine o_initObj K X0 (w55 hw) (w12 hw) (w13 hw) d_rec_1 (pc' := 4) rfl rfl (by decide) (W := 0) rfl (by decide) ?_
  intro T1 X1
  refine o_return K X1 d_rec_4 rfl ?_ (by decide) (by decide)
  exact ⟨rfl, rfl⟩
theorem d_abc_0 : decode jdk_22_method_1_code 0 = .ok (.aload_n 0, 1) := by decide +kernel
theorem d_abc_1 : decode jdk_22_method_1_code 1 = .ok (.invokespecial 1, 3) := by decide +kernel
theorem d_abc_4 : decode jdk_22_method_1_code 4 = .ok (.return_, 1) := by decide +kernel
def r_abc : Room := { frames := 1, cells := 0, slots := 0, locals := 12 }
def Q_abc (Z : State) (a : Addr) (h0 : Heap) (v : Option Value) (h : Heap) : Prop := v = none ∧ h0 = h
set_option maxRecDepth 65536 in
set_option maxHeartbeats 40000000 in
theorem rm_abc (l : Launch) (Z : State) (a0 : Array Value) (hw : oHw Z a0) (a : Addr) (h0 : Heap) : oMet l Z (⟨"java/util/AbstractCollection", "<init>", "()V"⟩ : MethodName) jdk_22_method_1_code 1 none r_abc [] #[(.ref a)] h0 (Q_abc Z a h0) := by
  refine oEnter (plainFor_of_name (by first | (simp [plainName, overriddenIn]; done) | decide +kernel)) (own := "java/util/AbstractCollection") (nm := "<init>") rfl rfl (L := #[.val (.ref a)]) (fun m => by first | (simp [entryFrame, mkF, argsToLocals, Value.category]; done) | rfl) ?_
  intro pp ee ss mm bb mtd cc T0 K X0
  have E0 := X0.ext0
  refine o_aloadN K X0 d_abc_0 (pc' := 1) rfl rfl rfl ?_
  refine o_initObj K X0 (w134 hw) (w12 hw) (w13 hw) d_abc_1 (pc' := 4) rfl rfl (by decide) (W := 0) rfl (by decide) ?_
  intro T1 X1
  refine o_return K X1 d_abc_4 rfl ?_ (by decide) (by decide)
  exact ⟨rfl, rfl⟩
theorem d_abl_0 : decode jdk_39_method_1_code 0 = .ok (.aload_n 0, 1) := by decide +kernel
theorem d_abl_1 : decode jdk_39_method_1_code 1 = .ok (.invokespecial 1, 3) := by decide +kernel
theorem d_abl_4 : decode jdk_39_method_1_code 4 = .ok (.aload_n 0, 1) := by decide +kernel
theorem d_abl_5 : decode jdk_39_method_1_code 5 = .ok (.iconst 0, 1) := by decide +kernel
theorem d_abl_6 : decode jdk_39_method_1_code 6 = .ok (.putfield 7, 3) := by decide +kernel
theorem d_abl_9 : decode jdk_39_method_1_code 9 = .ok (.return_, 1) := by decide +kernel
theorem pd_abl_0 : parseMethodDescriptor "()V" = some ⟨[], none⟩ := by decide +kernel
def r_abl : Room := { frames := 2, cells := 0, slots := 0, locals := 24 }
def Q_abl (Z : State) (a : Addr) (h0 : Heap) (v : Option Value) (h : Heap) : Prop := v = none ∧ Keep h0 h [a] ∧ Exa Z h a "java/util/ArrayList" ∧ Fld Z h a "java/util/AbstractList" "modCount" "I" (.int (0 : Int32)) ∧ Fld Z h a "java/util/ArrayList" "elementData" "[Ljava/lang/Object;" .null
set_option maxRecDepth 65536 in
set_option maxHeartbeats 40000000 in
theorem rm_abl (l : Launch) (Z : State) (a0 : Array Value) (hw : oHw Z a0) (a : Addr) (h0 : Heap) (q0 : Exa Z h0 a "java/util/ArrayList") (q1 : Fld Z h0 a "java/util/AbstractList" "modCount" "I" (.int (0 : Int32))) (q2 : Fld Z h0 a "java/util/ArrayList" "elementData" "[Ljava/lang/Object;" .null) (q3 : Z.heap.size ≤ a) : oMet l Z (⟨"java/util/AbstractList", "<init>", "()V"⟩ : MethodName) jdk_39_method_1_code 1 none r_abl [] #[(.ref a)] h0 (Q_abl Z a h0) := by
  refine oEnter (plainFor_of_name (by first | (simp [plainName, overriddenIn]; done) | decide +kernel)) (own := "java/util/AbstractList") (nm := "<init>") rfl rfl (L := #[.val (.ref a)]) (fun m => by first | (simp [entryFrame, mkF, argsToLocals, Value.category]; done) | rfl) ?_
  intro pp ee ss mm bb mtd cc T0 K X0
  have E0 := X0.ext0
  refine o_aloadN K X0 d_abl_0 (pc' := 1) rfl rfl rfl ?_
  refine o_special K X0 (y := (⟨"java/util/AbstractCollection", "<init>", "()V"⟩ : MethodName)) rfl (w128 hw) (w129 hw) (w132 hw) (w133 hw) (by decide) (rm_abc l Z a0 hw a h0) (by decide) rfl (argsL := []) rfl (lenOf pd_abl_0 rfl) (W := 0) rfl (by decide) (by decide) (by decide) d_abl_1 (pc' := 4) rfl ?_
  intro v1 T1 h1 X1 U1
  obtain ⟨rfl, rfl⟩ := U1
  show oGoes pp ee bb ss Z T1 (mkF mm 4 #[.val (.ref a)] []) _ _ _
  refine o_aloadN K X1 d_abl_4 (pc' := 5) rfl rfl rfl ?_
  refine o_iconst K X1 d_abl_5 (pc' := 6) rfl (z := (0 : Int32)) rfl ?_
  refine o_putfield K X1 (host := "") (Or.inl (w135 hw)) Via.refl q1 q0 (Or.inl (w136 hw)) (w117 hw) (ty := .int) (by decide) rfl rfl q3 d_abl_6 (pc' := 9) rfl ?_
  intro T2 h2 X2 W2
  have F2 := Fld.same W2 q1
  refine o_return K X2 d_abl_9 rfl ?_ (by decide) (by decide)
  exact ⟨rfl, ((Keep.refl h0 [a]).wr W2 (Or.inl (List.mem_of_getElem? (i := 0) rfl))), (Exa.wr W2 q0), F2, (Fld.other W2 q2 (Or.inr (slot_ne (Or.inl (w139 hw)) (Or.inl (w136 hw)) (by decide) (t := (.array (.object "java/lang/Object"))) (t' := .int) (by decide) (by decide))))⟩
theorem d_al_0 : decode jdk_38_method_2_code 0 = .ok (.aload_n 0, 1) := by decide +kernel
theorem d_al_1 : decode jdk_38_method_2_code 1 = .ok (.invokespecial 1, 3) := by decide +kernel
theorem d_al_4 : decode jdk_38_method_2_code 4 = .ok (.aload_n 0, 1) := by decide +kernel
theorem d_al_5 : decode jdk_38_method_2_code 5 = .ok (.getstatic 39, 3) := by decide +kernel
theorem d_al_8 : decode jdk_38_method_2_code 8 = .ok (.putfield 9, 3) := by decide +kernel
theorem d_al_11 : decode jdk_38_method_2_code 11 = .ok (.return_, 1) := by decide +kernel
theorem pd_al_0 : parseMethodDescriptor "()V" = some ⟨[], none⟩ := by decide +kernel
def r_al : Room := { frames := 3, cells := 0, slots := 0, locals := 36 }
def Q_al (Z : State) (a : Addr) (dce : Addr) (h0 : Heap) (v : Option Value) (h : Heap) : Prop := v = none ∧ Keep h0 h [a] ∧ Exa Z h a "java/util/ArrayList" ∧ Fld Z h a "java/util/AbstractList" "modCount" "I" (.int (0 : Int32)) ∧ Fld Z h a "java/util/ArrayList" "elementData" "[Ljava/lang/Object;" (.ref dce)
set_option maxRecDepth 65536 in
set_option maxHeartbeats 40000000 in
theorem rm_al (l : Launch) (Z : State) (a0 : Array Value) (hw : oHw Z a0) (a : Addr) (dce : Addr) (h0 : Heap) (q0 : Exa Z h0 a "java/util/ArrayList") (q1 : Fld Z h0 a "java/util/AbstractList" "modCount" "I" (.int (0 : Int32))) (q2 : Fld Z h0 a "java/util/ArrayList" "elementData" "[Ljava/lang/Object;" .null) (q3 : Z.heap.size ≤ a) (q4 : Sta Z Z.heap "java/util/ArrayList" "DEFAULTCAPACITY_EMPTY_ELEMENTDATA" "[Ljava/lang/Object;" (.ref dce)) : oMet l Z (⟨"java/util/ArrayList", "<init>", "()V"⟩ : MethodName) jdk_38_method_2_code 1 none r_al [] #[(.ref a)] h0 (Q_al Z a dce h0) := by
  refine oEnter (plainFor_of_name (by first | (simp [plainName, overriddenIn]; done) | decide +kernel)) (own := "java/util/ArrayList") (nm := "<init>") rfl rfl (L := #[.val (.ref a)]) (fun m => by first | (simp [entryFrame, mkF, argsToLocals, Value.category]; done) | rfl) ?_
  intro pp ee ss mm bb mtd cc T0 K X0
  have E0 := X0.ext0
  refine o_aloadN K X0 d_al_0 (pc' := 1) rfl rfl rfl ?_
  refine o_special K X0 (y := (⟨"java/util/AbstractList", "<init>", "()V"⟩ : MethodName)) rfl (w122 hw) (w123 hw) (w126 hw) (w127 hw) (by decide) (rm_abl l Z a0 hw a h0 q0 q1 q2 q3) (by decide) rfl (argsL := []) rfl (lenOf pd_al_0 rfl) (W := 0) rfl (by decide) (by decide) (by decide) d_al_1 (pc' := 4) rfl ?_
  intro v1 T1 h1 X1 U1
  obtain ⟨rfl, u1_0, u1_1, u1_2, u1_3⟩ := U1
  show oGoes pp ee bb ss Z T1 (mkF mm 4 #[.val (.ref a)] []) _ _ _
  refine o_aloadN K X1 d_al_4 (pc' := 5) rfl rfl rfl ?_
  refine o_getstatic K X1 (host := "") (Or.inl (w137 hw)) Via.refl (q4.ext X1.ext0) d_al_5 (pc' := 8) rfl ?_
  intro T2 X2
  refine o_putfield K X2 (host := "") (Or.inl (w138 hw)) Via.refl u1_3 u1_1 (Or.inl (w139 hw)) (w117 hw) (ty := (.array (.object "java/lang/Object"))) (by decide) rfl rfl q3 d_al_8 (pc' := 11) rfl ?_
  intro T3 h3 X3 W3
  have F3 := Fld.same W3 u1_3
  refine o_return K X3 d_al_11 rfl ?_ (by decide) (by decide)
  exact ⟨rfl, (((Keep.refl h0 [a]).trans u1_0 (allS (Or.inl (List.mem_of_getElem? (i := 0) rfl)) all0)).wr W3 (Or.inl (List.mem_of_getElem? (i := 0) rfl))), (Exa.wr W3 u1_1), (Fld.other W3 u1_2 (Or.inr (slot_ne (Or.inl (w136 hw)) (Or.inl (w139 hw)) (by decide) (t := .int) (t' := (.array (.object "java/lang/Object"))) (by decide) (by decide)))), F3⟩
theorem d_schema_0 : decode prog_8_method_1_code 0 = .ok (.aload_n 0, 1) := by decide +kernel
theorem d_schema_1 : decode prog_8_method_1_code 1 = .ok (.invokespecial 1, 3) := by decide +kernel
theorem d_schema_4 : decode prog_8_method_1_code 4 = .ok (.aload_n 0, 1) := by decide +kernel
theorem d_schema_5 : decode prog_8_method_1_code 5 = .ok (.aload_n 1, 1) := by decide +kernel
theorem d_schema_6 : decode prog_8_method_1_code 6 = .ok (.putfield 7, 3) := by decide +kernel
theorem d_schema_9 : decode prog_8_method_1_code 9 = .ok (.aload_n 0, 1) := by decide +kernel
theorem d_schema_10 : decode prog_8_method_1_code 10 = .ok (.aload_n 2, 1) := by decide +kernel
theorem d_schema_11 : decode prog_8_method_1_code 11 = .ok (.putfield 13, 3) := by decide +kernel
theorem d_schema_14 : decode prog_8_method_1_code 14 = .ok (.return_, 1) := by decide +kernel
theorem pd_schema_0 : parseMethodDescriptor "()V" = some ⟨[], none⟩ := by decide +kernel
def r_schema : Room := { frames := 2, cells := 0, slots := 0, locals := 24 }
def Q_schema (Z : State) (a : Addr) (x : Value) (y : Value) (h0 : Heap) (v : Option Value) (h : Heap) : Prop := v = none ∧ Keep h0 h [a] ∧ Exa Z h a "com/example/rosterlink/rosterlink/api/Schema"
set_option maxRecDepth 65536 in
set_option maxHeartbeats 40000000 in
theorem rm_schema (l : Launch) (Z : State) (a0 : Array Value) (hw : oHw Z a0) (a : Addr) (x : Value) (y : Value) (h0 : Heap) (q0 : Exa Z h0 a "com/example/rosterlink/rosterlink/api/Schema") (q1 : Fld Z h0 a "com/example/rosterlink/rosterlink/api/Schema" "name" "Ljava/lang/String;" .null) (q2 : Fld Z h0 a "com/example/rosterlink/rosterlink/api/Schema" "definition" "Ljava/util/Map;" .null) (q3 : Z.heap.size ≤ a) (q4 : x.isRef = true) (q5 : y.isRef = true) : oMet l Z (⟨"com/example/rosterlink/rosterlink/api/Schema", "<init>", "(Ljava/lang/String;Ljava/util/Map;)V"⟩ : MethodName) prog_8_method_1_code 3 none r_schema [] #[(.ref a), x, y] h0 (Q_schema Z a x y h0) := by
  refine oEnter (plainFor_of_name (by first | (simp [plainName, overriddenIn]; done) | decide +kernel)) (own := "com/example/rosterlink/rosterlink/api/Schema") (nm := "<init>") rfl rfl (L := #[.val (.ref a), .val x, .val y]) (fun m => by first | (simp [entryFrame, mkF, argsToLocals, oCat1, oCat2, oCat3, oCat4, oCatRef q4, oCatRef q5]; done) | rfl) ?_
  intro pp ee ss mm bb mtd cc T0 K X0
  have E0 := X0.ext0
  refine o_aloadN K X0 d_schema_0 (pc' := 1) rfl rfl rfl ?_
  refine o_special K X0 (y := (⟨"java/lang/Record", "<init>", "()V"⟩ : MethodName)) rfl (w50 hw) (w51 hw) (w53 hw) (w54 hw) (by decide) (rm_rec l Z a0 hw a h0) (by decide) rfl (argsL := []) rfl (lenOf pd_schema_0 rfl) (W := 0) rfl (by decide) (by decide) (by decide) d_schema_1 (pc' := 4) rfl ?_
  intro v1 T1 h1 X1 U1
  obtain ⟨rfl, rfl⟩ := U1
  show oGoes pp ee bb ss Z T1 (mkF mm 4 #[.val (.ref a), .val x, .val y] []) _ _ _
  refine o_aloadN K X1 d_schema_4 (pc' := 5) rfl rfl rfl ?_
  refine o_aloadN K X1 d_schema_5 (pc' := 6) rfl rfl q4 ?_
  refine o_putfield K X1 (host := "") (Or.inl (w56 hw)) Via.refl q1 q0 (Or.inr ⟨(w57 hw), rfl, rfl⟩) (w45 hw) (ty := (.object "java/lang/String")) (by decide) (oNarRef rfl q4) (oFitRef rfl q4) q3 d_schema_6 (pc' := 9) rfl ?_
  intro T2 h2 X2 W2
  have F2 := Fld.same W2 q1
  refine o_aloadN K X2 d_schema_9 (pc' := 10) rfl rfl rfl ?_
  refine o_aloadN K X2 d_schema_10 (pc' := 11) rfl rfl q5 ?_
  refine o_putfield K X2 (host := "") (Or.inl (w58 hw)) Via.refl (Fld.other W2 q2 (Or.inr (slot_ne (Or.inr (w59 hw)) (Or.inr (w57 hw)) (by decide) (t := (.object "java/util/Map")) (t' := (.object "java/lang/String")) (by decide) (by decide)))) (Exa.wr W2 q0) (Or.inr ⟨(w59 hw), rfl, rfl⟩) (w45 hw) (ty := (.object "java/util/Map")) (by decide) (oNarRef rfl q5) (oFitRef rfl q5) q3 d_schema_11 (pc' := 14) rfl ?_
  intro T3 h3 X3 W3
  have F3 := Fld.same W3 (Fld.other W2 q2 (Or.inr (slot_ne (Or.inr (w59 hw)) (Or.inr (w57 hw)) (by decide) (t := (.object "java/util/Map")) (t' := (.object "java/lang/String")) (by decide) (by decide))))
  refine o_return K X3 d_schema_14 rfl ?_ (by decide) (by decide)
  exact ⟨rfl, (((Keep.refl h0 [a]).wr W2 (Or.inl (List.mem_of_getElem? (i := 0) rfl))).wr W3 (Or.inl (List.mem_of_getElem? (i := 0) rfl))), (Exa.wr W3 (Exa.wr W2 q0))⟩
theorem d_op_0 : decode prog_5_method_1_code 0 = .ok (.aload_n 0, 1) := by decide +kernel
theorem d_op_1 : decode prog_5_method_1_code 1 = .ok (.invokespecial 1, 3) := by decide +kernel
theorem d_op_4 : decode prog_5_method_1_code 4 = .ok (.aload_n 0, 1) := by decide +kernel
theorem d_op_5 : decode prog_5_method_1_code 5 = .ok (.aload_n 1, 1) := by decide +kernel
theorem d_op_6 : decode prog_5_method_1_code 6 = .ok (.putfield 7, 3) := by decide +kernel
theorem d_op_9 : decode prog_5_method_1_code 9 = .ok (.aload_n 0, 1) := by decide +kernel
theorem d_op_10 : decode prog_5_method_1_code 10 = .ok (.aload_n 2, 1) := by decide +kernel
theorem d_op_11 : decode prog_5_method_1_code 11 = .ok (.putfield 13, 3) := by decide +kernel
theorem d_op_14 : decode prog_5_method_1_code 14 = .ok (.aload_n 0, 1) := by decide +kernel
theorem d_op_15 : decode prog_5_method_1_code 15 = .ok (.iload_n 3, 1) := by decide +kernel
theorem d_op_16 : decode prog_5_method_1_code 16 = .ok (.putfield 16, 3) := by decide +kernel
theorem d_op_19 : decode prog_5_method_1_code 19 = .ok (.aload_n 0, 1) := by decide +kernel
theorem d_op_20 : decode prog_5_method_1_code 20 = .ok (.aload 4, 2) := by decide +kernel
theorem d_op_22 : decode prog_5_method_1_code 22 = .ok (.putfield 20, 3) := by decide +kernel
theorem d_op_25 : decode prog_5_method_1_code 25 = .ok (.aload_n 0, 1) := by decide +kernel
theorem d_op_26 : decode prog_5_method_1_code 26 = .ok (.aload 5, 2) := by decide +kernel
theorem d_op_28 : decode prog_5_method_1_code 28 = .ok (.putfield 24, 3) := by decide +kernel
theorem d_op_31 : decode prog_5_method_1_code 31 = .ok (.aload_n 0, 1) := by decide +kernel
theorem d_op_32 : decode prog_5_method_1_code 32 = .ok (.aload 6, 2) := by decide +kernel
theorem d_op_34 : decode prog_5_method_1_code 34 = .ok (.putfield 27, 3) := by decide +kernel
theorem d_op_37 : decode prog_5_method_1_code 37 = .ok (.return_, 1) := by decide +kernel
theorem pd_op_0 : parseMethodDescriptor "()V" = some ⟨[], none⟩ := by decide +kernel
def r_op : Room := { frames := 2, cells := 0, slots := 0, locals := 24 }
def Q_op (Z : State) (a : Addr) (xi : Value) (xs : Value) (pk : Int32) (xb : Value) (xa : Value) (xq : Value) (h0 : Heap) (v : Option Value) (h : Heap) : Prop := v = none ∧ Keep h0 h [a] ∧ Exa Z h a "com/example/rosterlink/rosterlink/api/Operation" ∧ Fld Z h a "com/example/rosterlink/rosterlink/api/Operation" "id" "Ljava/lang/String;" xi ∧ Fld Z h a "com/example/rosterlink/rosterlink/api/Operation" "summary" "Ljava/lang/String;" xs ∧ Fld Z h a "com/example/rosterlink/rosterlink/api/Operation" "keyed" "Z" (.int pk) ∧ Fld Z h a "com/example/rosterlink/rosterlink/api/Operation" "body" "Lcom/example/rosterlink/rosterlink/api/Schema;" xb ∧ Fld Z h a "com/example/rosterlink/rosterlink/api/Operation" "answer" "Lcom/example/rosterlink/rosterlink/api/Schema;" xa ∧ Fld Z h a "com/example/rosterlink/rosterlink/api/Operation" "query" "Ljava/util/List;" xq
set_option maxRecDepth 65536 in
set_option maxHeartbeats 40000000 in
theorem rm_op (l : Launch) (Z : State) (a0 : Array Value) (hw : oHw Z a0) (a : Addr) (xi : Value) (xs : Value) (pk : Int32) (xb : Value) (xa : Value) (xq : Value) (h0 : Heap) (q0 : Exa Z h0 a "com/example/rosterlink/rosterlink/api/Operation") (q1 : Fld Z h0 a "com/example/rosterlink/rosterlink/api/Operation" "id" "Ljava/lang/String;" .null) (q2 : Fld Z h0 a "com/example/rosterlink/rosterlink/api/Operation" "summary" "Ljava/lang/String;" .null) (q3 : Fld Z h0 a "com/example/rosterlink/rosterlink/api/Operation" "keyed" "Z" (.int (0 : Int32))) (q4 : Fld Z h0 a "com/example/rosterlink/rosterlink/api/Operation" "body" "Lcom/example/rosterlink/rosterlink/api/Schema;" .null) (q5 : Fld Z h0 a "com/example/rosterlink/rosterlink/api/Operation" "answer" "Lcom/example/rosterlink/rosterlink/api/Schema;" .null) (q6 : Fld Z h0 a "com/example/rosterlink/rosterlink/api/Operation" "query" "Ljava/util/List;" .null) (q7 : Z.heap.size ≤ a) (q8 : xi.isRef = true) (q9 : xs.isRef = true) (q10 : xb.isRef = true) (q11 : xa.isRef = true) (q12 : xq.isRef = true) (q13 : nar .boolean pk = pk) : oMet l Z (⟨"com/example/rosterlink/rosterlink/api/Operation", "<init>", "(Ljava/lang/String;Ljava/lang/String;ZLcom/example/rosterlink/rosterlink/api/Schema;Lcom/example/rosterlink/rosterlink/api/Schema;Ljava/util/List;)V"⟩ : MethodName) prog_5_method_1_code 7 none r_op [] #[(.ref a), xi, xs, (.int pk), xb, xa, xq] h0 (Q_op Z a xi xs pk xb xa xq h0) := by
  refine oEnter (plainFor_of_name (by first | (simp [plainName, overriddenIn]; done) | decide +kernel)) (own := "com/example/rosterlink/rosterlink/api/Operation") (nm := "<init>") rfl rfl (L := #[.val (.ref a), .val xi, .val xs, .val (.int pk), .val xb, .val xa, .val xq]) (fun m => by first | (simp [entryFrame, mkF, argsToLocals, oCat1, oCat2, oCat3, oCat4, oCatRef q8, oCatRef q9, oCatRef q10, oCatRef q11, oCatRef q12]; done) | rfl) ?_
  intro pp ee ss mm bb mtd cc T0 K X0
  have E0 := X0.ext0
  refine o_aloadN K X0 d_op_0 (pc' := 1) rfl rfl rfl ?_
  refine o_special K X0 (y := (⟨"java/lang/Record", "<init>", "()V"⟩ : MethodName)) rfl (w66 hw) (w51 hw) (w53 hw) (w54 hw) (by decide) (rm_rec l Z a0 hw a h0) (by decide) rfl (argsL := []) rfl (lenOf pd_op_0 rfl) (W := 0) rfl (by decide) (by decide) (by decide) d_op_1 (pc' := 4) rfl ?_
  intro v1 T1 h1 X1 U1
  obtain ⟨rfl, rfl⟩ := U1
  show oGoes pp ee bb ss Z T1 (mkF mm 4 #[.val (.ref a), .val xi, .val xs, .val (.int pk), .val xb, .val xa, .val xq] []) _ _ _
  refine o_aloadN K X1 d_op_4 (pc' := 5) rfl rfl rfl ?_
  refine o_aloadN K X1 d_op_5 (pc' := 6) rfl rfl q8 ?_
  refine o_putfield K X1 (host := "") (Or.inl (w67 hw)) Via.refl q1 q0 (Or.inr ⟨(w68 hw), rfl, rfl⟩) (w61 hw) (ty := (.object "java/lang/String")) (by decide) (oNarRef rfl q8) (oFitRef rfl q8) q7 d_op_6 (pc' := 9) rfl ?_
  intro T2 h2 X2 W2
  have F2 := Fld.same W2 q1
  refine o_aloadN K X2 d_op_9 (pc' := 10) rfl rfl rfl ?_
  refine o_aloadN K X2 d_op_10 (pc' := 11) rfl rfl q9 ?_
  refine o_putfield K X2 (host := "") (Or.inl (w69 hw)) Via.refl (Fld.other W2 q2 (Or.inr (slot_ne (Or.inr (w70 hw)) (Or.inr (w68 hw)) (by decide) (t := (.object "java/lang/String")) (t' := (.object "java/lang/String")) (by decide) (by decide)))) (Exa.wr W2 q0) (Or.inr ⟨(w70 hw), rfl, rfl⟩) (w61 hw) (ty := (.object "java/lang/String")) (by decide) (oNarRef rfl q9) (oFitRef rfl q9) q7 d_op_11 (pc' := 14) rfl ?_
  intro T3 h3 X3 W3
  have F3 := Fld.same W3 (Fld.other W2 q2 (Or.inr (slot_ne (Or.inr (w70 hw)) (Or.inr (w68 hw)) (by decide) (t := (.object "java/lang/String")) (t' := (.object "java/lang/String")) (by decide) (by decide))))
  refine o_aloadN K X3 d_op_14 (pc' := 15) rfl rfl rfl ?_
  refine o_iloadN K X3 d_op_15 (pc' := 16) rfl rfl ?_
  refine o_putfieldN K X3 (w71 hw) Via.refl (Fld.other W3 (Fld.other W2 q3 (Or.inr (slot_ne (Or.inr (w72 hw)) (Or.inr (w68 hw)) (by decide) (t := .boolean) (t' := (.object "java/lang/String")) (by decide) (by decide)))) (Or.inr (slot_ne (Or.inr (w72 hw)) (Or.inr (w70 hw)) (by decide) (t := .boolean) (t' := (.object "java/lang/String")) (by decide) (by decide)))) (Exa.wr W3 (Exa.wr W2 q0)) (Or.inr ⟨(w72 hw), rfl, rfl⟩) (w61 hw) (ty := .boolean) (by decide) (v' := (.int pk)) (congrArg Value.int q13) (oFitboolean (x := pk) q13) q7 d_op_16 (pc' := 19) rfl ?_
  intro T4 h4 X4 W4
  have F4 := Fld.same W4 (Fld.other W3 (Fld.other W2 q3 (Or.inr (slot_ne (Or.inr (w72 hw)) (Or.inr (w68 hw)) (by decide) (t := .boolean) (t' := (.object "java/lang/String")) (by decide) (by decide)))) (Or.inr (slot_ne (Or.inr (w72 hw)) (Or.inr (w70 hw)) (by decide) (t := .boolean) (t' := (.object "java/lang/String")) (by decide) (by decide))))
  refine o_aloadN K X4 d_op_19 (pc' := 20) rfl rfl rfl ?_
  refine o_aload K X4 d_op_20 (pc' := 22) rfl rfl q10 ?_
  refine o_putfield K X4 (host := "") (Or.inl (w73 hw)) Via.refl (Fld.other W4 (Fld.other W3 (Fld.other W2 q4 (Or.inr (slot_ne (Or.inr (w74 hw)) (Or.inr (w68 hw)) (by decide) (t := (.object "com/example/rosterlink/rosterlink/api/Schema")) (t' := (.object "java/lang/String")) (by decide) (by decide)))) (Or.inr (slot_ne (Or.inr (w74 hw)) (Or.inr (w70 hw)) (by decide) (t := (.object "com/example/rosterlink/rosterlink/api/Schema")) (t' := (.object "java/lang/String")) (by decide) (by decide)))) (Or.inr (slot_ne (Or.inr (w74 hw)) (Or.inr (w72 hw)) (by decide) (t := (.object "com/example/rosterlink/rosterlink/api/Schema")) (t' := .boolean) (by decide) (by decide)))) (Exa.wr W4 (Exa.wr W3 (Exa.wr W2 q0))) (Or.inr ⟨(w74 hw), rfl, rfl⟩) (w61 hw) (ty := (.object "com/example/rosterlink/rosterlink/api/Schema")) (by decide) (oNarRef rfl q10) (oFitRef rfl q10) q7 d_op_22 (pc' := 25) rfl ?_
  intro T5 h5 X5 W5
  have F5 := Fld.same W5 (Fld.other W4 (Fld.other W3 (Fld.other W2 q4 (Or.inr (slot_ne (Or.inr (w74 hw)) (Or.inr (w68 hw)) (by decide) (t := (.object "com/example/rosterlink/rosterlink/api/Schema")) (t' := (.object "java/lang/String")) (by decide) (by decide)))) (Or.inr (slot_ne (Or.inr (w74 hw)) (Or.inr (w70 hw)) (by decide) (t := (.object "com/example/rosterlink/rosterlink/api/Schema")) (t' := (.object "java/lang/String")) (by decide) (by decide)))) (Or.inr (slot_ne (Or.inr (w74 hw)) (Or.inr (w72 hw)) (by decide) (t := (.object "com/example/rosterlink/rosterlink/api/Schema")) (t' := .boolean) (by decide) (by decide))))
  refine o_aloadN K X5 d_op_25 (pc' := 26) rfl rfl rfl ?_
  refine o_aload K X5 d_op_26 (pc' := 28) rfl rfl q11 ?_
  refine o_putfield K X5 (host := "") (Or.inl (w75 hw)) Via.refl (Fld.other W5 (Fld.other W4 (Fld.other W3 (Fld.other W2 q5 (Or.inr (slot_ne (Or.inr (w76 hw)) (Or.inr (w68 hw)) (by decide) (t := (.object "com/example/rosterlink/rosterlink/api/Schema")) (t' := (.object "java/lang/String")) (by decide) (by decide)))) (Or.inr (slot_ne (Or.inr (w76 hw)) (Or.inr (w70 hw)) (by decide) (t := (.object "com/example/rosterlink/rosterlink/api/Schema")) (t' := (.object "java/lang/String")) (by decide) (by decide)))) (Or.inr (slot_ne (Or.inr (w76 hw)) (Or.inr (w72 hw)) (by decide) (t := (.object "com/example/rosterlink/rosterlink/api/Schema")) (t' := .boolean) (by decide) (by decide)))) (Or.inr (slot_ne (Or.inr (w76 hw)) (Or.inr (w74 hw)) (by decide) (t := (.object "com/example/rosterlink/rosterlink/api/Schema")) (t' := (.object "com/example/rosterlink/rosterlink/api/Schema")) (by decide) (by decide)))) (Exa.wr W5 (Exa.wr W4 (Exa.wr W3 (Exa.wr W2 q0)))) (Or.inr ⟨(w76 hw), rfl, rfl⟩) (w61 hw) (ty := (.object "com/example/rosterlink/rosterlink/api/Schema")) (by decide) (oNarRef rfl q11) (oFitRef rfl q11) q7 d_op_28 (pc' := 31) rfl ?_
  intro T6 h6 X6 W6
  have F6 := Fld.same W6 (Fld.other W5 (Fld.other W4 (Fld.other W3 (Fld.other W2 q5 (Or.inr (slot_ne (Or.inr (w76 hw)) (Or.inr (w68 hw)) (by decide) (t := (.object "com/example/rosterlink/rosterlink/api/Schema")) (t' := (.object "java/lang/String")) (by decide) (by decide)))) (Or.inr (slot_ne (Or.inr (w76 hw)) (Or.inr (w70 hw)) (by decide) (t := (.object "com/example/rosterlink/rosterlink/api/Schema")) (t' := (.object "java/lang/String")) (by decide) (by decide)))) (Or.inr (slot_ne (Or.inr (w76 hw)) (Or.inr (w72 hw)) (by decide) (t := (.object "com/example/rosterlink/rosterlink/api/Schema")) (t' := .boolean) (by decide) (by decide)))) (Or.inr (slot_ne (Or.inr (w76 hw)) (Or.inr (w74 hw)) (by decide) (t := (.object "com/example/rosterlink/rosterlink/api/Schema")) (t' := (.object "com/example/rosterlink/rosterlink/api/Schema")) (by decide) (by decide))))
  refine o_aloadN K X6 d_op_31 (pc' := 32) rfl rfl rfl ?_
  refine o_aload K X6 d_op_32 (pc' := 34) rfl rfl q12 ?_
  refine o_putfield K X6 (host := "") (Or.inl (w77 hw)) Via.refl (Fld.other W6 (Fld.other W5 (Fld.other W4 (Fld.other W3 (Fld.other W2 q6 (Or.inr (slot_ne (Or.inr (w78 hw)) (Or.inr (w68 hw)) (by decide) (t := (.object "java/util/List")) (t' := (.object "java/lang/String")) (by decide) (by decide)))) (Or.inr (slot_ne (Or.inr (w78 hw)) (Or.inr (w70 hw)) (by decide) (t := (.object "java/util/List")) (t' := (.object "java/lang/String")) (by decide) (by decide)))) (Or.inr (slot_ne (Or.inr (w78 hw)) (Or.inr (w72 hw)) (by decide) (t := (.object "java/util/List")) (t' := .boolean) (by decide) (by decide)))) (Or.inr (slot_ne (Or.inr (w78 hw)) (Or.inr (w74 hw)) (by decide) (t := (.object "java/util/List")) (t' := (.object "com/example/rosterlink/rosterlink/api/Schema")) (by decide) (by decide)))) (Or.inr (slot_ne (Or.inr (w78 hw)) (Or.inr (w76 hw)) (by decide) (t := (.object "java/util/List")) (t' := (.object "com/example/rosterlink/rosterlink/api/Schema")) (by decide) (by decide)))) (Exa.wr W6 (Exa.wr W5 (Exa.wr W4 (Exa.wr W3 (Exa.wr W2 q0))))) (Or.inr ⟨(w78 hw), rfl, rfl⟩) (w61 hw) (ty := (.object "java/util/List")) (by decide) (oNarRef rfl q12) (oFitRef rfl q12) q7 d_op_34 (pc' := 37) rfl ?_
  intro T7 h7 X7 W7
  have F7 := Fld.same W7 (Fld.other W6 (Fld.other W5 (Fld.other W4 (Fld.other W3 (Fld.other W2 q6 (Or.inr (slot_ne (Or.inr (w78 hw)) (Or.inr (w68 hw)) (by decide) (t := (.object "java/util/List")) (t' := (.object "java/lang/String")) (by decide) (by decide)))) (Or.inr (slot_ne (Or.inr (w78 hw)) (Or.inr (w70 hw)) (by decide) (t := (.object "java/util/List")) (t' := (.object "java/lang/String")) (by decide) (by decide)))) (Or.inr (slot_ne (Or.inr (w78 hw)) (Or.inr (w72 hw)) (by decide) (t := (.object "java/util/List")) (t' := .boolean) (by decide) (by decide)))) (Or.inr (slot_ne (Or.inr (w78 hw)) (Or.inr (w74 hw)) (by decide) (t := (.object "java/util/List")) (t' := (.object "com/example/rosterlink/rosterlink/api/Schema")) (by decide) (by decide)))) (Or.inr (slot_ne (Or.inr (w78 hw)) (Or.inr (w76 hw)) (by decide) (t := (.object "java/util/List")) (t' := (.object "com/example/rosterlink/rosterlink/api/Schema")) (by decide) (by decide))))
  refine o_return K X7 d_op_37 rfl ?_ (by decide) (by decide)
  exact ⟨rfl, (((((((Keep.refl h0 [a]).wr W2 (Or.inl (List.mem_of_getElem? (i := 0) rfl))).wr W3 (Or.inl (List.mem_of_getElem? (i := 0) rfl))).wr W4 (Or.inl (List.mem_of_getElem? (i := 0) rfl))).wr W5 (Or.inl (List.mem_of_getElem? (i := 0) rfl))).wr W6 (Or.inl (List.mem_of_getElem? (i := 0) rfl))).wr W7 (Or.inl (List.mem_of_getElem? (i := 0) rfl))), (Exa.wr W7 (Exa.wr W6 (Exa.wr W5 (Exa.wr W4 (Exa.wr W3 (Exa.wr W2 q0)))))), (Fld.other W7 (Fld.other W6 (Fld.other W5 (Fld.other W4 (Fld.other W3 F2 (Or.inr (slot_ne (Or.inr (w68 hw)) (Or.inr (w70 hw)) (by decide) (t := (.object "java/lang/String")) (t' := (.object "java/lang/String")) (by decide) (by decide)))) (Or.inr (slot_ne (Or.inr (w68 hw)) (Or.inr (w72 hw)) (by decide) (t := (.object "java/lang/String")) (t' := .boolean) (by decide) (by decide)))) (Or.inr (slot_ne (Or.inr (w68 hw)) (Or.inr (w74 hw)) (by decide) (t := (.object "java/lang/String")) (t' := (.object "com/example/rosterlink/rosterlink/api/Schema")) (by decide) (by decide)))) (Or.inr (slot_ne (Or.inr (w68 hw)) (Or.inr (w76 hw)) (by decide) (t := (.object "java/lang/String")) (t' := (.object "com/example/rosterlink/rosterlink/api/Schema")) (by decide) (by decide)))) (Or.inr (slot_ne (Or.inr (w68 hw)) (Or.inr (w78 hw)) (by decide) (t := (.object "java/lang/String")) (t' := (.object "java/util/List")) (by decide) (by decide)))), (Fld.other W7 (Fld.other W6 (Fld.other W5 (Fld.other W4 F3 (Or.inr (slot_ne (Or.inr (w70 hw)) (Or.inr (w72 hw)) (by decide) (t := (.object "java/lang/String")) (t' := .boolean) (by decide) (by decide)))) (Or.inr (slot_ne (Or.inr (w70 hw)) (Or.inr (w74 hw)) (by decide) (t := (.object "java/lang/String")) (t' := (.object "com/example/rosterlink/rosterlink/api/Schema")) (by decide) (by decide)))) (Or.inr (slot_ne (Or.inr (w70 hw)) (Or.inr (w76 hw)) (by decide) (t := (.object "java/lang/String")) (t' := (.object "com/example/rosterlink/rosterlink/api/Schema")) (by decide) (by decide)))) (Or.inr (slot_ne (Or.inr (w70 hw)) (Or.inr (w78 hw)) (by decide) (t := (.object "java/lang/String")) (t' := (.object "java/util/List")) (by decide) (by decide)))), (Fld.other W7 (Fld.other W6 (Fld.other W5 F4 (Or.inr (slot_ne (Or.inr (w72 hw)) (Or.inr (w74 hw)) (by decide) (t := .boolean) (t' := (.object "com/example/rosterlink/rosterlink/api/Schema")) (by decide) (by decide)))) (Or.inr (slot_ne (Or.inr (w72 hw)) (Or.inr (w76 hw)) (by decide) (t := .boolean) (t' := (.object "com/example/rosterlink/rosterlink/api/Schema")) (by decide) (by decide)))) (Or.inr (slot_ne (Or.inr (w72 hw)) (Or.inr (w78 hw)) (by decide) (t := .boolean) (t' := (.object "java/util/List")) (by decide) (by decide)))), (Fld.other W7 (Fld.other W6 F5 (Or.inr (slot_ne (Or.inr (w74 hw)) (Or.inr (w76 hw)) (by decide) (t := (.object "com/example/rosterlink/rosterlink/api/Schema")) (t' := (.object "com/example/rosterlink/rosterlink/api/Schema")) (by decide) (by decide)))) (Or.inr (slot_ne (Or.inr (w74 hw)) (Or.inr (w78 hw)) (by decide) (t := (.object "com/example/rosterlink/rosterlink/api/Schema")) (t' := (.object "java/util/List")) (by decide) (by decide)))), (Fld.other W7 F6 (Or.inr (slot_ne (Or.inr (w76 hw)) (Or.inr (w78 hw)) (by decide) (t := (.object "com/example/rosterlink/rosterlink/api/Schema")) (t' := (.object "java/util/List")) (by decide) (by decide)))), F7⟩
theorem d_takes_0 : decode prog_5_method_3_code 0 = .ok (.new 8, 3) := by decide +kernel
theorem d_takes_3 : decode prog_5_method_3_code 3 = .ok (.dup, 1) := by decide +kernel
theorem d_takes_4 : decode prog_5_method_3_code 4 = .ok (.aload_n 0, 1) := by decide +kernel
theorem d_takes_5 : decode prog_5_method_3_code 5 = .ok (.getfield 7, 3) := by decide +kernel
theorem d_takes_8 : decode prog_5_method_3_code 8 = .ok (.aload_n 0, 1) := by decide +kernel
theorem d_takes_9 : decode prog_5_method_3_code 9 = .ok (.getfield 13, 3) := by decide +kernel
theorem d_takes_12 : decode prog_5_method_3_code 12 = .ok (.aload_n 0, 1) := by decide +kernel
theorem d_takes_13 : decode prog_5_method_3_code 13 = .ok (.getfield 16, 3) := by decide +kernel
theorem d_takes_16 : decode prog_5_method_3_code 16 = .ok (.aload_n 1, 1) := by decide +kernel
theorem d_takes_17 : decode prog_5_method_3_code 17 = .ok (.aload_n 0, 1) := by decide +kernel
theorem d_takes_18 : decode prog_5_method_3_code 18 = .ok (.getfield 24, 3) := by decide +kernel
theorem d_takes_21 : decode prog_5_method_3_code 21 = .ok (.aload_n 0, 1) := by decide +kernel
theorem d_takes_22 : decode prog_5_method_3_code 22 = .ok (.getfield 27, 3) := by decide +kernel
theorem d_takes_25 : decode prog_5_method_3_code 25 = .ok (.invokespecial 37, 3) := by decide +kernel
theorem d_takes_28 : decode prog_5_method_3_code 28 = .ok (.areturn, 1) := by decide +kernel
theorem pd_takes_0 : parseMethodDescriptor "(Ljava/lang/String;Ljava/lang/String;ZLcom/example/rosterlink/rosterlink/api/Schema;Lcom/example/rosterlink/rosterlink/api/Schema;Ljava/util/List;)V" = some ⟨[(.object "java/lang/String"), (.object "java/lang/String"), .boolean, (.object "com/example/rosterlink/rosterlink/api/Schema"), (.object "com/example/rosterlink/rosterlink/api/Schema"), (.object "java/util/List")], none⟩ := by decide +kernel
def r_takes : Room := { frames := 3, cells := 1, slots := 6, locals := 43 }
def Q_takes (Z : State) (a : Addr) (xf : Value) (xi : Value) (xs : Value) (pk : Int32) (xb : Value) (xa : Value) (xq : Value) (h0 : Heap) (v : Option Value) (h : Heap) : Prop := ∃ r : Addr, v = some (.ref r) ∧ Keep h0 h [] ∧ h0.size ≤ r ∧ Exa Z h r "com/example/rosterlink/rosterlink/api/Operation" ∧ Fld Z h r "com/example/rosterlink/rosterlink/api/Operation" "id" "Ljava/lang/String;" xi ∧ Fld Z h r "com/example/rosterlink/rosterlink/api/Operation" "summary" "Ljava/lang/String;" xs ∧ Fld Z h r "com/example/rosterlink/rosterlink/api/Operation" "keyed" "Z" (.int pk) ∧ Fld Z h r "com/example/rosterlink/rosterlink/api/Operation" "body" "Lcom/example/rosterlink/rosterlink/api/Schema;" xf ∧ Fld Z h r "com/example/rosterlink/rosterlink/api/Operation" "answer" "Lcom/example/rosterlink/rosterlink/api/Schema;" xa ∧ Fld Z h r "com/example/rosterlink/rosterlink/api/Operation" "query" "Ljava/util/List;" xq
set_option maxRecDepth 65536 in
set_option maxHeartbeats 40000000 in
theorem rm_takes (l : Launch) (Z : State) (a0 : Array Value) (hw : oHw Z a0) (a : Addr) (xf : Value) (xi : Value) (xs : Value) (pk : Int32) (xb : Value) (xa : Value) (xq : Value) (h0 : Heap) (q0 : Exa Z h0 a "com/example/rosterlink/rosterlink/api/Operation") (q1 : Fld Z h0 a "com/example/rosterlink/rosterlink/api/Operation" "id" "Ljava/lang/String;" xi) (q2 : Fld Z h0 a "com/example/rosterlink/rosterlink/api/Operation" "summary" "Ljava/lang/String;" xs) (q3 : Fld Z h0 a "com/example/rosterlink/rosterlink/api/Operation" "keyed" "Z" (.int pk)) (q4 : Fld Z h0 a "com/example/rosterlink/rosterlink/api/Operation" "body" "Lcom/example/rosterlink/rosterlink/api/Schema;" xb) (q5 : Fld Z h0 a "com/example/rosterlink/rosterlink/api/Operation" "answer" "Lcom/example/rosterlink/rosterlink/api/Schema;" xa) (q6 : Fld Z h0 a "com/example/rosterlink/rosterlink/api/Operation" "query" "Ljava/util/List;" xq) (q7 : xi.isRef = true) (q8 : xs.isRef = true) (q9 : xb.isRef = true) (q10 : xa.isRef = true) (q11 : xq.isRef = true) (q12 : nar .boolean pk = pk) (q13 : xf.isRef = true) : oMet l Z (⟨"com/example/rosterlink/rosterlink/api/Operation", "takes", "(Lcom/example/rosterlink/rosterlink/api/Schema;)Lcom/example/rosterlink/rosterlink/api/Operation;"⟩ : MethodName) prog_5_method_3_code 2 (some (.object "com/example/rosterlink/rosterlink/api/Operation")) r_takes [] #[(.ref a), xf] h0 (Q_takes Z a xf xi xs pk xb xa xq h0) := by
  refine oEnter (plainFor_of_name (by first | (simp [plainName, overriddenIn]; done) | decide +kernel)) (own := "com/example/rosterlink/rosterlink/api/Operation") (nm := "takes") rfl rfl (L := #[.val (.ref a), .val xf]) (fun m => by first | (simp [entryFrame, mkF, argsToLocals, oCat1, oCat2, oCat3, oCat4, oCatRef q7, oCatRef q8, oCatRef q9, oCatRef q10, oCatRef q11, oCatRef q13]; done) | rfl) ?_
  intro pp ee ss mm bb mtd cc T0 K X0
  have E0 := X0.ext0
  refine o_new K X0 (w84 hw) (w61 hw) (w62 hw) d_takes_0 (pc' := 3) rfl (by decide) (by decide) ?_
  intro T1 h1 b1 X1 g1 E1 A1 D1 G1
  have F1_id : Fld Z h1 b1 "com/example/rosterlink/rosterlink/api/Operation" "id" "Ljava/lang/String;" .null := (D1 (Or.inr (w68 hw)) (ty := (.object "java/lang/String")) (by decide))
  have F1_summary : Fld Z h1 b1 "com/example/rosterlink/rosterlink/api/Operation" "summary" "Ljava/lang/String;" .null := (D1 (Or.inr (w70 hw)) (ty := (.object "java/lang/String")) (by decide))
  have F1_keyed : Fld Z h1 b1 "com/example/rosterlink/rosterlink/api/Operation" "keyed" "Z" (.int (0 : Int32)) := (D1 (Or.inr (w72 hw)) (ty := .boolean) (by decide))
  have F1_body : Fld Z h1 b1 "com/example/rosterlink/rosterlink/api/Operation" "body" "Lcom/example/rosterlink/rosterlink/api/Schema;" .null := (D1 (Or.inr (w74 hw)) (ty := (.object "com/example/rosterlink/rosterlink/api/Schema")) (by decide))
  have F1_answer : Fld Z h1 b1 "com/example/rosterlink/rosterlink/api/Operation" "answer" "Lcom/example/rosterlink/rosterlink/api/Schema;" .null := (D1 (Or.inr (w76 hw)) (ty := (.object "com/example/rosterlink/rosterlink/api/Schema")) (by decide))
  have F1_query : Fld Z h1 b1 "com/example/rosterlink/rosterlink/api/Operation" "query" "Ljava/util/List;" .null := (D1 (Or.inr (w78 hw)) (ty := (.object "java/util/List")) (by decide))
  refine o_dup K X1 d_takes_3 (pc' := 4) rfl rfl ?_
  refine o_aloadN K X1 d_takes_4 (pc' := 5) rfl rfl rfl ?_
  refine o_getfield K X1 (host := "") (Or.inl (w67 hw)) Via.refl (q1.ext E1) d_takes_5 (pc' := 8) rfl ?_
  intro T2 X2
  refine o_aloadN K X2 d_takes_8 (pc' := 9) rfl rfl rfl ?_
  refine o_getfield K X2 (host := "") (Or.inl (w69 hw)) Via.refl (q2.ext E1) d_takes_9 (pc' := 12) rfl ?_
  intro T3 X3
  refine o_aloadN K X3 d_takes_12 (pc' := 13) rfl rfl rfl ?_
  refine o_getfield K X3 (host := "") (Or.inl (w71 hw)) Via.refl (q3.ext E1) d_takes_13 (pc' := 16) rfl ?_
  intro T4 X4
  refine o_aloadN K X4 d_takes_16 (pc' := 17) rfl rfl q13 ?_
  refine o_aloadN K X4 d_takes_17 (pc' := 18) rfl rfl rfl ?_
  refine o_getfield K X4 (host := "") (Or.inl (w75 hw)) Via.refl (q5.ext E1) d_takes_18 (pc' := 21) rfl ?_
  intro T5 X5
  refine o_aloadN K X5 d_takes_21 (pc' := 22) rfl rfl rfl ?_
  refine o_getfield K X5 (host := "") (Or.inl (w77 hw)) Via.refl (q6.ext E1) d_takes_22 (pc' := 25) rfl ?_
  intro T6 X6
  refine o_special K X6 (y := (⟨"com/example/rosterlink/rosterlink/api/Operation", "<init>", "(Ljava/lang/String;Ljava/lang/String;ZLcom/example/rosterlink/rosterlink/api/Schema;Lcom/example/rosterlink/rosterlink/api/Schema;Ljava/util/List;)V"⟩ : MethodName)) rfl (w85 hw) (w64 hw) (w62 hw) (w65 hw) (by decide) (rm_op l Z a0 hw b1 xi xs pk xf xa xq h1 A1 F1_id F1_summary F1_keyed F1_body F1_answer F1_query G1 q7 q8 q13 q10 q11 q12) (by decide) rfl (argsL := [xi, xs, (.int pk), xf, xa, xq]) rfl (lenOf pd_takes_0 rfl) (W := 1) rfl (by decide) (by decide) (by decide) d_takes_25 (pc' := 28) rfl ?_
  intro v7 T7 h7 X7 U7
  obtain ⟨rfl, u7_0, u7_1, u7_2, u7_3, u7_4, u7_5, u7_6, u7_7⟩ := U7
  show oGoes pp ee bb ss Z T7 (mkF mm 28 #[.val (.ref a), .val xf] [(.ref b1)]) _ _ _
  refine o_areturn K X7 (t := (.object "com/example/rosterlink/rosterlink/api/Operation")) d_takes_28 rfl rfl rfl ?_ (by decide) (by decide)
  exact ⟨b1, rfl, (((Keep.refl h0 []).ext E1).trans u7_0 (allS (Or.inr (Nat.le_of_eq g1.symm)) all0)), (Nat.le_of_eq g1.symm), u7_1, u7_2, u7_3, u7_4, u7_5, u7_6, u7_7⟩
theorem d_g_id_0 : decode prog_5_method_9_code 0 = .ok (.aload_n 0, 1) := by decide +kernel
theorem d_g_id_1 : decode prog_5_method_9_code 1 = .ok (.getfield 7, 3) := by decide +kernel
theorem d_g_id_4 : decode prog_5_method_9_code 4 = .ok (.areturn, 1) := by decide +kernel
def r_g_id : Room := { frames := 0, cells := 0, slots := 0, locals := 0 }
def Q_g_id (Z : State) (a : Addr) (x : Value) (h0 : Heap) (v : Option Value) (h : Heap) : Prop := v = some x ∧ h0 = h
set_option maxRecDepth 65536 in
set_option maxHeartbeats 40000000 in
theorem rm_g_id (l : Launch) (Z : State) (a0 : Array Value) (hw : oHw Z a0) (a : Addr) (x : Value) (h0 : Heap) (q0 : Fld Z h0 a "com/example/rosterlink/rosterlink/api/Operation" "id" "Ljava/lang/String;" x) (q1 : x.isRef = true) : oMet l Z (⟨"com/example/rosterlink/rosterlink/api/Operation", "id", "()Ljava/lang/String;"⟩ : MethodName) prog_5_method_9_code 1 (some (.object "java/lang/String")) r_g_id [] #[(.ref a)] h0 (Q_g_id Z a x h0) := by
  refine oEnter (plainFor_of_name (by first | (simp [plainName, overriddenIn]; done) | decide +kernel)) (own := "com/example/rosterlink/rosterlink/api/Operation") (nm := "id") rfl rfl (L := #[.val (.ref a)]) (fun m => by first | (simp [entryFrame, mkF, argsToLocals, Value.category, oCatRef q1]; done) | rfl) ?_
  intro pp ee ss mm bb mtd cc T0 K X0
  have E0 := X0.ext0
  refine o_aloadN K X0 d_g_id_0 (pc' := 1) rfl rfl rfl ?_
  refine o_getfield K X0 (host := "") (Or.inl (w67 hw)) Via.refl q0 d_g_id_1 (pc' := 4) rfl ?_
  intro T1 X1
  refine o_areturn K X1 (t := (.object "java/lang/String")) d_g_id_4 rfl rfl q1 ?_ (by decide) (by decide)
  exact ⟨rfl, rfl⟩
theorem d_g_summary_0 : decode prog_5_method_10_code 0 = .ok (.aload_n 0, 1) := by decide +kernel
theorem d_g_summary_1 : decode prog_5_method_10_code 1 = .ok (.getfield 13, 3) := by decide +kernel
theorem d_g_summary_4 : decode prog_5_method_10_code 4 = .ok (.areturn, 1) := by decide +kernel
def r_g_summary : Room := { frames := 0, cells := 0, slots := 0, locals := 0 }
def Q_g_summary (Z : State) (a : Addr) (x : Value) (h0 : Heap) (v : Option Value) (h : Heap) : Prop := v = some x ∧ h0 = h
set_option maxRecDepth 65536 in
set_option maxHeartbeats 40000000 in
theorem rm_g_summary (l : Launch) (Z : State) (a0 : Array Value) (hw : oHw Z a0) (a : Addr) (x : Value) (h0 : Heap) (q0 : Fld Z h0 a "com/example/rosterlink/rosterlink/api/Operation" "summary" "Ljava/lang/String;" x) (q1 : x.isRef = true) : oMet l Z (⟨"com/example/rosterlink/rosterlink/api/Operation", "summary", "()Ljava/lang/String;"⟩ : MethodName) prog_5_method_10_code 1 (some (.object "java/lang/String")) r_g_summary [] #[(.ref a)] h0 (Q_g_summary Z a x h0) := by
  refine oEnter (plainFor_of_name (by first | (simp [plainName, overriddenIn]; done) | decide +kernel)) (own := "com/example/rosterlink/rosterlink/api/Operation") (nm := "summary") rfl rfl (L := #[.val (.ref a)]) (fun m => by first | (simp [entryFrame, mkF, argsToLocals, Value.category, oCatRef q1]; done) | rfl) ?_
  intro pp ee ss mm bb mtd cc T0 K X0
  have E0 := X0.ext0
  refine o_aloadN K X0 d_g_summary_0 (pc' := 1) rfl rfl rfl ?_
  refine o_getfield K X0 (host := "") (Or.inl (w69 hw)) Via.refl q0 d_g_summary_1 (pc' := 4) rfl ?_
  intro T1 X1
  refine o_areturn K X1 (t := (.object "java/lang/String")) d_g_summary_4 rfl rfl q1 ?_ (by decide) (by decide)
  exact ⟨rfl, rfl⟩
theorem d_g_keyed_0 : decode prog_5_method_11_code 0 = .ok (.aload_n 0, 1) := by decide +kernel
theorem d_g_keyed_1 : decode prog_5_method_11_code 1 = .ok (.getfield 16, 3) := by decide +kernel
theorem d_g_keyed_4 : decode prog_5_method_11_code 4 = .ok (.ireturn, 1) := by decide +kernel
def r_g_keyed : Room := { frames := 0, cells := 0, slots := 0, locals := 0 }
def Q_g_keyed (Z : State) (a : Addr) (pk : Int32) (h0 : Heap) (v : Option Value) (h : Heap) : Prop := v = some (.int pk) ∧ h0 = h
set_option maxRecDepth 65536 in
set_option maxHeartbeats 40000000 in
theorem rm_g_keyed (l : Launch) (Z : State) (a0 : Array Value) (hw : oHw Z a0) (a : Addr) (pk : Int32) (h0 : Heap) (q0 : Fld Z h0 a "com/example/rosterlink/rosterlink/api/Operation" "keyed" "Z" (.int pk)) (q1 : nar .boolean pk = pk) : oMet l Z (⟨"com/example/rosterlink/rosterlink/api/Operation", "keyed", "()Z"⟩ : MethodName) prog_5_method_11_code 1 (some .boolean) r_g_keyed [] #[(.ref a)] h0 (Q_g_keyed Z a pk h0) := by
  refine oEnter (plainFor_of_name (by first | (simp [plainName, overriddenIn]; done) | decide +kernel)) (own := "com/example/rosterlink/rosterlink/api/Operation") (nm := "keyed") rfl rfl (L := #[.val (.ref a)]) (fun m => by first | (simp [entryFrame, mkF, argsToLocals, Value.category]; done) | rfl) ?_
  intro pp ee ss mm bb mtd cc T0 K X0
  have E0 := X0.ext0
  refine o_aloadN K X0 d_g_keyed_0 (pc' := 1) rfl rfl rfl ?_
  refine o_getfield K X0 (host := "") (Or.inl (w71 hw)) Via.refl q0 d_g_keyed_1 (pc' := 4) rfl ?_
  intro T1 X1
  refine o_ireturnN K X1 .boolean d_g_keyed_4 rfl (by simp) (z' := pk) q1 ?_ (by decide) (by decide)
  exact ⟨rfl, rfl⟩
theorem d_g_body_0 : decode prog_5_method_12_code 0 = .ok (.aload_n 0, 1) := by decide +kernel
theorem d_g_body_1 : decode prog_5_method_12_code 1 = .ok (.getfield 20, 3) := by decide +kernel
theorem d_g_body_4 : decode prog_5_method_12_code 4 = .ok (.areturn, 1) := by decide +kernel
def r_g_body : Room := { frames := 0, cells := 0, slots := 0, locals := 0 }
def Q_g_body (Z : State) (a : Addr) (x : Value) (h0 : Heap) (v : Option Value) (h : Heap) : Prop := v = some x ∧ h0 = h
set_option maxRecDepth 65536 in
set_option maxHeartbeats 40000000 in
theorem rm_g_body (l : Launch) (Z : State) (a0 : Array Value) (hw : oHw Z a0) (a : Addr) (x : Value) (h0 : Heap) (q0 : Fld Z h0 a "com/example/rosterlink/rosterlink/api/Operation" "body" "Lcom/example/rosterlink/rosterlink/api/Schema;" x) (q1 : x.isRef = true) : oMet l Z (⟨"com/example/rosterlink/rosterlink/api/Operation", "body", "()Lcom/example/rosterlink/rosterlink/api/Schema;"⟩ : MethodName) prog_5_method_12_code 1 (some (.object "com/example/rosterlink/rosterlink/api/Schema")) r_g_body [] #[(.ref a)] h0 (Q_g_body Z a x h0) := by
  refine oEnter (plainFor_of_name (by first | (simp [plainName, overriddenIn]; done) | decide +kernel)) (own := "com/example/rosterlink/rosterlink/api/Operation") (nm := "body") rfl rfl (L := #[.val (.ref a)]) (fun m => by first | (simp [entryFrame, mkF, argsToLocals, Value.category, oCatRef q1]; done) | rfl) ?_
  intro pp ee ss mm bb mtd cc T0 K X0
  have E0 := X0.ext0
  refine o_aloadN K X0 d_g_body_0 (pc' := 1) rfl rfl rfl ?_
  refine o_getfield K X0 (host := "") (Or.inl (w73 hw)) Via.refl q0 d_g_body_1 (pc' := 4) rfl ?_
  intro T1 X1
  refine o_areturn K X1 (t := (.object "com/example/rosterlink/rosterlink/api/Schema")) d_g_body_4 rfl rfl q1 ?_ (by decide) (by decide)
  exact ⟨rfl, rfl⟩
theorem d_g_answer_0 : decode prog_5_method_13_code 0 = .ok (.aload_n 0, 1) := by decide +kernel
theorem d_g_answer_1 : decode prog_5_method_13_code 1 = .ok (.getfield 24, 3) := by decide +kernel
theorem d_g_answer_4 : decode prog_5_method_13_code 4 = .ok (.areturn, 1) := by decide +kernel
def r_g_answer : Room := { frames := 0, cells := 0, slots := 0, locals := 0 }
def Q_g_answer (Z : State) (a : Addr) (x : Value) (h0 : Heap) (v : Option Value) (h : Heap) : Prop := v = some x ∧ h0 = h
set_option maxRecDepth 65536 in
set_option maxHeartbeats 40000000 in
theorem rm_g_answer (l : Launch) (Z : State) (a0 : Array Value) (hw : oHw Z a0) (a : Addr) (x : Value) (h0 : Heap) (q0 : Fld Z h0 a "com/example/rosterlink/rosterlink/api/Operation" "answer" "Lcom/example/rosterlink/rosterlink/api/Schema;" x) (q1 : x.isRef = true) : oMet l Z (⟨"com/example/rosterlink/rosterlink/api/Operation", "answer", "()Lcom/example/rosterlink/rosterlink/api/Schema;"⟩ : MethodName) prog_5_method_13_code 1 (some (.object "com/example/rosterlink/rosterlink/api/Schema")) r_g_answer [] #[(.ref a)] h0 (Q_g_answer Z a x h0) := by
  refine oEnter (plainFor_of_name (by first | (simp [plainName, overriddenIn]; done) | decide +kernel)) (own := "com/example/rosterlink/rosterlink/api/Operation") (nm := "answer") rfl rfl (L := #[.val (.ref a)]) (fun m => by first | (simp [entryFrame, mkF, argsToLocals, Value.category, oCatRef q1]; done) | rfl) ?_
  intro pp ee ss mm bb mtd cc T0 K X0
  have E0 := X0.ext0
  refine o_aloadN K X0 d_g_answer_0 (pc' := 1) rfl rfl rfl ?_
  refine o_getfield K X0 (host := "") (Or.inl (w75 hw)) Via.refl q0 d_g_answer_1 (pc' := 4) rfl ?_
  intro T1 X1
  refine o_areturn K X1 (t := (.object "com/example/rosterlink/rosterlink/api/Schema")) d_g_answer_4 rfl rfl q1 ?_ (by decide) (by decide)
  exact ⟨rfl, rfl⟩
theorem d_g_query_0 : decode prog_5_method_14_code 0 = .ok (.aload_n 0, 1) := by decide +kernel
theorem d_g_query_1 : decode prog_5_method_14_code 1 = .ok (.getfield 27, 3) := by decide +kernel
theorem d_g_query_4 : decode prog_5_method_14_code 4 = .ok (.areturn, 1) := by decide +kernel
def r_g_query : Room := { frames := 0, cells := 0, slots := 0, locals := 0 }
def Q_g_query (Z : State) (a : Addr) (x : Value) (h0 : Heap) (v : Option Value) (h : Heap) : Prop := v = some x ∧ h0 = h
set_option maxRecDepth 65536 in
set_option maxHeartbeats 40000000 in
theorem rm_g_query (l : Launch) (Z : State) (a0 : Array Value) (hw : oHw Z a0) (a : Addr) (x : Value) (h0 : Heap) (q0 : Fld Z h0 a "com/example/rosterlink/rosterlink/api/Operation" "query" "Ljava/util/List;" x) (q1 : x.isRef = true) : oMet l Z (⟨"com/example/rosterlink/rosterlink/api/Operation", "query", "()Ljava/util/List;"⟩ : MethodName) prog_5_method_14_code 1 (some (.object "java/util/List")) r_g_query [] #[(.ref a)] h0 (Q_g_query Z a x h0) := by
  refine oEnter (plainFor_of_name (by first | (simp [plainName, overriddenIn]; done) | decide +kernel)) (own := "com/example/rosterlink/rosterlink/api/Operation") (nm := "query") rfl rfl (L := #[.val (.ref a)]) (fun m => by first | (simp [entryFrame, mkF, argsToLocals, Value.category, oCatRef q1]; done) | rfl) ?_
  intro pp ee ss mm bb mtd cc T0 K X0
  have E0 := X0.ext0
  refine o_aloadN K X0 d_g_query_0 (pc' := 1) rfl rfl rfl ?_
  refine o_getfield K X0 (host := "") (Or.inl (w77 hw)) Via.refl q0 d_g_query_1 (pc' := 4) rfl ?_
  intro T1 X1
  refine o_areturn K X1 (t := (.object "java/util/List")) d_g_query_4 rfl rfl q1 ?_ (by decide) (by decide)
  exact ⟨rfl, rfl⟩
theorem pd_law_0 : parseMethodDescriptor "([C)V" = some ⟨[(.array .char)], none⟩ := by decide +kernel
theorem pd_law_1 : parseMethodDescriptor "(C)Ljava/lang/String;" = some ⟨[.char], some (.object "java/lang/String")⟩ := by decide +kernel
theorem pd_law_2 : parseMethodDescriptor "(Ljava/lang/String;Ljava/util/Map;)V" = some ⟨[(.object "java/lang/String"), (.object "java/util/Map")], none⟩ := by decide +kernel
theorem pd_law_3 : parseMethodDescriptor "()V" = some ⟨[], none⟩ := by decide +kernel
theorem pd_law_4 : parseMethodDescriptor "(Ljava/lang/String;Ljava/lang/String;ZLcom/example/rosterlink/rosterlink/api/Schema;Lcom/example/rosterlink/rosterlink/api/Schema;Ljava/util/List;)V" = some ⟨[(.object "java/lang/String"), (.object "java/lang/String"), .boolean, (.object "com/example/rosterlink/rosterlink/api/Schema"), (.object "com/example/rosterlink/rosterlink/api/Schema"), (.object "java/util/List")], none⟩ := by decide +kernel
theorem pd_law_5 : parseMethodDescriptor "(Lcom/example/rosterlink/rosterlink/api/Schema;)Lcom/example/rosterlink/rosterlink/api/Operation;" = some ⟨[(.object "com/example/rosterlink/rosterlink/api/Schema")], some (.object "com/example/rosterlink/rosterlink/api/Operation")⟩ := by decide +kernel
theorem pd_law_6 : parseMethodDescriptor "()Ljava/lang/String;" = some ⟨[], some (.object "java/lang/String")⟩ := by decide +kernel
theorem pd_law_7 : parseMethodDescriptor "()Z" = some ⟨[], some .boolean⟩ := by decide +kernel
theorem pd_law_8 : parseMethodDescriptor "()Lcom/example/rosterlink/rosterlink/api/Schema;" = some ⟨[], some (.object "com/example/rosterlink/rosterlink/api/Schema")⟩ := by decide +kernel
theorem pd_law_9 : parseMethodDescriptor "()Ljava/util/List;" = some ⟨[], some (.object "java/util/List")⟩ := by decide +kernel
def Q_law (Z : State) (i0 : Int32) (i1 : Int32) (i2 : Int32) (cs : Int32) (dce : Addr) (h0 : Heap) (v : Option Value) (h : Heap) : Prop := v = some (.int (1 : Int32))
set_option maxRecDepth 65536 in
set_option maxHeartbeats 40000000 in
theorem rm_law (l : Launch) (Z : State) (a0 : Array Value) (hw : oHw Z a0) (i0 : Int32) (i1 : Int32) (i2 : Int32) (cs : Int32) (dce : Addr) (h0 : Heap) (q0 : Sta Z Z.heap "java/lang/String" "COMPACT_STRINGS" "Z" (.int cs)) (q1 : ¬ (cs = (0 : Int32))) (q2 : Sta Z Z.heap "java/util/ArrayList" "DEFAULTCAPACITY_EMPTY_ELEMENTDATA" "[Ljava/lang/Object;" (.ref dce)) (ws : List Jvm.Cond) : oMet l Z x code maxLocals ret room_1 ws #[(.int i0), (.int i1), (.int i2)] h0 (Q_law Z i0 i1 i2 cs dce h0) := by
  refine oEnter (plainFor_of_name (by first | (simp [plainName, overriddenIn]; done) | decide +kernel)) (own := "com/example/rosterlink/rosterlink/api/OperationTakesPinLaw") (nm := "law") rfl rfl (L := #[.val (.int i0), .val (.int i1), .val (.int i2), .unset, .unset, .unset, .unset, .unset, .unset, .unset, .unset, .unset, .unset, .unset, .unset]) (fun m => by first | (simp [entryFrame, mkF, argsToLocals, Value.category, maxLocals]; done) | rfl) ?_
  intro pp ee ss mm bb mtd cc T0 K X0
  have E0 := X0.ext0
  refine o_iconst K X0 at_0 (pc' := 1) rfl (z := (2 : Int32)) rfl ?_
  refine o_newarray K X0 (aty := .char) 2 (w0 hw) (ad := "[C") (by decide +kernel) (by decide) (by decide) (by decide) rfl at_1 (pc' := 3) rfl (by decide) (by decide) ?_
  intro T1 h1 b1 k1 X1 g1 E1 A1 B1 G1
  replace A1 : oArr Z h1 b1 k1 .char [(.int (0 : Int32)), (.int (0 : Int32))] := A1
  refine o_astoreN K X1 at_3 (pc' := 4) rfl rfl (L' := #[.val (.int i0), .val (.int i1), .val (.int i2), .val (.ref b1), .unset, .unset, .unset, .unset, .unset, .unset, .unset, .unset, .unset, .unset, .unset]) rfl ?_
  refine o_aloadN K X1 at_4 (pc' := 5) rfl rfl rfl ?_
  refine o_iconst K X1 at_5 (pc' := 6) rfl (z := (0 : Int32)) rfl ?_
  refine o_iloadN K X1 at_6 (pc' := 7) rfl rfl ?_
  refine o_sipush K X1 at_7 (pc' := 10) rfl (z := (255 : Int32)) rfl ?_
  refine o_iand K X1 at_10 (pc' := 11) rfl (z := (i0 &&& (255 : Int32))) rfl ?_
  refine o_i2c K X1 at_11 (pc' := 12) rfl (z := (i0 &&& (255 : Int32))) (oNarMask i0 (by decide)) ?_
  refine o_castore K X1 A1 (by decide) (show (0 : Int32).toNatClampNeg < 2 from (by decide)) G1 (z := (.int (i0 &&& (255 : Int32)))) (congrArg Value.int (oNarMask i0 (by decide))) at_12 (pc' := 13) rfl ?_
  intro T2 h2 X2 W2 A2
  replace A2 : oArr Z h2 b1 k1 .char [(.int (i0 &&& (255 : Int32))), (.int (0 : Int32))] := A2
  refine o_aloadN K X2 at_13 (pc' := 14) rfl rfl rfl ?_
  refine o_iconst K X2 at_14 (pc' := 15) rfl (z := (1 : Int32)) rfl ?_
  refine o_iloadN K X2 at_15 (pc' := 16) rfl rfl ?_
  refine o_bipush K X2 at_16 (pc' := 18) rfl (z := (8 : Int32)) rfl ?_
  refine o_iushr K X2 at_18 (pc' := 19) rfl (z := ((i0.toUInt32 >>> ((8 : Int32) &&& 31).toUInt32).toInt32)) rfl ?_
  refine o_sipush K X2 at_19 (pc' := 22) rfl (z := (255 : Int32)) rfl ?_
  refine o_iand K X2 at_22 (pc' := 23) rfl (z := (((i0.toUInt32 >>> ((8 : Int32) &&& 31).toUInt32).toInt32) &&& (255 : Int32))) rfl ?_
  refine o_i2c K X2 at_23 (pc' := 24) rfl (z := (((i0.toUInt32 >>> ((8 : Int32) &&& 31).toUInt32).toInt32) &&& (255 : Int32))) (oNarMask ((i0.toUInt32 >>> ((8 : Int32) &&& 31).toUInt32).toInt32) (by decide)) ?_
  refine o_castore K X2 A2 (by decide) (show (1 : Int32).toNatClampNeg < 2 from (by decide)) G1 (z := (.int (((i0.toUInt32 >>> ((8 : Int32) &&& 31).toUInt32).toInt32) &&& (255 : Int32)))) (congrArg Value.int (oNarMask ((i0.toUInt32 >>> ((8 : Int32) &&& 31).toUInt32).toInt32) (by decide))) at_24 (pc' := 25) rfl ?_
  intro T3 h3 X3 W3 A3
  replace A3 : oArr Z h3 b1 k1 .char [(.int (i0 &&& (255 : Int32))), (.int (((i0.toUInt32 >>> ((8 : Int32) &&& 31).toUInt32).toInt32) &&& (255 : Int32)))] := A3
  refine o_new K X3 (w1 hw) (w2 hw) (w3 hw) at_25 (pc' := 28) rfl (by decide) (by decide) ?_
  intro T4 h4 b4 X4 g4 E4 A4 D4 G4
  have F4_coder : Fld Z h4 b4 "java/lang/String" "coder" "B" (.int (0 : Int32)) := (D4 (Or.inr (w27 hw)) (ty := .byte) (by decide))
  have F4_value : Fld Z h4 b4 "java/lang/String" "value" "[B" .null := (D4 (Or.inr (w29 hw)) (ty := (.array .byte)) (by decide))
  refine o_dup K X4 at_28 (pc' := 29) rfl rfl ?_
  refine o_aloadN K X4 at_29 (pc' := 30) rfl rfl rfl ?_
  refine o_special K X4 (y := (⟨"java/lang/String", "<init>", "([C)V"⟩ : MethodName)) rfl (w4 hw) (w5 hw) (w3 hw) (w6 hw) (by decide) (rm_str_2 l Z a0 hw b4 b1 k1 cs (i0 &&& (255 : Int32)) (((i0.toUInt32 >>> ((8 : Int32) &&& 31).toUInt32).toInt32) &&& (255 : Int32)) h4 A4 F4_value F4_coder G4 (A3.ext E4) q0 q1 (oMask255 _) (oMask255 _)) (by decide) rfl (argsL := [(.ref b1)]) rfl (lenOf pd_law_0 rfl) (W := 1) rfl (by decide) (by decide) (by decide) at_30 (pc' := 33) rfl ?_
  intro v5 T5 h5 X5 U5
  obtain ⟨vb_5, k_5, rfl, u5_0, u5_1, u5_2, u5_3, u5_4, u5_5⟩ := U5
  have G5_vb : Z.heap.size ≤ vb_5 := Nat.le_trans (Nat.le_trans E0.1 (Nat.le_trans (Nat.le_trans (Nat.le_trans E1.1 (Keep.of_wr W2).1) (Keep.of_wr W3).1) E4.1)) u5_4
  show oGoes pp ee bb ss Z T5 (mkF mm 33 #[.val (.int i0), .val (.int i1), .val (.int i2), .val (.ref b1), .unset, .unset, .unset, .unset, .unset, .unset, .unset, .unset, .unset, .unset, .unset] [(.ref b4)]) _ _ _
  refine o_astore K X5 at_33 (pc' := 35) rfl rfl (L' := #[.val (.int i0), .val (.int i1), .val (.int i2), .val (.ref b1), .val (.ref b4), .unset, .unset, .unset, .unset, .unset, .unset, .unset, .unset, .unset, .unset]) rfl ?_
  refine o_iloadN K X5 at_35 (pc' := 36) rfl rfl ?_
  refine o_sipush K X5 at_36 (pc' := 39) rfl (z := (255 : Int32)) rfl ?_
  refine o_iand K X5 at_39 (pc' := 40) rfl (z := (i1 &&& (255 : Int32))) rfl ?_
  refine o_i2c K X5 at_40 (pc' := 41) rfl (z := (i1 &&& (255 : Int32))) (oNarMask i1 (by decide)) ?_
  refine o_static K X5 (y := (⟨"java/lang/String", "valueOf", "(C)Ljava/lang/String;"⟩ : MethodName)) (w30 hw) (w31 hw) (w3 hw) (w32 hw) (by decide) (rm_valueof l Z a0 hw (i1 &&& (255 : Int32)) cs h5 (oMask255 _) q0 q1) (by decide) rfl (argsL := [(.int (i1 &&& (255 : Int32)))]) rfl (lenOf pd_law_1 rfl) (W := 0) rfl (by decide) (by decide) (by decide) at_41 (pc' := 44) rfl ?_
  intro v6 T6 h6 X6 U6
  obtain ⟨r_6, vb_6, k_6, rfl, u6_0, u6_1, u6_2, u6_3, u6_4, u6_5, u6_6⟩ := U6
  have G6_r : Z.heap.size ≤ r_6 := Nat.le_trans (Nat.le_trans E0.1 (Nat.le_trans (Nat.le_trans (Nat.le_trans (Nat.le_trans E1.1 (Keep.of_wr W2).1) (Keep.of_wr W3).1) E4.1) u5_0.1)) u6_1
  have G6_vb : Z.heap.size ≤ vb_6 := Nat.le_trans (Nat.le_trans E0.1 (Nat.le_trans (Nat.le_trans (Nat.le_trans (Nat.le_trans E1.1 (Keep.of_wr W2).1) (Keep.of_wr W3).1) E4.1) u5_0.1)) u6_5
  show oGoes pp ee bb ss Z T6 (mkF mm 44 #[.val (.int i0), .val (.int i1), .val (.int i2), .val (.ref b1), .val (.ref b4), .unset, .unset, .unset, .unset, .unset, .unset, .unset, .unset, .unset, .unset] [(.ref r_6)]) _ _ _
  refine o_astore K X6 at_44 (pc' := 46) rfl rfl (L' := #[.val (.int i0), .val (.int i1), .val (.int i2), .val (.ref b1), .val (.ref b4), .val (.ref r_6), .unset, .unset, .unset, .unset, .unset, .unset, .unset, .unset, .unset]) rfl ?_
  refine o_iloadN K X6 at_46 (pc' := 47) rfl rfl ?_
  refine o_iconst K X6 at_47 (pc' := 48) rfl (z := (1 : Int32)) rfl ?_
  refine o_iand K X6 at_48 (pc' := 49) rfl (z := (i2 &&& (1 : Int32))) rfl ?_
  suffices J8 : oGoes pp ee bb ss Z T6 (mkF mm 57 #[.val (.int i0), .val (.int i1), .val (.int i2), .val (.ref b1), .val (.ref b4), .val (.ref r_6), .unset, .unset, .unset, .unset, .unset, .unset, .unset, .unset, .unset] [(.int (if (i2 &&& (1 : Int32)) = (0 : Int32) then (0 : Int32) else (1 : Int32)))]) (Q_law Z i0 i1 i2 cs dce h0) room_1.cells room_1.slots by
    by_cases c49_7 : (i2 &&& (1 : Int32)) = (0 : Int32)
    · simp only [if_pos c49_7] at J8
      refine o_if_eq_t K X6 at_49 (by decide) (pc' := 56) (by decide) c49_7 ?_
      refine o_iconst K X6 at_56 (pc' := 57) rfl (z := (0 : Int32)) rfl ?_
      exact J8
    · simp only [if_neg c49_7] at J8
      refine o_if_eq_f K X6 at_49 (pc' := 52) rfl c49_7 ?_
      refine o_iconst K X6 at_52 (pc' := 53) rfl (z := (1 : Int32)) rfl ?_
      refine o_goto K X6 at_53 (by decide) (pc' := 57) (by decide) ?_
      exact J8
  refine o_istore K X6 at_57 (pc' := 59) rfl (L' := #[.val (.int i0), .val (.int i1), .val (.int i2), .val (.ref b1), .val (.ref b4), .val (.ref r_6), .val (.int (if (i2 &&& (1 : Int32)) = (0 : Int32) then (0 : Int32) else (1 : Int32))), .unset, .unset, .unset, .unset, .unset, .unset, .unset, .unset]) rfl ?_
  refine o_iloadN K X6 at_59 (pc' := 60) rfl rfl ?_
  refine o_bipush K X6 at_60 (pc' := 62) rfl (z := (32 : Int32)) rfl ?_
  refine o_iand K X6 at_62 (pc' := 63) rfl (z := (i2 &&& (32 : Int32))) rfl ?_
  suffices J10 : ∀ (T10 : State) (h10 : Heap) (j10_0 : Value), oSt pp l ee room_1 ss mm #[(.int i0), (.int i1), (.int i2)] bb mtd cc Z T10 h10 6 15 → Keep h6 h10 [] → j10_0.isRef = true → oGoes pp ee bb ss Z T10 (mkF mm 80 #[.val (.int i0), .val (.int i1), .val (.int i2), .val (.ref b1), .val (.ref b4), .val (.ref r_6), .val (.int (if (i2 &&& (1 : Int32)) = (0 : Int32) then (0 : Int32) else (1 : Int32))), .unset, .unset, .unset, .unset, .unset, .unset, .unset, .unset] [j10_0]) (Q_law Z i0 i1 i2 cs dce h0) room_1.cells room_1.slots by
    by_cases c63_9 : (i2 &&& (32 : Int32)) = (0 : Int32)
    · refine o_if_eq_t K X6 at_63 (by decide) (pc' := 79) (by decide) c63_9 ?_
      refine o_aconst_null K X6 at_79 (pc' := 80) rfl ?_
      exact J10 T6 h6 .null (X6.mono (by decide) (by decide)) (Keep.refl h6 []) rfl
    · refine o_if_eq_f K X6 at_63 (pc' := 66) rfl c63_9 ?_
      refine o_new K X6 (w44 hw) (w45 hw) (w46 hw) at_66 (pc' := 69) rfl (by decide) (by decide) ?_
      intro T11 h11 b11 X11 g11 E11 A11 D11 G11
      have F11_name : Fld Z h11 b11 "com/example/rosterlink/rosterlink/api/Schema" "name" "Ljava/lang/String;" .null := (D11 (Or.inr (w57 hw)) (ty := (.object "java/lang/String")) (by decide))
      have F11_definition : Fld Z h11 b11 "com/example/rosterlink/rosterlink/api/Schema" "definition" "Ljava/util/Map;" .null := (D11 (Or.inr (w59 hw)) (ty := (.object "java/util/Map")) (by decide))
      refine o_dup K X11 at_69 (pc' := 70) rfl rfl ?_
      refine o_aload K X11 at_70 (pc' := 72) rfl rfl rfl ?_
      refine o_aconst_null K X11 at_72 (pc' := 73) rfl ?_
      refine o_special K X11 (y := (⟨"com/example/rosterlink/rosterlink/api/Schema", "<init>", "(Ljava/lang/String;Ljava/util/Map;)V"⟩ : MethodName)) rfl (w47 hw) (w48 hw) (w46 hw) (w49 hw) (by decide) (rm_schema l Z a0 hw b11 (.ref b4) .null h11 A11 F11_name F11_definition G11 rfl rfl) (by decide) rfl (argsL := [(.ref b4), .null]) rfl (lenOf pd_law_2 rfl) (W := 1) rfl (by decide) (by decide) (by decide) at_73 (pc' := 76) rfl ?_
      intro v12 T12 h12 X12 U12
      obtain ⟨rfl, u12_0, u12_1⟩ := U12
      show oGoes pp ee bb ss Z T12 (mkF mm 76 #[.val (.int i0), .val (.int i1), .val (.int i2), .val (.ref b1), .val (.ref b4), .val (.ref r_6), .val (.int (if (i2 &&& (1 : Int32)) = (0 : Int32) then (0 : Int32) else (1 : Int32))), .unset, .unset, .unset, .unset, .unset, .unset, .unset, .unset] [(.ref b11)]) _ _ _
      refine o_goto K X12 at_76 (by decide) (pc' := 80) (by decide) ?_
      exact J10 T12 h12 (.ref b11) (X12.mono (by decide) (by decide)) (((Keep.refl h6 []).ext E11).trans u12_0 (allS (Or.inr (Nat.le_of_eq g11.symm)) all0)) rfl
  intro T10 h10 j10_0 X10 K10 r10_0
  refine o_astore K X10 at_80 (pc' := 82) rfl r10_0 (L' := #[.val (.int i0), .val (.int i1), .val (.int i2), .val (.ref b1), .val (.ref b4), .val (.ref r_6), .val (.int (if (i2 &&& (1 : Int32)) = (0 : Int32) then (0 : Int32) else (1 : Int32))), .val j10_0, .unset, .unset, .unset, .unset, .unset, .unset, .unset]) (by rcases ref_cases r10_0 with q | ⟨_, q⟩ <;> (rw [q]; rfl)) ?_
  refine o_iloadN K X10 at_82 (pc' := 83) rfl rfl ?_
  refine o_iconst K X10 at_83 (pc' := 84) rfl (z := (2 : Int32)) rfl ?_
  refine o_iand K X10 at_84 (pc' := 85) rfl (z := (i2 &&& (2 : Int32))) rfl ?_
  suffices J14 : ∀ (T14 : State) (h14 : Heap) (j14_0 : Value), oSt pp l ee room_1 ss mm #[(.int i0), (.int i1), (.int i2)] bb mtd cc Z T14 h14 7 17 → Keep h10 h14 [] → j14_0.isRef = true → oGoes pp ee bb ss Z T14 (mkF mm 102 #[.val (.int i0), .val (.int i1), .val (.int i2), .val (.ref b1), .val (.ref b4), .val (.ref r_6), .val (.int (if (i2 &&& (1 : Int32)) = (0 : Int32) then (0 : Int32) else (1 : Int32))), .val j10_0, .unset, .unset, .unset, .unset, .unset, .unset, .unset] [j14_0]) (Q_law Z i0 i1 i2 cs dce h0) room_1.cells room_1.slots by
    by_cases c85_13 : (i2 &&& (2 : Int32)) = (0 : Int32)
    · refine o_if_eq_t K X10 at_85 (by decide) (pc' := 101) (by decide) c85_13 ?_
      refine o_aconst_null K X10 at_101 (pc' := 102) rfl ?_
      exact J14 T10 h10 .null (X10.mono (by decide) (by decide)) (Keep.refl h10 []) rfl
    · refine o_if_eq_f K X10 at_85 (pc' := 88) rfl c85_13 ?_
      refine o_new K X10 (w44 hw) (w45 hw) (w46 hw) at_88 (pc' := 91) rfl (by decide) (by decide) ?_
      intro T15 h15 b15 X15 g15 E15 A15 D15 G15
      have F15_name : Fld Z h15 b15 "com/example/rosterlink/rosterlink/api/Schema" "name" "Ljava/lang/String;" .null := (D15 (Or.inr (w57 hw)) (ty := (.object "java/lang/String")) (by decide))
      have F15_definition : Fld Z h15 b15 "com/example/rosterlink/rosterlink/api/Schema" "definition" "Ljava/util/Map;" .null := (D15 (Or.inr (w59 hw)) (ty := (.object "java/util/Map")) (by decide))
      refine o_dup K X15 at_91 (pc' := 92) rfl rfl ?_
      refine o_aload K X15 at_92 (pc' := 94) rfl rfl rfl ?_
      refine o_aconst_null K X15 at_94 (pc' := 95) rfl ?_
      refine o_special K X15 (y := (⟨"com/example/rosterlink/rosterlink/api/Schema", "<init>", "(Ljava/lang/String;Ljava/util/Map;)V"⟩ : MethodName)) rfl (w47 hw) (w48 hw) (w46 hw) (w49 hw) (by decide) (rm_schema l Z a0 hw b15 (.ref r_6) .null h15 A15 F15_name F15_definition G15 rfl rfl) (by decide) rfl (argsL := [(.ref r_6), .null]) rfl (lenOf pd_law_2 rfl) (W := 1) rfl (by decide) (by decide) (by decide) at_95 (pc' := 98) rfl ?_
      intro v16 T16 h16 X16 U16
      obtain ⟨rfl, u16_0, u16_1⟩ := U16
      show oGoes pp ee bb ss Z T16 (mkF mm 98 #[.val (.int i0), .val (.int i1), .val (.int i2), .val (.ref b1), .val (.ref b4), .val (.ref r_6), .val (.int (if (i2 &&& (1 : Int32)) = (0 : Int32) then (0 : Int32) else (1 : Int32))), .val j10_0, .unset, .unset, .unset, .unset, .unset, .unset, .unset] [(.ref b15)]) _ _ _
      refine o_goto K X16 at_98 (by decide) (pc' := 102) (by decide) ?_
      exact J14 T16 h16 (.ref b15) (X16.mono (by decide) (by decide)) (((Keep.refl h10 []).ext E15).trans u16_0 (allS (Or.inr (Nat.le_of_eq g15.symm)) all0)) rfl
  intro T14 h14 j14_0 X14 K14 r14_0
  refine o_astore K X14 at_102 (pc' := 104) rfl r14_0 (L' := #[.val (.int i0), .val (.int i1), .val (.int i2), .val (.ref b1), .val (.ref b4), .val (.ref r_6), .val (.int (if (i2 &&& (1 : Int32)) = (0 : Int32) then (0 : Int32) else (1 : Int32))), .val j10_0, .val j14_0, .unset, .unset, .unset, .unset, .unset, .unset]) (by rcases ref_cases r14_0 with q | ⟨_, q⟩ <;> (rw [q]; rfl)) ?_
  refine o_iloadN K X14 at_104 (pc' := 105) rfl rfl ?_
  refine o_iconst K X14 at_105 (pc' := 106) rfl (z := (4 : Int32)) rfl ?_
  refine o_iand K X14 at_106 (pc' := 107) rfl (z := (i2 &&& (4 : Int32))) rfl ?_
  suffices J18 : ∀ (T18 : State) (h18 : Heap) (j18_0 : Value), oSt pp l ee room_1 ss mm #[(.int i0), (.int i1), (.int i2)] bb mtd cc Z T18 h18 8 19 → Keep h14 h18 [] → j18_0.isRef = true → oGoes pp ee bb ss Z T18 (mkF mm 141 #[.val (.int i0), .val (.int i1), .val (.int i2), .val (.ref b1), .val (.ref b4), .val (.ref r_6), .val (.int (if (i2 &&& (1 : Int32)) = (0 : Int32) then (0 : Int32) else (1 : Int32))), .val j10_0, .val j14_0, .val j18_0, .unset, .unset, .unset, .unset, .unset] []) (Q_law Z i0 i1 i2 cs dce h0) room_1.cells room_1.slots by
    by_cases c107_17 : (i2 &&& (4 : Int32)) = (0 : Int32)
    · refine o_if_eq_t K X14 at_107 (by decide) (pc' := 124) (by decide) c107_17 ?_
      refine o_iloadN K X14 at_124 (pc' := 125) rfl rfl ?_
      refine o_bipush K X14 at_125 (pc' := 127) rfl (z := (8 : Int32)) rfl ?_
      refine o_iand K X14 at_127 (pc' := 128) rfl (z := (i2 &&& (8 : Int32))) rfl ?_
      suffices J20 : oGoes pp ee bb ss Z T14 (mkF mm 141 #[.val (.int i0), .val (.int i1), .val (.int i2), .val (.ref b1), .val (.ref b4), .val (.ref r_6), .val (.int (if (i2 &&& (1 : Int32)) = (0 : Int32) then (0 : Int32) else (1 : Int32))), .val j10_0, .val j14_0, .val (if (i2 &&& (8 : Int32)) = (0 : Int32) then .null else j14_0), .unset, .unset, .unset, .unset, .unset] []) (Q_law Z i0 i1 i2 cs dce h0) room_1.cells room_1.slots by
        by_cases c128_19 : (i2 &&& (8 : Int32)) = (0 : Int32)
        · simp only [if_pos c128_19] at J20
          refine o_if_eq_t K X14 at_128 (by decide) (pc' := 138) (by decide) c128_19 ?_
          refine o_aconst_null K X14 at_138 (pc' := 139) rfl ?_
          refine o_astore K X14 at_139 (pc' := 141) rfl rfl (L' := #[.val (.int i0), .val (.int i1), .val (.int i2), .val (.ref b1), .val (.ref b4), .val (.ref r_6), .val (.int (if (i2 &&& (1 : Int32)) = (0 : Int32) then (0 : Int32) else (1 : Int32))), .val j10_0, .val j14_0, .val .null, .unset, .unset, .unset, .unset, .unset]) rfl ?_
          exact J20
        · simp only [if_neg c128_19] at J20
          refine o_if_eq_f K X14 at_128 (pc' := 131) rfl c128_19 ?_
          refine o_aload K X14 at_131 (pc' := 133) rfl rfl r14_0 ?_
          refine o_astore K X14 at_133 (pc' := 135) rfl r14_0 (L' := #[.val (.int i0), .val (.int i1), .val (.int i2), .val (.ref b1), .val (.ref b4), .val (.ref r_6), .val (.int (if (i2 &&& (1 : Int32)) = (0 : Int32) then (0 : Int32) else (1 : Int32))), .val j10_0, .val j14_0, .val j14_0, .unset, .unset, .unset, .unset, .unset]) (by rcases ref_cases r14_0 with q | ⟨_, q⟩ <;> (rw [q]; rfl)) ?_
          refine o_goto K X14 at_135 (by decide) (pc' := 141) (by decide) ?_
          exact J20
      exact J18 T14 h14 (if (i2 &&& (8 : Int32)) = (0 : Int32) then .null else j14_0) (X14.mono (by decide) (by decide)) (Keep.refl h14 []) (by split <;> first | rfl | assumption)
    · refine o_if_eq_f K X14 at_107 (pc' := 110) rfl c107_17 ?_
      refine o_new K X14 (w44 hw) (w45 hw) (w46 hw) at_110 (pc' := 113) rfl (by decide) (by decide) ?_
      intro T21 h21 b21 X21 g21 E21 A21 D21 G21
      have F21_name : Fld Z h21 b21 "com/example/rosterlink/rosterlink/api/Schema" "name" "Ljava/lang/String;" .null := (D21 (Or.inr (w57 hw)) (ty := (.object "java/lang/String")) (by decide))
      have F21_definition : Fld Z h21 b21 "com/example/rosterlink/rosterlink/api/Schema" "definition" "Ljava/util/Map;" .null := (D21 (Or.inr (w59 hw)) (ty := (.object "java/util/Map")) (by decide))
      refine o_dup K X21 at_113 (pc' := 114) rfl rfl ?_
      refine o_aconst_null K X21 at_114 (pc' := 115) rfl ?_
      refine o_aconst_null K X21 at_115 (pc' := 116) rfl ?_
      refine o_special K X21 (y := (⟨"com/example/rosterlink/rosterlink/api/Schema", "<init>", "(Ljava/lang/String;Ljava/util/Map;)V"⟩ : MethodName)) rfl (w47 hw) (w48 hw) (w46 hw) (w49 hw) (by decide) (rm_schema l Z a0 hw b21 .null .null h21 A21 F21_name F21_definition G21 rfl rfl) (by decide) rfl (argsL := [.null, .null]) rfl (lenOf pd_law_2 rfl) (W := 1) rfl (by decide) (by decide) (by decide) at_116 (pc' := 119) rfl ?_
      intro v22 T22 h22 X22 U22
      obtain ⟨rfl, u22_0, u22_1⟩ := U22
      show oGoes pp ee bb ss Z T22 (mkF mm 119 #[.val (.int i0), .val (.int i1), .val (.int i2), .val (.ref b1), .val (.ref b4), .val (.ref r_6), .val (.int (if (i2 &&& (1 : Int32)) = (0 : Int32) then (0 : Int32) else (1 : Int32))), .val j10_0, .val j14_0, .unset, .unset, .unset, .unset, .unset, .unset] [(.ref b21)]) _ _ _
      refine o_astore K X22 at_119 (pc' := 121) rfl rfl (L' := #[.val (.int i0), .val (.int i1), .val (.int i2), .val (.ref b1), .val (.ref b4), .val (.ref r_6), .val (.int (if (i2 &&& (1 : Int32)) = (0 : Int32) then (0 : Int32) else (1 : Int32))), .val j10_0, .val j14_0, .val (.ref b21), .unset, .unset, .unset, .unset, .unset]) rfl ?_
      refine o_goto K X22 at_121 (by decide) (pc' := 141) (by decide) ?_
      exact J18 T22 h22 (.ref b21) (X22.mono (by decide) (by decide)) (((Keep.refl h14 []).ext E21).trans u22_0 (allS (Or.inr (Nat.le_of_eq g21.symm)) all0)) rfl
  intro T18 h18 j18_0 X18 K18 r18_0
  refine o_iloadN K X18 at_141 (pc' := 142) rfl rfl ?_
  refine o_bipush K X18 at_142 (pc' := 144) rfl (z := (16 : Int32)) rfl ?_
  refine o_iand K X18 at_144 (pc' := 145) rfl (z := (i2 &&& (16 : Int32))) rfl ?_
  suffices J24 : ∀ (T24 : State) (h24 : Heap) (j24_0 : Value), oSt pp l ee room_1 ss mm #[(.int i0), (.int i1), (.int i2)] bb mtd cc Z T24 h24 9 22 → Keep h18 h24 [] → j24_0.isRef = true → oGoes pp ee bb ss Z T24 (mkF mm 159 #[.val (.int i0), .val (.int i1), .val (.int i2), .val (.ref b1), .val (.ref b4), .val (.ref r_6), .val (.int (if (i2 &&& (1 : Int32)) = (0 : Int32) then (0 : Int32) else (1 : Int32))), .val j10_0, .val j14_0, .val j18_0, .unset, .unset, .unset, .unset, .unset] [j24_0]) (Q_law Z i0 i1 i2 cs dce h0) room_1.cells room_1.slots by
    by_cases c145_23 : (i2 &&& (16 : Int32)) = (0 : Int32)
    · refine o_if_eq_t K X18 at_145 (by decide) (pc' := 158) (by decide) c145_23 ?_
      refine o_aconst_null K X18 at_158 (pc' := 159) rfl ?_
      exact J24 T18 h18 .null (X18.mono (by decide) (by decide)) (Keep.refl h18 []) rfl
    · refine o_if_eq_f K X18 at_145 (pc' := 148) rfl c145_23 ?_
      refine o_new K X18 (w116 hw) (w117 hw) (w118 hw) at_148 (pc' := 151) rfl (by decide) (by decide) ?_
      intro T25 h25 b25 X25 g25 E25 A25 D25 G25
      have F25_modCount : Fld Z h25 b25 "java/util/AbstractList" "modCount" "I" (.int (0 : Int32)) := (D25 (Or.inl (w136 hw)) (ty := .int) (by decide))
      have F25_elementData : Fld Z h25 b25 "java/util/ArrayList" "elementData" "[Ljava/lang/Object;" .null := (D25 (Or.inl (w139 hw)) (ty := (.array (.object "java/lang/Object"))) (by decide))
      refine o_dup K X25 at_151 (pc' := 152) rfl rfl ?_
      refine o_special K X25 (y := (⟨"java/util/ArrayList", "<init>", "()V"⟩ : MethodName)) rfl (w119 hw) (w120 hw) (w118 hw) (w121 hw) (by decide) (rm_al l Z a0 hw b25 dce h25 A25 F25_modCount F25_elementData G25 q2) (by decide) rfl (argsL := []) rfl (lenOf pd_law_3 rfl) (W := 1) rfl (by decide) (by decide) (by decide) at_152 (pc' := 155) rfl ?_
      intro v26 T26 h26 X26 U26
      obtain ⟨rfl, u26_0, u26_1, u26_2, u26_3⟩ := U26
      show oGoes pp ee bb ss Z T26 (mkF mm 155 #[.val (.int i0), .val (.int i1), .val (.int i2), .val (.ref b1), .val (.ref b4), .val (.ref r_6), .val (.int (if (i2 &&& (1 : Int32)) = (0 : Int32) then (0 : Int32) else (1 : Int32))), .val j10_0, .val j14_0, .val j18_0, .unset, .unset, .unset, .unset, .unset] [(.ref b25)]) _ _ _
      refine o_goto K X26 at_155 (by decide) (pc' := 159) (by decide) ?_
      exact J24 T26 h26 (.ref b25) (X26.mono (by decide) (by decide)) (((Keep.refl h18 []).ext E25).trans u26_0 (allS (Or.inr (Nat.le_of_eq g25.symm)) all0)) rfl
  intro T24 h24 j24_0 X24 K24 r24_0
  refine o_astore K X24 at_159 (pc' := 161) rfl r24_0 (L' := #[.val (.int i0), .val (.int i1), .val (.int i2), .val (.ref b1), .val (.ref b4), .val (.ref r_6), .val (.int (if (i2 &&& (1 : Int32)) = (0 : Int32) then (0 : Int32) else (1 : Int32))), .val j10_0, .val j14_0, .val j18_0, .val j24_0, .unset, .unset, .unset, .unset]) (by rcases ref_cases r24_0 with q | ⟨_, q⟩ <;> (rw [q]; rfl)) ?_
  refine o_new K X24 (w60 hw) (w61 hw) (w62 hw) at_161 (pc' := 164) rfl (by decide) (by decide) ?_
  intro T27 h27 b27 X27 g27 E27 A27 D27 G27
  have F27_id : Fld Z h27 b27 "com/example/rosterlink/rosterlink/api/Operation" "id" "Ljava/lang/String;" .null := (D27 (Or.inr (w68 hw)) (ty := (.object "java/lang/String")) (by decide))
  have F27_summary : Fld Z h27 b27 "com/example/rosterlink/rosterlink/api/Operation" "summary" "Ljava/lang/String;" .null := (D27 (Or.inr (w70 hw)) (ty := (.object "java/lang/String")) (by decide))
  have F27_keyed : Fld Z h27 b27 "com/example/rosterlink/rosterlink/api/Operation" "keyed" "Z" (.int (0 : Int32)) := (D27 (Or.inr (w72 hw)) (ty := .boolean) (by decide))
  have F27_body : Fld Z h27 b27 "com/example/rosterlink/rosterlink/api/Operation" "body" "Lcom/example/rosterlink/rosterlink/api/Schema;" .null := (D27 (Or.inr (w74 hw)) (ty := (.object "com/example/rosterlink/rosterlink/api/Schema")) (by decide))
  have F27_answer : Fld Z h27 b27 "com/example/rosterlink/rosterlink/api/Operation" "answer" "Lcom/example/rosterlink/rosterlink/api/Schema;" .null := (D27 (Or.inr (w76 hw)) (ty := (.object "com/example/rosterlink/rosterlink/api/Schema")) (by decide))
  have F27_query : Fld Z h27 b27 "com/example/rosterlink/rosterlink/api/Operation" "query" "Ljava/util/List;" .null := (D27 (Or.inr (w78 hw)) (ty := (.object "java/util/List")) (by decide))
  refine o_dup K X27 at_164 (pc' := 165) rfl rfl ?_
  refine o_aload K X27 at_165 (pc' := 167) rfl rfl rfl ?_
  refine o_aload K X27 at_167 (pc' := 169) rfl rfl rfl ?_
  refine o_iload K X27 at_169 (pc' := 171) rfl rfl ?_
  refine o_aload K X27 at_171 (pc' := 173) rfl rfl r14_0 ?_
  refine o_aload K X27 at_173 (pc' := 175) rfl rfl r10_0 ?_
  refine o_aload K X27 at_175 (pc' := 177) rfl rfl r24_0 ?_
  refine o_special K X27 (y := (⟨"com/example/rosterlink/rosterlink/api/Operation", "<init>", "(Ljava/lang/String;Ljava/lang/String;ZLcom/example/rosterlink/rosterlink/api/Schema;Lcom/example/rosterlink/rosterlink/api/Schema;Ljava/util/List;)V"⟩ : MethodName)) rfl (w63 hw) (w64 hw) (w62 hw) (w65 hw) (by decide) (rm_op l Z a0 hw b27 (.ref b4) (.ref r_6) (if (i2 &&& (1 : Int32)) = (0 : Int32) then (0 : Int32) else (1 : Int32)) j14_0 j10_0 j24_0 h27 A27 F27_id F27_summary F27_keyed F27_body F27_answer F27_query G27 rfl rfl r14_0 r10_0 r24_0 (by split <;> decide)) (by decide) rfl (argsL := [(.ref b4), (.ref r_6), (.int (if (i2 &&& (1 : Int32)) = (0 : Int32) then (0 : Int32) else (1 : Int32))), j14_0, j10_0, j24_0]) rfl (lenOf pd_law_4 rfl) (W := 1) rfl (by decide) (by decide) (by decide) at_177 (pc' := 180) rfl ?_
  intro v28 T28 h28 X28 U28
  obtain ⟨rfl, u28_0, u28_1, u28_2, u28_3, u28_4, u28_5, u28_6, u28_7⟩ := U28
  show oGoes pp ee bb ss Z T28 (mkF mm 180 #[.val (.int i0), .val (.int i1), .val (.int i2), .val (.ref b1), .val (.ref b4), .val (.ref r_6), .val (.int (if (i2 &&& (1 : Int32)) = (0 : Int32) then (0 : Int32) else (1 : Int32))), .val j10_0, .val j14_0, .val j18_0, .val j24_0, .unset, .unset, .unset, .unset] [(.ref b27)]) _ _ _
  refine o_astore K X28 at_180 (pc' := 182) rfl rfl (L' := #[.val (.int i0), .val (.int i1), .val (.int i2), .val (.ref b1), .val (.ref b4), .val (.ref r_6), .val (.int (if (i2 &&& (1 : Int32)) = (0 : Int32) then (0 : Int32) else (1 : Int32))), .val j10_0, .val j14_0, .val j18_0, .val j24_0, .val (.ref b27), .unset, .unset, .unset]) rfl ?_
  refine o_aload K X28 at_182 (pc' := 184) rfl rfl rfl ?_
  refine o_aload K X28 at_184 (pc' := 186) rfl rfl r18_0 ?_
  refine o_virtual K X28 (y := (⟨"com/example/rosterlink/rosterlink/api/Operation", "takes", "(Lcom/example/rosterlink/rosterlink/api/Schema;)Lcom/example/rosterlink/rosterlink/api/Operation;"⟩ : MethodName)) (z := (⟨"com/example/rosterlink/rosterlink/api/Operation", "takes", "(Lcom/example/rosterlink/rosterlink/api/Schema;)Lcom/example/rosterlink/rosterlink/api/Operation;"⟩ : MethodName)) (w79 hw) (w80 hw) (notFace_of_selects (args := #[]) (mvT K.2.1 (w82 hw))) (w82 hw) (w81 hw) (w62 hw) (w83 hw) (by decide) u28_1 (rm_takes l Z a0 hw b27 j18_0 (.ref b4) (.ref r_6) (if (i2 &&& (1 : Int32)) = (0 : Int32) then (0 : Int32) else (1 : Int32)) j14_0 j10_0 j24_0 h28 u28_1 u28_2 u28_3 u28_4 u28_5 u28_6 u28_7 rfl rfl r14_0 r10_0 r24_0 (by split <;> decide) r18_0) (by decide) rfl (argsL := [j18_0]) rfl (lenOf pd_law_5 rfl) (W := 0) rfl (by decide) (by decide) (by decide) at_186 (pc' := 189) rfl ?_
  intro v29 T29 h29 X29 U29
  obtain ⟨r_29, rfl, u29_0, u29_1, u29_2, u29_3, u29_4, u29_5, u29_6, u29_7, u29_8⟩ := U29
  have G29_r : Z.heap.size ≤ r_29 := Nat.le_trans (Nat.le_trans E0.1 (Nat.le_trans (Nat.le_trans (Nat.le_trans (Nat.le_trans (Nat.le_trans (Nat.le_trans (Nat.le_trans (Nat.le_trans (Nat.le_trans (Nat.le_trans (Nat.le_trans E1.1 (Keep.of_wr W2).1) (Keep.of_wr W3).1) E4.1) u5_0.1) u6_0.1) K10.1) K14.1) K18.1) K24.1) E27.1) u28_0.1)) u29_1
  show oGoes pp ee bb ss Z T29 (mkF mm 189 #[.val (.int i0), .val (.int i1), .val (.int i2), .val (.ref b1), .val (.ref b4), .val (.ref r_6), .val (.int (if (i2 &&& (1 : Int32)) = (0 : Int32) then (0 : Int32) else (1 : Int32))), .val j10_0, .val j14_0, .val j18_0, .val j24_0, .val (.ref b27), .unset, .unset, .unset] [(.ref r_29)]) _ _ _
  refine o_astore K X29 at_189 (pc' := 191) rfl rfl (L' := #[.val (.int i0), .val (.int i1), .val (.int i2), .val (.ref b1), .val (.ref b4), .val (.ref r_6), .val (.int (if (i2 &&& (1 : Int32)) = (0 : Int32) then (0 : Int32) else (1 : Int32))), .val j10_0, .val j14_0, .val j18_0, .val j24_0, .val (.ref b27), .val (.ref r_29), .unset, .unset]) rfl ?_
  refine o_aload K X29 at_191 (pc' := 193) rfl rfl rfl ?_
  refine o_ifnonnull_t K X29 at_193 (by decide) (pc' := 198) (by decide) ?_
  refine o_aload K X29 at_198 (pc' := 200) rfl rfl rfl ?_
  refine o_virtual K X29 (y := (⟨"com/example/rosterlink/rosterlink/api/Operation", "id", "()Ljava/lang/String;"⟩ : MethodName)) (z := (⟨"com/example/rosterlink/rosterlink/api/Operation", "id", "()Ljava/lang/String;"⟩ : MethodName)) (w86 hw) (w87 hw) (notFace_of_selects (args := #[]) (mvT K.2.1 (w89 hw))) (w89 hw) (w88 hw) (w62 hw) (w90 hw) (by decide) u29_2 (rm_g_id l Z a0 hw r_29 (.ref b4) h29 u29_3 rfl) (by decide) rfl (argsL := []) rfl (lenOf pd_law_6 rfl) (W := 0) rfl (by decide) (by decide) (by decide) at_200 (pc' := 203) rfl ?_
  intro v30 T30 h30 X30 U30
  obtain ⟨rfl, rfl⟩ := U30
  show oGoes pp ee bb ss Z T30 (mkF mm 203 #[.val (.int i0), .val (.int i1), .val (.int i2), .val (.ref b1), .val (.ref b4), .val (.ref r_6), .val (.int (if (i2 &&& (1 : Int32)) = (0 : Int32) then (0 : Int32) else (1 : Int32))), .val j10_0, .val j14_0, .val j18_0, .val j24_0, .val (.ref b27), .val (.ref r_29), .unset, .unset] [(.ref b4)]) _ _ _
  refine o_aload K X30 at_203 (pc' := 205) rfl rfl rfl ?_
  refine o_acmp K X30 true at_205 (by decide) rfl rfl (decide_eq_true rfl) (pc' := 208) (by decide) ?_
  refine o_aload K X30 at_208 (pc' := 210) rfl rfl rfl ?_
  refine o_virtual K X30 (y := (⟨"com/example/rosterlink/rosterlink/api/Operation", "summary", "()Ljava/lang/String;"⟩ : MethodName)) (z := (⟨"com/example/rosterlink/rosterlink/api/Operation", "summary", "()Ljava/lang/String;"⟩ : MethodName)) (w91 hw) (w92 hw) (notFace_of_selects (args := #[]) (mvT K.2.1 (w94 hw))) (w94 hw) (w93 hw) (w62 hw) (w95 hw) (by decide) u29_2 (rm_g_summary l Z a0 hw r_29 (.ref r_6) h29 u29_4 rfl) (by decide) rfl (argsL := []) rfl (lenOf pd_law_6 rfl) (W := 0) rfl (by decide) (by decide) (by decide) at_210 (pc' := 213) rfl ?_
  intro v31 T31 h31 X31 U31
  obtain ⟨rfl, rfl⟩ := U31
  show oGoes pp ee bb ss Z T31 (mkF mm 213 #[.val (.int i0), .val (.int i1), .val (.int i2), .val (.ref b1), .val (.ref b4), .val (.ref r_6), .val (.int (if (i2 &&& (1 : Int32)) = (0 : Int32) then (0 : Int32) else (1 : Int32))), .val j10_0, .val j14_0, .val j18_0, .val j24_0, .val (.ref b27), .val (.ref r_29), .unset, .unset] [(.ref r_6)]) _ _ _
  refine o_aload K X31 at_213 (pc' := 215) rfl rfl rfl ?_
  refine o_acmp K X31 true at_215 (by decide) rfl rfl (decide_eq_true rfl) (pc' := 218) (by decide) ?_
  refine o_aload K X31 at_218 (pc' := 220) rfl rfl rfl ?_
  refine o_virtual K X31 (y := (⟨"com/example/rosterlink/rosterlink/api/Operation", "keyed", "()Z"⟩ : MethodName)) (z := (⟨"com/example/rosterlink/rosterlink/api/Operation", "keyed", "()Z"⟩ : MethodName)) (w96 hw) (w97 hw) (notFace_of_selects (args := #[]) (mvT K.2.1 (w99 hw))) (w99 hw) (w98 hw) (w62 hw) (w100 hw) (by decide) u29_2 (rm_g_keyed l Z a0 hw r_29 (if (i2 &&& (1 : Int32)) = (0 : Int32) then (0 : Int32) else (1 : Int32)) h29 u29_5 (by split <;> decide)) (by decide) rfl (argsL := []) rfl (lenOf pd_law_7 rfl) (W := 0) rfl (by decide) (by decide) (by decide) at_220 (pc' := 223) rfl ?_
  intro v32 T32 h32 X32 U32
  obtain ⟨rfl, rfl⟩ := U32
  show oGoes pp ee bb ss Z T32 (mkF mm 223 #[.val (.int i0), .val (.int i1), .val (.int i2), .val (.ref b1), .val (.ref b4), .val (.ref r_6), .val (.int (if (i2 &&& (1 : Int32)) = (0 : Int32) then (0 : Int32) else (1 : Int32))), .val j10_0, .val j14_0, .val j18_0, .val j24_0, .val (.ref b27), .val (.ref r_29), .unset, .unset] [(.int (if (i2 &&& (1 : Int32)) = (0 : Int32) then (0 : Int32) else (1 : Int32)))]) _ _ _
  refine o_iload K X32 at_223 (pc' := 225) rfl rfl ?_
  refine o_icmp_ne_f K X32 at_225 (pc' := 228) rfl rfl ?_
  refine o_aload K X32 at_228 (pc' := 230) rfl rfl rfl ?_
  refine o_virtual K X32 (y := (⟨"com/example/rosterlink/rosterlink/api/Operation", "body", "()Lcom/example/rosterlink/rosterlink/api/Schema;"⟩ : MethodName)) (z := (⟨"com/example/rosterlink/rosterlink/api/Operation", "body", "()Lcom/example/rosterlink/rosterlink/api/Schema;"⟩ : MethodName)) (w101 hw) (w102 hw) (notFace_of_selects (args := #[]) (mvT K.2.1 (w104 hw))) (w104 hw) (w103 hw) (w62 hw) (w105 hw) (by decide) u29_2 (rm_g_body l Z a0 hw r_29 j18_0 h29 u29_6 r18_0) (by decide) rfl (argsL := []) rfl (lenOf pd_law_8 rfl) (W := 0) rfl (by decide) (by decide) (by decide) at_230 (pc' := 233) rfl ?_
  intro v33 T33 h33 X33 U33
  obtain ⟨rfl, rfl⟩ := U33
  show oGoes pp ee bb ss Z T33 (mkF mm 233 #[.val (.int i0), .val (.int i1), .val (.int i2), .val (.ref b1), .val (.ref b4), .val (.ref r_6), .val (.int (if (i2 &&& (1 : Int32)) = (0 : Int32) then (0 : Int32) else (1 : Int32))), .val j10_0, .val j14_0, .val j18_0, .val j24_0, .val (.ref b27), .val (.ref r_29), .unset, .unset] [j18_0]) _ _ _
  refine o_aload K X33 at_233 (pc' := 235) rfl rfl r18_0 ?_
  refine o_acmp K X33 true at_235 (by decide) r18_0 r18_0 (decide_eq_true rfl) (pc' := 238) (by decide) ?_
  refine o_aload K X33 at_238 (pc' := 240) rfl rfl rfl ?_
  refine o_virtual K X33 (y := (⟨"com/example/rosterlink/rosterlink/api/Operation", "answer", "()Lcom/example/rosterlink/rosterlink/api/Schema;"⟩ : MethodName)) (z := (⟨"com/example/rosterlink/rosterlink/api/Operation", "answer", "()Lcom/example/rosterlink/rosterlink/api/Schema;"⟩ : MethodName)) (w106 hw) (w107 hw) (notFace_of_selects (args := #[]) (mvT K.2.1 (w109 hw))) (w109 hw) (w108 hw) (w62 hw) (w110 hw) (by decide) u29_2 (rm_g_answer l Z a0 hw r_29 j10_0 h29 u29_7 r10_0) (by decide) rfl (argsL := []) rfl (lenOf pd_law_8 rfl) (W := 0) rfl (by decide) (by decide) (by decide) at_240 (pc' := 243) rfl ?_
  intro v34 T34 h34 X34 U34
  obtain ⟨rfl, rfl⟩ := U34
  show oGoes pp ee bb ss Z T34 (mkF mm 243 #[.val (.int i0), .val (.int i1), .val (.int i2), .val (.ref b1), .val (.ref b4), .val (.ref r_6), .val (.int (if (i2 &&& (1 : Int32)) = (0 : Int32) then (0 : Int32) else (1 : Int32))), .val j10_0, .val j14_0, .val j18_0, .val j24_0, .val (.ref b27), .val (.ref r_29), .unset, .unset] [j10_0]) _ _ _
  refine o_aload K X34 at_243 (pc' := 245) rfl rfl r10_0 ?_
  refine o_acmp K X34 true at_245 (by decide) r10_0 r10_0 (decide_eq_true rfl) (pc' := 248) (by decide) ?_
  refine o_aload K X34 at_248 (pc' := 250) rfl rfl rfl ?_
  refine o_virtual K X34 (y := (⟨"com/example/rosterlink/rosterlink/api/Operation", "query", "()Ljava/util/List;"⟩ : MethodName)) (z := (⟨"com/example/rosterlink/rosterlink/api/Operation", "query", "()Ljava/util/List;"⟩ : MethodName)) (w111 hw) (w112 hw) (notFace_of_selects (args := #[]) (mvT K.2.1 (w114 hw))) (w114 hw) (w113 hw) (w62 hw) (w115 hw) (by decide) u29_2 (rm_g_query l Z a0 hw r_29 j24_0 h29 u29_8 r24_0) (by decide) rfl (argsL := []) rfl (lenOf pd_law_9 rfl) (W := 0) rfl (by decide) (by decide) (by decide) at_250 (pc' := 253) rfl ?_
  intro v35 T35 h35 X35 U35
  obtain ⟨rfl, rfl⟩ := U35
  show oGoes pp ee bb ss Z T35 (mkF mm 253 #[.val (.int i0), .val (.int i1), .val (.int i2), .val (.ref b1), .val (.ref b4), .val (.ref r_6), .val (.int (if (i2 &&& (1 : Int32)) = (0 : Int32) then (0 : Int32) else (1 : Int32))), .val j10_0, .val j14_0, .val j18_0, .val j24_0, .val (.ref b27), .val (.ref r_29), .unset, .unset] [j24_0]) _ _ _
  refine o_aload K X35 at_253 (pc' := 255) rfl rfl r24_0 ?_
  refine o_acmp K X35 true at_255 (by decide) r24_0 r24_0 (decide_eq_true rfl) (pc' := 258) (by decide) ?_
  refine o_iconst K X35 at_258 (pc' := 259) rfl (z := (1 : Int32)) rfl ?_
  refine o_goto K X35 at_259 (by decide) (pc' := 263) (by decide) ?_
  refine o_istore K X35 at_263 (pc' := 265) rfl (L' := #[.val (.int i0), .val (.int i1), .val (.int i2), .val (.ref b1), .val (.ref b4), .val (.ref r_6), .val (.int (if (i2 &&& (1 : Int32)) = (0 : Int32) then (0 : Int32) else (1 : Int32))), .val j10_0, .val j14_0, .val j18_0, .val j24_0, .val (.ref b27), .val (.ref r_29), .val (.int (1 : Int32)), .unset]) rfl ?_
  refine o_aload K X35 at_265 (pc' := 267) rfl rfl rfl ?_
  refine o_virtual K X35 (y := (⟨"com/example/rosterlink/rosterlink/api/Operation", "id", "()Ljava/lang/String;"⟩ : MethodName)) (z := (⟨"com/example/rosterlink/rosterlink/api/Operation", "id", "()Ljava/lang/String;"⟩ : MethodName)) (w86 hw) (w87 hw) (notFace_of_selects (args := #[]) (mvT K.2.1 (w89 hw))) (w89 hw) (w88 hw) (w62 hw) (w90 hw) (by decide) (u28_1.keep u29_0) (rm_g_id l Z a0 hw b27 (.ref b4) h29 (u28_2.keep u29_0 nin0) rfl) (by decide) rfl (argsL := []) rfl (lenOf pd_law_6 rfl) (W := 0) rfl (by decide) (by decide) (by decide) at_267 (pc' := 270) rfl ?_
  intro v36 T36 h36 X36 U36
  obtain ⟨rfl, rfl⟩ := U36
  show oGoes pp ee bb ss Z T36 (mkF mm 270 #[.val (.int i0), .val (.int i1), .val (.int i2), .val (.ref b1), .val (.ref b4), .val (.ref r_6), .val (.int (if (i2 &&& (1 : Int32)) = (0 : Int32) then (0 : Int32) else (1 : Int32))), .val j10_0, .val j14_0, .val j18_0, .val j24_0, .val (.ref b27), .val (.ref r_29), .val (.int (1 : Int32)), .unset] [(.ref b4)]) _ _ _
  refine o_aload K X36 at_270 (pc' := 272) rfl rfl rfl ?_
  refine o_acmp K X36 true at_272 (by decide) rfl rfl (decide_eq_true rfl) (pc' := 275) (by decide) ?_
  refine o_aload K X36 at_275 (pc' := 277) rfl rfl rfl ?_
  refine o_virtual K X36 (y := (⟨"com/example/rosterlink/rosterlink/api/Operation", "summary", "()Ljava/lang/String;"⟩ : MethodName)) (z := (⟨"com/example/rosterlink/rosterlink/api/Operation", "summary", "()Ljava/lang/String;"⟩ : MethodName)) (w91 hw) (w92 hw) (notFace_of_selects (args := #[]) (mvT K.2.1 (w94 hw))) (w94 hw) (w93 hw) (w62 hw) (w95 hw) (by decide) (u28_1.keep u29_0) (rm_g_summary l Z a0 hw b27 (.ref r_6) h29 (u28_3.keep u29_0 nin0) rfl) (by decide) rfl (argsL := []) rfl (lenOf pd_law_6 rfl) (W := 0) rfl (by decide) (by decide) (by decide) at_277 (pc' := 280) rfl ?_
  intro v37 T37 h37 X37 U37
  obtain ⟨rfl, rfl⟩ := U37
  show oGoes pp ee bb ss Z T37 (mkF mm 280 #[.val (.int i0), .val (.int i1), .val (.int i2), .val (.ref b1), .val (.ref b4), .val (.ref r_6), .val (.int (if (i2 &&& (1 : Int32)) = (0 : Int32) then (0 : Int32) else (1 : Int32))), .val j10_0, .val j14_0, .val j18_0, .val j24_0, .val (.ref b27), .val (.ref r_29), .val (.int (1 : Int32)), .unset] [(.ref r_6)]) _ _ _
  refine o_aload K X37 at_280 (pc' := 282) rfl rfl rfl ?_
  refine o_acmp K X37 true at_282 (by decide) rfl rfl (decide_eq_true rfl) (pc' := 285) (by decide) ?_
  refine o_aload K X37 at_285 (pc' := 287) rfl rfl rfl ?_
  refine o_virtual K X37 (y := (⟨"com/example/rosterlink/rosterlink/api/Operation", "keyed", "()Z"⟩ : MethodName)) (z := (⟨"com/example/rosterlink/rosterlink/api/Operation", "keyed", "()Z"⟩ : MethodName)) (w96 hw) (w97 hw) (notFace_of_selects (args := #[]) (mvT K.2.1 (w99 hw))) (w99 hw) (w98 hw) (w62 hw) (w100 hw) (by decide) (u28_1.keep u29_0) (rm_g_keyed l Z a0 hw b27 (if (i2 &&& (1 : Int32)) = (0 : Int32) then (0 : Int32) else (1 : Int32)) h29 (u28_4.keep u29_0 nin0) (by split <;> decide)) (by decide) rfl (argsL := []) rfl (lenOf pd_law_7 rfl) (W := 0) rfl (by decide) (by decide) (by decide) at_287 (pc' := 290) rfl ?_
  intro v38 T38 h38 X38 U38
  obtain ⟨rfl, rfl⟩ := U38
  show oGoes pp ee bb ss Z T38 (mkF mm 290 #[.val (.int i0), .val (.int i1), .val (.int i2), .val (.ref b1), .val (.ref b4), .val (.ref r_6), .val (.int (if (i2 &&& (1 : Int32)) = (0 : Int32) then (0 : Int32) else (1 : Int32))), .val j10_0, .val j14_0, .val j18_0, .val j24_0, .val (.ref b27), .val (.ref r_29), .val (.int (1 : Int32)), .unset] [(.int (if (i2 &&& (1 : Int32)) = (0 : Int32) then (0 : Int32) else (1 : Int32)))]) _ _ _
  refine o_iload K X38 at_290 (pc' := 292) rfl rfl ?_
  refine o_icmp_ne_f K X38 at_292 (pc' := 295) rfl rfl ?_
  refine o_aload K X38 at_295 (pc' := 297) rfl rfl rfl ?_
  refine o_virtual K X38 (y := (⟨"com/example/rosterlink/rosterlink/api/Operation", "body", "()Lcom/example/rosterlink/rosterlink/api/Schema;"⟩ : MethodName)) (z := (⟨"com/example/rosterlink/rosterlink/api/Operation", "body", "()Lcom/example/rosterlink/rosterlink/api/Schema;"⟩ : MethodName)) (w101 hw) (w102 hw) (notFace_of_selects (args := #[]) (mvT K.2.1 (w104 hw))) (w104 hw) (w103 hw) (w62 hw) (w105 hw) (by decide) (u28_1.keep u29_0) (rm_g_body l Z a0 hw b27 j14_0 h29 (u28_5.keep u29_0 nin0) r14_0) (by decide) rfl (argsL := []) rfl (lenOf pd_law_8 rfl) (W := 0) rfl (by decide) (by decide) (by decide) at_297 (pc' := 300) rfl ?_
  intro v39 T39 h39 X39 U39
  obtain ⟨rfl, rfl⟩ := U39
  show oGoes pp ee bb ss Z T39 (mkF mm 300 #[.val (.int i0), .val (.int i1), .val (.int i2), .val (.ref b1), .val (.ref b4), .val (.ref r_6), .val (.int (if (i2 &&& (1 : Int32)) = (0 : Int32) then (0 : Int32) else (1 : Int32))), .val j10_0, .val j14_0, .val j18_0, .val j24_0, .val (.ref b27), .val (.ref r_29), .val (.int (1 : Int32)), .unset] [j14_0]) _ _ _
  refine o_aload K X39 at_300 (pc' := 302) rfl rfl r14_0 ?_
  refine o_acmp K X39 true at_302 (by decide) r14_0 r14_0 (decide_eq_true rfl) (pc' := 305) (by decide) ?_
  refine o_aload K X39 at_305 (pc' := 307) rfl rfl rfl ?_
  refine o_virtual K X39 (y := (⟨"com/example/rosterlink/rosterlink/api/Operation", "answer", "()Lcom/example/rosterlink/rosterlink/api/Schema;"⟩ : MethodName)) (z := (⟨"com/example/rosterlink/rosterlink/api/Operation", "answer", "()Lcom/example/rosterlink/rosterlink/api/Schema;"⟩ : MethodName)) (w106 hw) (w107 hw) (notFace_of_selects (args := #[]) (mvT K.2.1 (w109 hw))) (w109 hw) (w108 hw) (w62 hw) (w110 hw) (by decide) (u28_1.keep u29_0) (rm_g_answer l Z a0 hw b27 j10_0 h29 (u28_6.keep u29_0 nin0) r10_0) (by decide) rfl (argsL := []) rfl (lenOf pd_law_8 rfl) (W := 0) rfl (by decide) (by decide) (by decide) at_307 (pc' := 310) rfl ?_
  intro v40 T40 h40 X40 U40
  obtain ⟨rfl, rfl⟩ := U40
  show oGoes pp ee bb ss Z T40 (mkF mm 310 #[.val (.int i0), .val (.int i1), .val (.int i2), .val (.ref b1), .val (.ref b4), .val (.ref r_6), .val (.int (if (i2 &&& (1 : Int32)) = (0 : Int32) then (0 : Int32) else (1 : Int32))), .val j10_0, .val j14_0, .val j18_0, .val j24_0, .val (.ref b27), .val (.ref r_29), .val (.int (1 : Int32)), .unset] [j10_0]) _ _ _
  refine o_aload K X40 at_310 (pc' := 312) rfl rfl r10_0 ?_
  refine o_acmp K X40 true at_312 (by decide) r10_0 r10_0 (decide_eq_true rfl) (pc' := 315) (by decide) ?_
  refine o_aload K X40 at_315 (pc' := 317) rfl rfl rfl ?_
  refine o_virtual K X40 (y := (⟨"com/example/rosterlink/rosterlink/api/Operation", "query", "()Ljava/util/List;"⟩ : MethodName)) (z := (⟨"com/example/rosterlink/rosterlink/api/Operation", "query", "()Ljava/util/List;"⟩ : MethodName)) (w111 hw) (w112 hw) (notFace_of_selects (args := #[]) (mvT K.2.1 (w114 hw))) (w114 hw) (w113 hw) (w62 hw) (w115 hw) (by decide) (u28_1.keep u29_0) (rm_g_query l Z a0 hw b27 j24_0 h29 (u28_7.keep u29_0 nin0) r24_0) (by decide) rfl (argsL := []) rfl (lenOf pd_law_9 rfl) (W := 0) rfl (by decide) (by decide) (by decide) at_317 (pc' := 320) rfl ?_
  intro v41 T41 h41 X41 U41
  obtain ⟨rfl, rfl⟩ := U41
  show oGoes pp ee bb ss Z T41 (mkF mm 320 #[.val (.int i0), .val (.int i1), .val (.int i2), .val (.ref b1), .val (.ref b4), .val (.ref r_6), .val (.int (if (i2 &&& (1 : Int32)) = (0 : Int32) then (0 : Int32) else (1 : Int32))), .val j10_0, .val j14_0, .val j18_0, .val j24_0, .val (.ref b27), .val (.ref r_29), .val (.int (1 : Int32)), .unset] [j24_0]) _ _ _
  refine o_aload K X41 at_320 (pc' := 322) rfl rfl r24_0 ?_
  refine o_acmp K X41 true at_322 (by decide) r24_0 r24_0 (decide_eq_true rfl) (pc' := 325) (by decide) ?_
  refine o_iconst K X41 at_325 (pc' := 326) rfl (z := (1 : Int32)) rfl ?_
  refine o_goto K X41 at_326 (by decide) (pc' := 330) (by decide) ?_
  refine o_istore K X41 at_330 (pc' := 332) rfl (L' := #[.val (.int i0), .val (.int i1), .val (.int i2), .val (.ref b1), .val (.ref b4), .val (.ref r_6), .val (.int (if (i2 &&& (1 : Int32)) = (0 : Int32) then (0 : Int32) else (1 : Int32))), .val j10_0, .val j14_0, .val j18_0, .val j24_0, .val (.ref b27), .val (.ref r_29), .val (.int (1 : Int32)), .val (.int (1 : Int32))]) rfl ?_
  refine o_iload K X41 at_332 (pc' := 334) rfl rfl ?_
  refine o_if_eq_f K X41 at_334 (pc' := 337) rfl (by decide) ?_
  refine o_iload K X41 at_337 (pc' := 339) rfl rfl ?_
  refine o_if_eq_f K X41 at_339 (pc' := 342) rfl (by decide) ?_
  refine o_iconst K X41 at_342 (pc' := 343) rfl (z := (1 : Int32)) rfl ?_
  refine o_goto K X41 at_343 (by decide) (pc' := 347) (by decide) ?_
  refine o_ireturnN K X41 .boolean at_347 rfl (by simp) (z' := (1 : Int32)) (by decide) ?_ (by decide) (by decide)
  exact rfl
set_option maxRecDepth 65536 in
set_option maxHeartbeats 40000000 in
theorem comes_1 {Post : Tables → Env → Array Value → State → Outcome → State → Prop} (hpost : ∀ tb e args s v u, (limb_1_1.after args s (.returned v) u = true ∧ limb_1_2.after args s (.returned v) u = true ∧ True) → FrameEnd s (.returned v) u (Jvm.fieldLocs frame_1_writes args s ++ Jvm.arrayLocs frame_1_arrays args s ++ Jvm.staticLocs frame_1_statics s) 32 192 → Post tb e args s (.returned v) u) :
    ArmFor flags0 classFile x code maxLocals ret World_1 tables_1 room_1 Calls_1 rest_1 Pre_1 Post := by
  intro l hfl _ _ p e ha hc hk s m args below hf hA hF happ hP
  obtain ⟨hcalls, hrest, hpre⟩ := hP
  obtain ⟨-, -, -, hnamed, -, -, -, hat⟩ := (Spec.applies_iff hf).mp happ
  obtain ⟨hg, hn⟩ := and_e (Cond.before_iff.mp (show (Jvm.Cond.and given_1 narrow_1).before args s = true from hpre))
  obtain ⟨g0, gr0⟩ := and_e hg
  obtain ⟨g1, gr1⟩ := and_e gr0
  obtain ⟨g2, gr2⟩ := and_e gr1
  obtain ⟨w_0, w_1, w_2, rfl⟩ : ∃ w_0 w_1 w_2 : Value, args = #[w_0, w_1, w_2] := by
    have hs : args.size = 3 := by simpa [Jvm.Cond.value] using g0
    obtain ⟨L⟩ := args
    match L, hs with
    | [w_0, w_1, w_2], _ => exact ⟨w_0, w_1, w_2, rfl⟩
  have hw : oHw s #[w_0, w_1, w_2] := fun d (hd : d ∈ tables_1) => atoms_spec (ws := Jvm.Cond.code x code maxLocals ret :: tables_1) hat d (List.mem_cons_of_mem _ hd)
  have hfit : Fit s := fun {y c} hc i hi => by
    obtain ⟨ha, rfl⟩ := Array.getElem?_eq_some_iff.mp hc
    have q := List.all_eq_true.mp ((Array.all_eq_true_iff_forall_mem.mp hF) _ (Array.getElem_mem ha)) i (List.mem_range.mpr hi)
    simpa [Array.getElem?_eq_getElem hi] using q
  obtain ⟨hsets, hown0⟩ := atoms_of _ (rest_1_c_eq ▸ (show rest_1_c.before _ s = true from hrest))
  obtain ⟨i0, ei0⟩ := is_v g1
  obtain rfl : w_0 = (.int i0) := Option.some.inj ei0
  obtain ⟨i1, ei1⟩ := is_v g2
  obtain rfl : w_1 = (.int i1) := Option.some.inj ei1
  obtain ⟨i2, ei2⟩ := is_v gr2
  obtain rfl : w_2 = (.int i2) := Option.some.inj ei2
  obtain ⟨cs, ecs⟩ := is_v (Cond.before_iff.mp (hsets _ (List.mem_of_getElem? (i := 1) rfl)))
  have Scs := Sta.start ecs (Or.inl (hsets _ (List.mem_of_getElem? (i := 0) rfl)))
  have ncs : ¬ (cs = (0 : Int32)) := oNeInt_v ecs (Cond.before_iff.mp (hsets _ (List.mem_of_getElem? (i := 2) rfl)))
  have dx1 := Cond.before_iff.mp (hsets _ (List.mem_of_getElem? (i := 15) rfl))
  have dx2 := Cond.before_iff.mp (hsets _ (List.mem_of_getElem? (i := 17) rfl))
  obtain ⟨dce, ed, Sd⟩ := oStaRef dx1 (Or.inr ⟨(w118 hw), (hsets _ (List.mem_of_getElem? (i := 11) rfl))⟩)
  obtain ⟨kd, vd, Fd, ld⟩ := oArr_start hfit ed dx1 dx2 (by decide) (n := 0) (by decide)
  obtain rfl : vd = [] := List.eq_nil_of_length_eq_zero ld
  obtain ⟨n, o, h1, h2, h3, v, L, rfl, ⟨hQ, N, E⟩, hq⟩ := rm_law l s _ hw i0 i1 i2 cs dce s.heap Scs ncs Sd tables_1 ⟨Nat.le_refl _, fun _ _ q => q⟩ p e ha hc hk s m _ below hf ((Spec.applies_iff_loose hf).mp happ).1 ⟨rfl, State.Warmed39.refl s, rfl⟩ trivial
  obtain rfl : v = some (.int 1) := hQ
  refine ⟨n, _, h1, h2, h3, hpost _ _ _ _ _ _ ⟨Cond.after_iff.mpr rfl, Cond.after_iff.mpr (eq_i res_at (Term.int_eval (1)) rfl), trivial⟩ ⟨hq.1, hq.2.1, (hq.2.2.sift fun y hy => Or.inr (N y hy)).mono (by decide) (by decide)⟩⟩
theorem main_1_1 : Claimed_1_1 := comes_1 fun _ _ _ _ _ _ h hF => ⟨h.1, hF⟩
theorem main_1_2 : Claimed_1_2 := comes_1 fun _ _ _ _ _ _ h hF => ⟨h.2.1, hF⟩
end Jvm.Pilot.@@N@@
namespace Jvm.Pilot.@@N@@
open Jvm Jvm.ClassFile Sem Op Lib Jvm.Free Jvm.Stand Jvm.Pilot.@@N@@.Jvm.D
/-! MADE BY PROGRAM (witnessworld.py) out of the Statement's table words and the real class files: 31 classes; the members and pool entries that the words name. The judged class is class 1, her method 1. -/
namespace start1
open Jvm.ClassFile
def u (s : String) : CpInfo := .utf8 (stringToUtf16 s)
/-- a pool by its gaps: so many unusable entries, then the entry; so many at the end -/
def gap : Nat → List CpInfo → List CpInfo
  | 0, r => r
  | n + 1, r => .unusable :: gap n r
def poolList (es : List (Nat × CpInfo)) (last : Nat) : List CpInfo := es.foldr (fun e r => gap e.1 (e.2 :: r)) (gap last [])
def pool (es : List (Nat × CpInfo)) (last : Nat) : Array CpInfo := ⟨poolList es last⟩
def fileOf (pool : Array CpInfo) (this : Nat) (attrs : Array Attribute := #[]) (ms : Array MethodInfo := #[]) (fl : Nat := 33) (sup : Nat := 0) (ifs : Array Nat := #[]) (fds : Array FieldInfo := #[]) : ClassFile where
  minorVersion := 0
  majorVersion := 65
  constantPool := pool
  accessFlags := fl
  thisClass := this
  superClass := sup
  interfaces := ifs
  fields := fds
  methods := ms
  attributes := attrs
def plain (name : String) (sup : Option ClassId) : Class where
  name := name
  kind := .ordinary
  loader := none
  accessFlags := 33
  super := sup
  interfaces := #[]
  cf := none
  fields := #[]
  methods := #[]
  instanceTypes := #[]
  staticTypes := #[]
  resolved := #[]
  callSites := []
  init := .initialized
  statics := none
  mirror := none

def pool0 : Array CpInfo := pool [(5, u "<init>"), (0, u "()V"), (1, .class_ 10), (1, u "java/lang/Object")] 113

def k0c0 : Code := { maxStack := 0, maxLocals := 1, code := object_method_1_code, exceptionTable := #[], attributes := #[] }
def k0m0 : Method := { name := "<init>", desc := "()V", sig := { parameters := [], returnType := none }, accessFlags := 1, code := some k0c0 }
/-- java/lang/Object -/
def k0 : Class := { plain "java/lang/Object" none with
  accessFlags := 33
  interfaces := #[]
  cf := some (fileOf pool0 8 #[] #[{ accessFlags := 1, nameIndex := 5, descriptorIndex := 6, attributes := #[] }] 33 0 #[] #[])
  fields := #[]
  methods := #[k0m0]
  instanceTypes := #[]
  staticTypes := #[]
  resolved := Array.replicate 124 none
  statics := none }

def pool1 : Array CpInfo := pool [(2, .class_ 4), (0, .nameAndType 5 6), (0, u "java/lang/Object"), (0, u "<init>"), (0, u "()V"), (0, .class_ 8), (0, u "java/lang/String"), (0, .methodref 7 10), (0, .nameAndType 5 11), (0, u "([C)V"), (0, .methodref 7 13), (0, .nameAndType 14 15), (0, u "valueOf"), (0, u "(C)Ljava/lang/String;"), (0, .class_ 17), (0, u "com/example/rosterlink/rosterlink/api/Schema"), (0, .methodref 16 19), (0, .nameAndType 5 20), (0, u "(Ljava/lang/String;Ljava/util/Map;)V"), (0, .class_ 22), (0, u "java/util/ArrayList"), (0, .methodref 21 3), (0, .class_ 25), (0, u "com/example/rosterlink/rosterlink/api/Operation"), (0, .methodref 24 27), (0, .nameAndType 5 28), (0, u "(Ljava/lang/String;Ljava/lang/String;ZLcom/example/rosterlink/rosterlink/api/Schema;Lcom/example/rosterlink/rosterlink/api/Schema;Ljava/util/List;)V"), (0, .methodref 24 30), (0, .nameAndType 31 32), (0, u "takes"), (0, u "(Lcom/example/rosterlink/rosterlink/api/Schema;)Lcom/example/rosterlink/rosterlink/api/Operation;"), (0, .methodref 24 34), (0, .nameAndType 35 36), (0, u "id"), (0, u "()Ljava/lang/String;"), (0, .methodref 24 38), (0, .nameAndType 39 36), (0, u "summary"), (0, .methodref 24 41), (0, .nameAndType 42 43), (0, u "keyed"), (0, u "()Z"), (0, .methodref 24 45), (0, .nameAndType 46 47), (0, u "body"), (0, u "()Lcom/example/rosterlink/rosterlink/api/Schema;"), (0, .methodref 24 49), (0, .nameAndType 50 47), (0, u "answer"), (0, .methodref 24 52), (0, .nameAndType 53 54), (0, u "query"), (0, u "()Ljava/util/List;"), (0, .class_ 56), (0, u "com/example/rosterlink/rosterlink/api/OperationTakesPinLaw"), (2, u "law"), (0, u "(III)Z")] 7

def k1m0 : Method := { name := "<init>", desc := "()V", sig := { parameters := [], returnType := none }, accessFlags := 1, code := none }
def k1c1 : Code := { maxStack := 8, maxLocals := 15, code := code, exceptionTable := #[], attributes := #[] }
def k1m1 : Method := { name := "law", desc := "(III)Z", sig := { parameters := [.int, .int, .int], returnType := some .boolean }, accessFlags := 9, code := some k1c1 }
/-- com/example/rosterlink/rosterlink/api/OperationTakesPinLaw -/
def k1 : Class := { plain "com/example/rosterlink/rosterlink/api/OperationTakesPinLaw" (some 0) with
  accessFlags := 49
  interfaces := #[]
  cf := some (fileOf pool1 55 #[] #[{ accessFlags := 1, nameIndex := 5, descriptorIndex := 6, attributes := #[] }, { accessFlags := 9, nameIndex := 59, descriptorIndex := 60, attributes := #[] }] 49 2 #[] #[])
  fields := #[]
  methods := #[k1m0, k1m1]
  instanceTypes := #[]
  staticTypes := #[]
  resolved := Array.replicate 68 none
  statics := none }

def pool2 : Array CpInfo := pool [(1, .class_ 2), (0, u "java/io/Serializable"), (0, .class_ 4), (0, u "java/lang/Object")] 2

/-- java/io/Serializable -/
def k2 : Class := { plain "java/io/Serializable" (some 0) with
  accessFlags := 1537
  interfaces := #[]
  cf := some (fileOf pool2 1 #[] #[] 1537 3 #[] #[])
  fields := #[]
  methods := #[]
  instanceTypes := #[]
  staticTypes := #[]
  resolved := Array.replicate 7 none
  statics := none }

def pool3 : Array CpInfo := pool [(1, .class_ 2), (0, u "java/lang/Comparable"), (0, .class_ 4), (0, u "java/lang/Object")] 7

/-- java/lang/Comparable -/
def k3 : Class := { plain "java/lang/Comparable" (some 0) with
  accessFlags := 1537
  interfaces := #[]
  cf := some (fileOf pool3 1 #[] #[] 1537 3 #[] #[])
  fields := #[]
  methods := #[]
  instanceTypes := #[]
  staticTypes := #[]
  resolved := Array.replicate 12 none
  statics := none }

def pool4 : Array CpInfo := pool [(2, .class_ 4), (1, u "java/lang/CharSequence"), (42, .class_ 48), (0, u "java/lang/CharSequence$1CodePointIterator"), (10, .class_ 60), (0, u "java/lang/CharSequence$1CharIterator"), (5, .class_ 67), (0, u "java/lang/Object")] 63

/-- java/lang/CharSequence -/
def k4 : Class := { plain "java/lang/CharSequence" (some 0) with
  accessFlags := 1537
  interfaces := #[]
  cf := some (fileOf pool4 2 #[.nestMembers #[47, 59]] #[] 1537 66 #[] #[])
  fields := #[]
  methods := #[]
  instanceTypes := #[]
  staticTypes := #[]
  resolved := Array.replicate 131 none
  statics := none }

def pool5 : Array CpInfo := pool [(1, .class_ 2), (0, u "java/lang/constant/Constable"), (0, .class_ 4), (0, u "java/lang/Object")] 6

/-- java/lang/constant/Constable -/
def k5 : Class := { plain "java/lang/constant/Constable" (some 0) with
  accessFlags := 1537
  interfaces := #[]
  cf := some (fileOf pool5 1 #[] #[] 1537 3 #[] #[])
  fields := #[]
  methods := #[]
  instanceTypes := #[]
  staticTypes := #[]
  resolved := Array.replicate 11 none
  statics := none }

def pool6 : Array CpInfo := pool [(1, .class_ 2), (0, u "java/lang/constant/ConstantDesc"), (0, .class_ 4), (0, u "java/lang/Object")] 32

/-- java/lang/constant/ConstantDesc -/
def k6 : Class := { plain "java/lang/constant/ConstantDesc" (some 0) with
  accessFlags := 1537
  interfaces := #[]
  cf := some (fileOf pool6 1 #[] #[] 1537 3 #[] #[])
  fields := #[]
  methods := #[]
  instanceTypes := #[]
  staticTypes := #[]
  resolved := Array.replicate 37 none
  statics := none }

def pool7 : Array CpInfo := pool [(1, .methodref 2 3), (0, .class_ 4), (0, .nameAndType 5 6), (0, u "java/lang/Object"), (0, u "<init>"), (0, u "()V"), (2, .fieldref 10 11), (0, .class_ 12), (0, .nameAndType 13 14), (0, u "java/lang/String"), (0, u "value"), (0, u "[B"), (0, .fieldref 10 16), (0, .nameAndType 17 18), (0, u "coder"), (0, u "B"), (2, u "hash"), (0, u "I"), (2, u "hashIsZero"), (0, u "Z"), (0, .methodref 10 28), (0, .nameAndType 5 29), (0, u "([CIILjava/lang/Void;)V"), (8, .fieldref 10 39), (0, .nameAndType 40 26), (0, u "COMPACT_STRINGS"), (1, .class_ 44), (1, u "java/lang/StringUTF16"), (0, u "compress"), (1, .methodref 42 48), (0, .nameAndType 49 50), (0, u "coderFromArrayLen"), (0, u "([BI)B"), (2, u "toBytes"), (53, .class_ 109), (1, u "java/lang/StringLatin1"), (67, .methodref 42 178), (0, .nameAndType 45 179), (0, u "([CII)[B"), (29, .methodref 10 210), (0, .nameAndType 5 211), (0, u "([BB)V"), (157, u "(C)Z"), (205, .class_ 576), (0, u "java/lang/CharSequence"), (22, u "CASE_INSENSITIVE_ORDER"), (0, u "Ljava/util/Comparator;"), (181, u "valueOf"), (0, u "(C)Ljava/lang/String;"), (226, u "([C)V"), (4, .methodref 107 1016), (0, .nameAndType 1017 369), (0, u "canEncode"), (0, .methodref 107 1019), (0, .nameAndType 53 1020), (0, u "(C)[B"), (80, u "serialPersistentFields"), (0, u "[Ljava/io/ObjectStreamField;"), (0, .class_ 1104), (0, u "java/lang/String$CaseInsensitiveComparator"), (1, .class_ 1107), (0, u "java/io/Serializable"), (0, .class_ 1109), (0, u "java/lang/Comparable"), (0, .class_ 1111), (0, u "java/lang/constant/Constable"), (0, .class_ 1113), (0, u "java/lang/constant/ConstantDesc"), (2, u "serialVersionUID"), (0, u "J"), (3, u "REPL"), (0, u "C"), (2, u "LATIN1"), (1, u "UTF16")] 323

def k7m0 : Method := { name := "<init>", desc := "()V", sig := { parameters := [], returnType := none }, accessFlags := 1, code := none }
def k7c1 : Code := { maxStack := 5, maxLocals := 2, code := jdk_42_method_3_code, exceptionTable := #[], attributes := #[] }
def k7m1 : Method := { name := "<init>", desc := "([C)V", sig := { parameters := [(.array .char)], returnType := none }, accessFlags := 1, code := some k7c1 }
def k7c2 : Code := { maxStack := 4, maxLocals := 1, code := jdk_42_method_139_code, exceptionTable := #[], attributes := #[] }
def k7m2 : Method := { name := "valueOf", desc := "(C)Ljava/lang/String;", sig := { parameters := [.char], returnType := some (.object "java/lang/String") }, accessFlags := 9, code := some k7c2 }
def k7c3 : Code := { maxStack := 4, maxLocals := 6, code := jdk_42_method_149_code, exceptionTable := #[], attributes := #[] }
def k7m3 : Method := { name := "<init>", desc := "([CIILjava/lang/Void;)V", sig := { parameters := [(.array .char), .int, .int, (.object "java/lang/Void")], returnType := none }, accessFlags := 2, code := some k7c3 }
def k7c4 : Code := { maxStack := 2, maxLocals := 3, code := jdk_42_method_151_code, exceptionTable := #[], attributes := #[] }
def k7m4 : Method := { name := "<init>", desc := "([BB)V", sig := { parameters := [(.array .byte), .byte], returnType := none }, accessFlags := 0, code := some k7c4 }
/-- java/lang/String -/
def k7 : Class := { plain "java/lang/String" (some 0) with
  accessFlags := 49
  interfaces := #[2, 3, 4, 5, 6]
  cf := some (fileOf pool7 10 #[.nestMembers #[1103]] #[{ accessFlags := 1, nameIndex := 5, descriptorIndex := 6, attributes := #[] }, { accessFlags := 1, nameIndex := 5, descriptorIndex := 1010, attributes := #[] }, { accessFlags := 9, nameIndex := 782, descriptorIndex := 783, attributes := #[] }, { accessFlags := 2, nameIndex := 5, descriptorIndex := 29, attributes := #[] }, { accessFlags := 0, nameIndex := 5, descriptorIndex := 211, attributes := #[] }] 49 2 #[1106, 1108, 575, 1110, 1112] #[{ accessFlags := 18, nameIndex := 13, descriptorIndex := 14, attributes := #[] }, { accessFlags := 18, nameIndex := 17, descriptorIndex := 18, attributes := #[] }, { accessFlags := 2, nameIndex := 21, descriptorIndex := 22, attributes := #[] }, { accessFlags := 2, nameIndex := 25, descriptorIndex := 26, attributes := #[] }, { accessFlags := 26, nameIndex := 1116, descriptorIndex := 1117, attributes := #[] }, { accessFlags := 24, nameIndex := 40, descriptorIndex := 26, attributes := #[] }, { accessFlags := 26, nameIndex := 1101, descriptorIndex := 1102, attributes := #[] }, { accessFlags := 26, nameIndex := 1121, descriptorIndex := 1122, attributes := #[] }, { accessFlags := 25, nameIndex := 599, descriptorIndex := 600, attributes := #[] }, { accessFlags := 24, nameIndex := 1125, descriptorIndex := 18, attributes := #[] }, { accessFlags := 24, nameIndex := 1127, descriptorIndex := 18, attributes := #[] }])
  fields := #[{ name := "value", type := (.array .byte), accessFlags := 18, slot := 0, constantValue := 0 }, { name := "coder", type := .byte, accessFlags := 18, slot := 1, constantValue := 0 }, { name := "hash", type := .int, accessFlags := 2, slot := 2, constantValue := 0 }, { name := "hashIsZero", type := .boolean, accessFlags := 2, slot := 3, constantValue := 0 }, { name := "serialVersionUID", type := .long, accessFlags := 26, slot := 0, constantValue := 0 }, { name := "COMPACT_STRINGS", type := .boolean, accessFlags := 24, slot := 1, constantValue := 0 }, { name := "serialPersistentFields", type := (.array (.object "java/io/ObjectStreamField")), accessFlags := 26, slot := 2, constantValue := 0 }, { name := "REPL", type := .char, accessFlags := 26, slot := 3, constantValue := 0 }, { name := "CASE_INSENSITIVE_ORDER", type := (.object "java/util/Comparator"), accessFlags := 25, slot := 4, constantValue := 0 }, { name := "LATIN1", type := .byte, accessFlags := 24, slot := 5, constantValue := 0 }, { name := "UTF16", type := .byte, accessFlags := 24, slot := 6, constantValue := 0 }]
  methods := #[k7m0, k7m1, k7m2, k7m3, k7m4]
  instanceTypes := #[(.array .byte), .byte, .int, .boolean]
  staticTypes := #[.long, .boolean, (.array (.object "java/io/ObjectStreamField")), .char, (.object "java/util/Comparator"), .byte, .byte]
  resolved := Array.replicate 1451 none
  statics := some 0 }

def pool8 : Array CpInfo := pool [(6, .class_ 8), (1, u "java/lang/Object"), (0, u "<init>"), (0, u "()V"), (1, .class_ 14), (1, u "java/lang/StringUTF16"), (31, u "$assertionsDisabled"), (0, u "Z"), (13, u "HI_BYTE_SHIFT"), (0, u "I"), (2, u "LO_BYTE_SHIFT"), (49, .methodref 12 116), (0, .nameAndType 117 118), (0, u "compress"), (0, u "([CI[BII)I"), (3, u "([CII)[B"), (138, u "coderFromArrayLen"), (0, u "([BI)B"), (106, .class_ 371), (1, u "java/lang/StringUTF16$LinesSpliterator"), (58, u "MAX_LENGTH"), (196, .class_ 628), (0, u "java/lang/StringUTF16$CodePointsSpliterator"), (0, .class_ 630), (0, u "java/lang/StringUTF16$CharsSpliterator")] 4

def k8m0 : Method := { name := "<init>", desc := "()V", sig := { parameters := [], returnType := none }, accessFlags := 0, code := none }
def k8c1 : Code := { maxStack := 2, maxLocals := 2, code := jdk_52_method_15_code, exceptionTable := #[], attributes := #[] }
def k8m1 : Method := { name := "coderFromArrayLen", desc := "([BI)B", sig := { parameters := [(.array .byte), .int], returnType := some .byte }, accessFlags := 8, code := some k8c1 }
def k8c2 : Code := { maxStack := 5, maxLocals := 6, code := jdk_52_method_16_code, exceptionTable := #[], attributes := #[] }
def k8m2 : Method := { name := "compress", desc := "([CII)[B", sig := { parameters := [(.array .char), .int, .int], returnType := some (.array .byte) }, accessFlags := 9, code := some k8c2 }
def k8c3 : Code := { maxStack := 3, maxLocals := 7, code := jdk_52_method_21_code, exceptionTable := #[], attributes := #[] }
def k8m3 : Method := { name := "compress", desc := "([CI[BII)I", sig := { parameters := [(.array .char), .int, (.array .byte), .int, .int], returnType := some .int }, accessFlags := 9, code := some k8c3 }
/-- java/lang/StringUTF16 -/
def k8 : Class := { plain "java/lang/StringUTF16" (some 0) with
  accessFlags := 48
  interfaces := #[]
  cf := some (fileOf pool8 12 #[.nestMembers #[627, 629, 369]] #[{ accessFlags := 0, nameIndex := 9, descriptorIndex := 10, attributes := #[] }, { accessFlags := 8, nameIndex := 261, descriptorIndex := 262, attributes := #[] }, { accessFlags := 9, nameIndex := 117, descriptorIndex := 122, attributes := #[] }, { accessFlags := 9, nameIndex := 117, descriptorIndex := 118, attributes := #[] }] 48 6 #[] #[{ accessFlags := 26, nameIndex := 61, descriptorIndex := 62, attributes := #[] }, { accessFlags := 26, nameIndex := 65, descriptorIndex := 62, attributes := #[] }, { accessFlags := 24, nameIndex := 430, descriptorIndex := 62, attributes := #[] }, { accessFlags := 4120, nameIndex := 46, descriptorIndex := 47, attributes := #[] }])
  fields := #[{ name := "HI_BYTE_SHIFT", type := .int, accessFlags := 26, slot := 0, constantValue := 0 }, { name := "LO_BYTE_SHIFT", type := .int, accessFlags := 26, slot := 1, constantValue := 0 }, { name := "MAX_LENGTH", type := .int, accessFlags := 24, slot := 2, constantValue := 0 }, { name := "$assertionsDisabled", type := .boolean, accessFlags := 4120, slot := 3, constantValue := 0 }]
  methods := #[k8m0, k8m1, k8m2, k8m3]
  instanceTypes := #[]
  staticTypes := #[.int, .int, .int, .boolean]
  resolved := Array.replicate 635 none
  statics := none }

def pool9 : Array CpInfo := pool [(4, .class_ 6), (1, u "java/lang/Object"), (0, u "<init>"), (0, u "()V"), (5, .class_ 16), (1, u "java/lang/StringLatin1"), (73, u "canEncode"), (14, u "(C)Z"), (15, u "$assertionsDisabled"), (0, u "Z"), (98, .class_ 223), (1, u "java/lang/StringLatin1$LinesSpliterator"), (156, u "toBytes"), (1, u "(C)[B"), (7, .class_ 391), (0, u "java/lang/StringLatin1$CharsSpliterator")] 3

def k9m0 : Method := { name := "<init>", desc := "()V", sig := { parameters := [], returnType := none }, accessFlags := 0, code := none }
def k9c1 : Code := { maxStack := 2, maxLocals := 1, code := jdk_43_method_3_code, exceptionTable := #[], attributes := #[] }
def k9m1 : Method := { name := "canEncode", desc := "(C)Z", sig := { parameters := [.char], returnType := some .boolean }, accessFlags := 9, code := some k9c1 }
def k9c2 : Code := { maxStack := 4, maxLocals := 1, code := jdk_43_method_46_code, exceptionTable := #[], attributes := #[] }
def k9m2 : Method := { name := "toBytes", desc := "(C)[B", sig := { parameters := [.char], returnType := some (.array .byte) }, accessFlags := 9, code := some k9c2 }
/-- java/lang/StringLatin1 -/
def k9 : Class := { plain "java/lang/StringLatin1" (some 0) with
  accessFlags := 48
  interfaces := #[]
  cf := some (fileOf pool9 14 #[.nestMembers #[390, 221]] #[{ accessFlags := 0, nameIndex := 7, descriptorIndex := 8, attributes := #[] }, { accessFlags := 9, nameIndex := 90, descriptorIndex := 105, attributes := #[] }, { accessFlags := 9, nameIndex := 380, descriptorIndex := 382, attributes := #[] }] 48 4 #[] #[{ accessFlags := 4120, nameIndex := 121, descriptorIndex := 122, attributes := #[] }])
  fields := #[{ name := "$assertionsDisabled", type := .boolean, accessFlags := 4120, slot := 0, constantValue := 0 }]
  methods := #[k9m0, k9m1, k9m2]
  instanceTypes := #[]
  staticTypes := #[.boolean]
  resolved := Array.replicate 395 none
  statics := none }

def pool10 : Array CpInfo := pool [(1, .methodref 2 3), (0, .class_ 4), (0, .nameAndType 5 6), (0, u "java/lang/Object"), (0, u "<init>"), (0, u "()V"), (0, .class_ 8), (0, u "java/lang/Record")] 13

def k10c0 : Code := { maxStack := 1, maxLocals := 1, code := jdk_30_method_1_code, exceptionTable := #[], attributes := #[] }
def k10m0 : Method := { name := "<init>", desc := "()V", sig := { parameters := [], returnType := none }, accessFlags := 4, code := some k10c0 }
/-- java/lang/Record -/
def k10 : Class := { plain "java/lang/Record" (some 0) with
  accessFlags := 1057
  interfaces := #[]
  cf := some (fileOf pool10 7 #[] #[{ accessFlags := 4, nameIndex := 5, descriptorIndex := 6, attributes := #[] }] 1057 2 #[] #[])
  fields := #[]
  methods := #[k10m0]
  instanceTypes := #[]
  staticTypes := #[]
  resolved := Array.replicate 22 none
  statics := none }

def pool11 : Array CpInfo := pool [(1, .methodref 2 3), (0, .class_ 4), (0, .nameAndType 5 6), (0, u "java/lang/Record"), (0, u "<init>"), (0, u "()V"), (0, .fieldref 8 9), (0, .class_ 10), (0, .nameAndType 11 12), (0, u "com/example/rosterlink/rosterlink/api/Schema"), (0, u "name"), (0, u "Ljava/lang/String;"), (0, .fieldref 8 14), (0, .nameAndType 15 16), (0, u "definition"), (0, u "Ljava/util/Map;"), (122, .class_ 141), (1, u "com/example/rosterlink/rosterlink/api/Schema$Property"), (28, u "(Ljava/lang/String;Ljava/util/Map;)V")] 131

def k11c0 : Code := { maxStack := 2, maxLocals := 3, code := prog_8_method_1_code, exceptionTable := #[], attributes := #[] }
def k11m0 : Method := { name := "<init>", desc := "(Ljava/lang/String;Ljava/util/Map;)V", sig := { parameters := [(.object "java/lang/String"), (.object "java/util/Map")], returnType := none }, accessFlags := 0, code := some k11c0 }
/-- com/example/rosterlink/rosterlink/api/Schema -/
def k11 : Class := { plain "com/example/rosterlink/rosterlink/api/Schema" (some 10) with
  accessFlags := 48
  interfaces := #[]
  cf := some (fileOf pool11 8 #[.nestMembers #[139]] #[{ accessFlags := 0, nameIndex := 5, descriptorIndex := 170, attributes := #[] }] 48 2 #[] #[{ accessFlags := 18, nameIndex := 11, descriptorIndex := 12, attributes := #[] }, { accessFlags := 18, nameIndex := 15, descriptorIndex := 16, attributes := #[] }])
  fields := #[{ name := "name", type := (.object "java/lang/String"), accessFlags := 18, slot := 0, constantValue := 0 }, { name := "definition", type := (.object "java/util/Map"), accessFlags := 18, slot := 1, constantValue := 0 }]
  methods := #[k11m0]
  instanceTypes := #[(.object "java/lang/String"), (.object "java/util/Map")]
  staticTypes := #[]
  resolved := Array.replicate 302 none
  statics := none }

def pool12 : Array CpInfo := pool [(1, .methodref 2 3), (0, .class_ 4), (0, .nameAndType 5 6), (0, u "java/lang/Record"), (0, u "<init>"), (0, u "()V"), (0, .fieldref 8 9), (0, .class_ 10), (0, .nameAndType 11 12), (0, u "com/example/rosterlink/rosterlink/api/Operation"), (0, u "id"), (0, u "Ljava/lang/String;"), (0, .fieldref 8 14), (0, .nameAndType 15 12), (0, u "summary"), (0, .fieldref 8 17), (0, .nameAndType 18 19), (0, u "keyed"), (0, u "Z"), (0, .fieldref 8 21), (0, .nameAndType 22 23), (0, u "body"), (0, u "Lcom/example/rosterlink/rosterlink/api/Schema;"), (0, .fieldref 8 25), (0, .nameAndType 26 23), (0, u "answer"), (0, .fieldref 8 28), (0, .nameAndType 29 30), (0, u "query"), (0, u "Ljava/util/List;"), (5, u "()Ljava/util/List;"), (0, .methodref 8 38), (0, .nameAndType 5 39), (0, u "(Ljava/lang/String;Ljava/lang/String;ZLcom/example/rosterlink/rosterlink/api/Schema;Lcom/example/rosterlink/rosterlink/api/Schema;Ljava/util/List;)V"), (22, u "takes"), (0, u "(Lcom/example/rosterlink/rosterlink/api/Schema;)Lcom/example/rosterlink/rosterlink/api/Operation;"), (4, u "()Ljava/lang/String;"), (2, u "()Z"), (0, u "()Lcom/example/rosterlink/rosterlink/api/Schema;"), (4, .class_ 78), (0, u "com/example/rosterlink/rosterlink/api/Operation$Parameter")] 24

def k12c0 : Code := { maxStack := 2, maxLocals := 7, code := prog_5_method_1_code, exceptionTable := #[], attributes := #[] }
def k12m0 : Method := { name := "<init>", desc := "(Ljava/lang/String;Ljava/lang/String;ZLcom/example/rosterlink/rosterlink/api/Schema;Lcom/example/rosterlink/rosterlink/api/Schema;Ljava/util/List;)V", sig := { parameters := [(.object "java/lang/String"), (.object "java/lang/String"), .boolean, (.object "com/example/rosterlink/rosterlink/api/Schema"), (.object "com/example/rosterlink/rosterlink/api/Schema"), (.object "java/util/List")], returnType := none }, accessFlags := 0, code := some k12c0 }
def k12c1 : Code := { maxStack := 8, maxLocals := 2, code := prog_5_method_3_code, exceptionTable := #[], attributes := #[] }
def k12m1 : Method := { name := "takes", desc := "(Lcom/example/rosterlink/rosterlink/api/Schema;)Lcom/example/rosterlink/rosterlink/api/Operation;", sig := { parameters := [(.object "com/example/rosterlink/rosterlink/api/Schema")], returnType := some (.object "com/example/rosterlink/rosterlink/api/Operation") }, accessFlags := 0, code := some k12c1 }
def k12c2 : Code := { maxStack := 1, maxLocals := 1, code := prog_5_method_9_code, exceptionTable := #[], attributes := #[] }
def k12m2 : Method := { name := "id", desc := "()Ljava/lang/String;", sig := { parameters := [], returnType := some (.object "java/lang/String") }, accessFlags := 1, code := some k12c2 }
def k12c3 : Code := { maxStack := 1, maxLocals := 1, code := prog_5_method_10_code, exceptionTable := #[], attributes := #[] }
def k12m3 : Method := { name := "summary", desc := "()Ljava/lang/String;", sig := { parameters := [], returnType := some (.object "java/lang/String") }, accessFlags := 1, code := some k12c3 }
def k12c4 : Code := { maxStack := 1, maxLocals := 1, code := prog_5_method_11_code, exceptionTable := #[], attributes := #[] }
def k12m4 : Method := { name := "keyed", desc := "()Z", sig := { parameters := [], returnType := some .boolean }, accessFlags := 1, code := some k12c4 }
def k12c5 : Code := { maxStack := 1, maxLocals := 1, code := prog_5_method_12_code, exceptionTable := #[], attributes := #[] }
def k12m5 : Method := { name := "body", desc := "()Lcom/example/rosterlink/rosterlink/api/Schema;", sig := { parameters := [], returnType := some (.object "com/example/rosterlink/rosterlink/api/Schema") }, accessFlags := 1, code := some k12c5 }
def k12c6 : Code := { maxStack := 1, maxLocals := 1, code := prog_5_method_13_code, exceptionTable := #[], attributes := #[] }
def k12m6 : Method := { name := "answer", desc := "()Lcom/example/rosterlink/rosterlink/api/Schema;", sig := { parameters := [], returnType := some (.object "com/example/rosterlink/rosterlink/api/Schema") }, accessFlags := 1, code := some k12c6 }
def k12c7 : Code := { maxStack := 1, maxLocals := 1, code := prog_5_method_14_code, exceptionTable := #[], attributes := #[] }
def k12m7 : Method := { name := "query", desc := "()Ljava/util/List;", sig := { parameters := [], returnType := some (.object "java/util/List") }, accessFlags := 1, code := some k12c7 }
/-- com/example/rosterlink/rosterlink/api/Operation -/
def k12 : Class := { plain "com/example/rosterlink/rosterlink/api/Operation" (some 10) with
  accessFlags := 48
  interfaces := #[]
  cf := some (fileOf pool12 8 #[.nestMembers #[77]] #[{ accessFlags := 0, nameIndex := 5, descriptorIndex := 39, attributes := #[] }, { accessFlags := 0, nameIndex := 62, descriptorIndex := 63, attributes := #[] }, { accessFlags := 1, nameIndex := 11, descriptorIndex := 68, attributes := #[] }, { accessFlags := 1, nameIndex := 15, descriptorIndex := 68, attributes := #[] }, { accessFlags := 1, nameIndex := 18, descriptorIndex := 71, attributes := #[] }, { accessFlags := 1, nameIndex := 22, descriptorIndex := 72, attributes := #[] }, { accessFlags := 1, nameIndex := 26, descriptorIndex := 72, attributes := #[] }, { accessFlags := 1, nameIndex := 29, descriptorIndex := 36, attributes := #[] }] 48 2 #[] #[{ accessFlags := 18, nameIndex := 11, descriptorIndex := 12, attributes := #[] }, { accessFlags := 18, nameIndex := 15, descriptorIndex := 12, attributes := #[] }, { accessFlags := 18, nameIndex := 18, descriptorIndex := 19, attributes := #[] }, { accessFlags := 18, nameIndex := 22, descriptorIndex := 23, attributes := #[] }, { accessFlags := 18, nameIndex := 26, descriptorIndex := 23, attributes := #[] }, { accessFlags := 18, nameIndex := 29, descriptorIndex := 30, attributes := #[] }])
  fields := #[{ name := "id", type := (.object "java/lang/String"), accessFlags := 18, slot := 0, constantValue := 0 }, { name := "summary", type := (.object "java/lang/String"), accessFlags := 18, slot := 1, constantValue := 0 }, { name := "keyed", type := .boolean, accessFlags := 18, slot := 2, constantValue := 0 }, { name := "body", type := (.object "com/example/rosterlink/rosterlink/api/Schema"), accessFlags := 18, slot := 3, constantValue := 0 }, { name := "answer", type := (.object "com/example/rosterlink/rosterlink/api/Schema"), accessFlags := 18, slot := 4, constantValue := 0 }, { name := "query", type := (.object "java/util/List"), accessFlags := 18, slot := 5, constantValue := 0 }]
  methods := #[k12m0, k12m1, k12m2, k12m3, k12m4, k12m5, k12m6, k12m7]
  instanceTypes := #[(.object "java/lang/String"), (.object "java/lang/String"), .boolean, (.object "com/example/rosterlink/rosterlink/api/Schema"), (.object "com/example/rosterlink/rosterlink/api/Schema"), (.object "java/util/List")]
  staticTypes := #[]
  resolved := Array.replicate 103 none
  statics := none }

def pool13 : Array CpInfo := pool [(8, .class_ 10), (1, u "java/lang/Iterable"), (24, .class_ 36), (0, u "java/lang/Object")] 25

/-- java/lang/Iterable -/
def k13 : Class := { plain "java/lang/Iterable" (some 0) with
  accessFlags := 1537
  interfaces := #[]
  cf := some (fileOf pool13 8 #[] #[] 1537 35 #[] #[])
  fields := #[]
  methods := #[]
  instanceTypes := #[]
  staticTypes := #[]
  resolved := Array.replicate 62 none
  statics := none }

def pool14 : Array CpInfo := pool [(10, .class_ 12), (1, u "java/util/Collection"), (47, .class_ 61), (0, u "java/lang/Object"), (0, .class_ 63), (0, u "java/lang/Iterable")] 51

/-- java/util/Collection -/
def k14 : Class := { plain "java/util/Collection" (some 0) with
  accessFlags := 1537
  interfaces := #[13]
  cf := some (fileOf pool14 10 #[] #[] 1537 60 #[62] #[])
  fields := #[]
  methods := #[]
  instanceTypes := #[]
  staticTypes := #[]
  resolved := Array.replicate 115 none
  statics := none }

def pool15 : Array CpInfo := pool [(1, .methodref 2 3), (0, .class_ 4), (0, .nameAndType 5 6), (0, u "java/lang/Object"), (0, u "<init>"), (0, u "()V"), (1, .class_ 10), (1, u "java/util/AbstractCollection"), (66, .class_ 78), (0, u "java/util/Collection")] 81

def k15c0 : Code := { maxStack := 1, maxLocals := 1, code := jdk_22_method_1_code, exceptionTable := #[], attributes := #[] }
def k15m0 : Method := { name := "<init>", desc := "()V", sig := { parameters := [], returnType := none }, accessFlags := 4, code := some k15c0 }
/-- java/util/AbstractCollection -/
def k15 : Class := { plain "java/util/AbstractCollection" (some 0) with
  accessFlags := 1057
  interfaces := #[14]
  cf := some (fileOf pool15 8 #[] #[{ accessFlags := 4, nameIndex := 5, descriptorIndex := 6, attributes := #[] }] 1057 2 #[77] #[])
  fields := #[]
  methods := #[k15m0]
  instanceTypes := #[]
  staticTypes := #[]
  resolved := Array.replicate 160 none
  statics := none }

def pool16 : Array CpInfo := pool [(8, .class_ 10), (1, u "java/util/SequencedCollection"), (15, .class_ 27), (0, u "java/lang/Object"), (0, .class_ 29), (0, u "java/util/Collection")] 27

/-- java/util/SequencedCollection -/
def k16 : Class := { plain "java/util/SequencedCollection" (some 0) with
  accessFlags := 1537
  interfaces := #[14]
  cf := some (fileOf pool16 8 #[] #[] 1537 26 #[28] #[])
  fields := #[]
  methods := #[]
  instanceTypes := #[]
  staticTypes := #[]
  resolved := Array.replicate 57 none
  statics := none }

def pool17 : Array CpInfo := pool [(8, .class_ 10), (1, u "java/util/List"), (92, .class_ 104), (0, u "java/lang/Object"), (15, .class_ 121), (0, u "java/util/SequencedCollection")] 129

/-- java/util/List -/
def k17 : Class := { plain "java/util/List" (some 0) with
  accessFlags := 1537
  interfaces := #[16]
  cf := some (fileOf pool17 8 #[] #[] 1537 103 #[120] #[])
  fields := #[]
  methods := #[]
  instanceTypes := #[]
  staticTypes := #[]
  resolved := Array.replicate 251 none
  statics := none }

def pool18 : Array CpInfo := pool [(1, .methodref 2 3), (0, .class_ 4), (0, .nameAndType 5 6), (0, u "java/util/AbstractCollection"), (0, u "<init>"), (0, u "()V"), (0, .fieldref 8 9), (0, .class_ 10), (0, .nameAndType 11 12), (0, u "java/util/AbstractList"), (0, u "modCount"), (0, u "I"), (64, .class_ 78), (0, u "java/util/AbstractList$Itr"), (3, .class_ 83), (0, u "java/util/AbstractList$ListItr"), (9, .class_ 94), (0, u "java/util/AbstractList$RandomAccessSubList"), (3, .class_ 99), (0, u "java/util/AbstractList$SubList"), (33, .class_ 134), (0, u "java/util/List"), (73, .class_ 209), (0, u "java/util/AbstractList$SubList$1"), (0, .class_ 211), (0, u "java/util/AbstractList$RandomAccessSpliterator")] 6

def k18c0 : Code := { maxStack := 2, maxLocals := 1, code := jdk_39_method_1_code, exceptionTable := #[], attributes := #[] }
def k18m0 : Method := { name := "<init>", desc := "()V", sig := { parameters := [], returnType := none }, accessFlags := 4, code := some k18c0 }
/-- java/util/AbstractList -/
def k18 : Class := { plain "java/util/AbstractList" (some 15) with
  accessFlags := 1057
  interfaces := #[17]
  cf := some (fileOf pool18 8 #[.nestMembers #[93, 98, 208, 210, 82, 77]] #[{ accessFlags := 4, nameIndex := 5, descriptorIndex := 6, attributes := #[] }] 1057 2 #[133] #[{ accessFlags := 132, nameIndex := 11, descriptorIndex := 12, attributes := #[] }])
  fields := #[{ name := "modCount", type := .int, accessFlags := 132, slot := 0, constantValue := 0 }]
  methods := #[k18m0]
  instanceTypes := #[.int]
  staticTypes := #[]
  resolved := Array.replicate 218 none
  statics := none }

def pool19 : Array CpInfo := pool [(1, .class_ 2), (0, u "java/util/RandomAccess"), (0, .class_ 4), (0, u "java/lang/Object")] 2

/-- java/util/RandomAccess -/
def k19 : Class := { plain "java/util/RandomAccess" (some 0) with
  accessFlags := 1537
  interfaces := #[]
  cf := some (fileOf pool19 1 #[] #[] 1537 3 #[] #[])
  fields := #[]
  methods := #[]
  instanceTypes := #[]
  staticTypes := #[]
  resolved := Array.replicate 7 none
  statics := none }

def pool20 : Array CpInfo := pool [(1, .class_ 2), (0, u "java/lang/Cloneable"), (0, .class_ 4), (0, u "java/lang/Object")] 2

/-- java/lang/Cloneable -/
def k20 : Class := { plain "java/lang/Cloneable" (some 0) with
  accessFlags := 1537
  interfaces := #[]
  cf := some (fileOf pool20 1 #[] #[] 1537 3 #[] #[])
  fields := #[]
  methods := #[]
  instanceTypes := #[]
  staticTypes := #[]
  resolved := Array.replicate 7 none
  statics := none }

def pool21 : Array CpInfo := pool [(1, .methodref 2 3), (0, .class_ 4), (0, .nameAndType 5 6), (0, u "java/util/AbstractList"), (0, u "<init>"), (0, u "()V"), (2, .fieldref 10 11), (0, .class_ 12), (0, .nameAndType 13 14), (0, u "java/util/ArrayList"), (0, u "elementData"), (0, u "[Ljava/lang/Object;"), (2, u "EMPTY_ELEMENTDATA"), (21, .fieldref 10 40), (0, .nameAndType 41 14), (0, u "DEFAULTCAPACITY_EMPTY_ELEMENTDATA"), (8, u "size"), (0, u "I"), (96, .class_ 149), (0, u "java/util/List"), (112, .class_ 263), (0, u "java/util/ArrayList$ListItr"), (3, .class_ 268), (0, u "java/util/ArrayList$Itr"), (7, .class_ 277), (0, u "java/util/ArrayList$SubList"), (12, .class_ 291), (0, u "java/util/ArrayList$ArrayListSpliterator"), (37, .class_ 330), (0, u "java/util/RandomAccess"), (0, .class_ 332), (0, u "java/lang/Cloneable"), (0, .class_ 334), (0, u "java/io/Serializable"), (0, u "serialVersionUID"), (0, u "J"), (3, u "DEFAULT_CAPACITY"), (159, .class_ 501), (0, u "java/util/ArrayList$SubList$2"), (0, .class_ 503), (0, u "java/util/ArrayList$SubList$1")] 5

def k21c0 : Code := { maxStack := 2, maxLocals := 1, code := jdk_38_method_2_code, exceptionTable := #[], attributes := #[] }
def k21m0 : Method := { name := "<init>", desc := "()V", sig := { parameters := [], returnType := none }, accessFlags := 1, code := some k21c0 }
/-- java/util/ArrayList -/
def k21 : Class := { plain "java/util/ArrayList" (some 18) with
  accessFlags := 33
  interfaces := #[17, 19, 20, 2]
  cf := some (fileOf pool21 10 #[.nestMembers #[290, 276, 500, 502, 262, 267]] #[{ accessFlags := 1, nameIndex := 5, descriptorIndex := 6, attributes := #[] }] 33 2 #[148, 329, 331, 333] #[{ accessFlags := 26, nameIndex := 335, descriptorIndex := 336, attributes := #[] }, { accessFlags := 26, nameIndex := 340, descriptorIndex := 51, attributes := #[] }, { accessFlags := 26, nameIndex := 17, descriptorIndex := 14, attributes := #[] }, { accessFlags := 26, nameIndex := 41, descriptorIndex := 14, attributes := #[] }, { accessFlags := 128, nameIndex := 13, descriptorIndex := 14, attributes := #[] }, { accessFlags := 2, nameIndex := 50, descriptorIndex := 51, attributes := #[] }])
  fields := #[{ name := "serialVersionUID", type := .long, accessFlags := 26, slot := 0, constantValue := 0 }, { name := "DEFAULT_CAPACITY", type := .int, accessFlags := 26, slot := 1, constantValue := 0 }, { name := "EMPTY_ELEMENTDATA", type := (.array (.object "java/lang/Object")), accessFlags := 26, slot := 2, constantValue := 0 }, { name := "DEFAULTCAPACITY_EMPTY_ELEMENTDATA", type := (.array (.object "java/lang/Object")), accessFlags := 26, slot := 3, constantValue := 0 }, { name := "elementData", type := (.array (.object "java/lang/Object")), accessFlags := 128, slot := 1, constantValue := 0 }, { name := "size", type := .int, accessFlags := 2, slot := 2, constantValue := 0 }]
  methods := #[k21m0]
  instanceTypes := #[.int, (.array (.object "java/lang/Object")), .int]
  staticTypes := #[.long, .int, (.array (.object "java/lang/Object")), (.array (.object "java/lang/Object"))]
  resolved := Array.replicate 509 none
  statics := some 1 }

def pool22 : Array CpInfo := pool [(2, .class_ 4), (1, u "java/lang/Object"), (0, u "<init>"), (0, u "()V"), (17, .class_ 26), (1, u "jdk/internal/util/Preconditions"), (28, .class_ 56), (0, u "jdk/internal/util/Preconditions$4"), (57, .class_ 115), (0, u "jdk/internal/util/Preconditions$1"), (7, u "SIOOBE_FORMATTER"), (0, u "Ljava/util/function/BiFunction;"), (0, .class_ 126), (0, u "jdk/internal/util/Preconditions$2"), (3, u "AIOOBE_FORMATTER"), (0, .class_ 132), (0, u "jdk/internal/util/Preconditions$3"), (3, u "IOOBE_FORMATTER")] 57

def k22m0 : Method := { name := "<init>", desc := "()V", sig := { parameters := [], returnType := none }, accessFlags := 1, code := none }
/-- jdk/internal/util/Preconditions -/
def k22 : Class := { plain "jdk/internal/util/Preconditions" (some 0) with
  accessFlags := 33
  interfaces := #[]
  cf := some (fileOf pool22 24 #[.nestMembers #[55, 131, 125, 114]] #[{ accessFlags := 1, nameIndex := 5, descriptorIndex := 6, attributes := #[] }] 33 2 #[] #[{ accessFlags := 25, nameIndex := 123, descriptorIndex := 124, attributes := #[] }, { accessFlags := 25, nameIndex := 130, descriptorIndex := 124, attributes := #[] }, { accessFlags := 25, nameIndex := 136, descriptorIndex := 124, attributes := #[] }])
  fields := #[{ name := "SIOOBE_FORMATTER", type := (.object "java/util/function/BiFunction"), accessFlags := 25, slot := 0, constantValue := 0 }, { name := "AIOOBE_FORMATTER", type := (.object "java/util/function/BiFunction"), accessFlags := 25, slot := 1, constantValue := 0 }, { name := "IOOBE_FORMATTER", type := (.object "java/util/function/BiFunction"), accessFlags := 25, slot := 2, constantValue := 0 }]
  methods := #[k22m0]
  instanceTypes := #[]
  staticTypes := #[(.object "java/util/function/BiFunction"), (.object "java/util/function/BiFunction"), (.object "java/util/function/BiFunction")]
  resolved := Array.replicate 194 none
  statics := some 2 }

def pool23 : Array CpInfo := pool [(9, u "<init>"), (6, .class_ 18), (1, u "java/lang/Object"), (0, u "()V"), (1, .class_ 23), (1, u "jdk/internal/util/ArraysSupport"), (0, u "LOG2_ARRAY_LONG_INDEX_SCALE"), (0, u "I"), (2, u "U"), (0, u "Ljdk/internal/misc/Unsafe;"), (8, u "BIG_ENDIAN"), (0, u "Z"), (8, u "LOG2_BYTE_BIT_SIZE"), (4, u "LOG2_ARRAY_INT_INDEX_SCALE"), (54, u "JLA"), (0, u "Ljdk/internal/access/JavaLangAccess;"), (11, u "LOG2_ARRAY_BOOLEAN_INDEX_SCALE"), (9, u "LOG2_ARRAY_BYTE_INDEX_SCALE"), (5, u "LOG2_ARRAY_CHAR_INDEX_SCALE"), (5, u "LOG2_ARRAY_SHORT_INDEX_SCALE"), (18, u "LOG2_ARRAY_FLOAT_INDEX_SCALE"), (24, u "LOG2_ARRAY_DOUBLE_INDEX_SCALE"), (89, u "T_BOOLEAN"), (2, u "T_CHAR"), (1, u "T_FLOAT"), (1, u "T_DOUBLE"), (1, u "T_BYTE"), (1, u "T_SHORT"), (1, u "T_INT"), (1, u "T_LONG"), (1, u "SOFT_MAX_ARRAY_LENGTH")] 83

def k23m0 : Method := { name := "<init>", desc := "()V", sig := { parameters := [], returnType := none }, accessFlags := 2, code := none }
/-- jdk/internal/util/ArraysSupport -/
def k23 : Class := { plain "jdk/internal/util/ArraysSupport" (some 0) with
  accessFlags := 33
  interfaces := #[]
  cf := some (fileOf pool23 21 #[] #[{ accessFlags := 2, nameIndex := 9, descriptorIndex := 19, attributes := #[] }] 33 16 #[] #[{ accessFlags := 24, nameIndex := 28, descriptorIndex := 29, attributes := #[] }, { accessFlags := 26, nameIndex := 38, descriptorIndex := 39, attributes := #[] }, { accessFlags := 25, nameIndex := 121, descriptorIndex := 25, attributes := #[] }, { accessFlags := 25, nameIndex := 131, descriptorIndex := 25, attributes := #[] }, { accessFlags := 25, nameIndex := 137, descriptorIndex := 25, attributes := #[] }, { accessFlags := 25, nameIndex := 143, descriptorIndex := 25, attributes := #[] }, { accessFlags := 25, nameIndex := 53, descriptorIndex := 25, attributes := #[] }, { accessFlags := 25, nameIndex := 24, descriptorIndex := 25, attributes := #[] }, { accessFlags := 25, nameIndex := 162, descriptorIndex := 25, attributes := #[] }, { accessFlags := 25, nameIndex := 187, descriptorIndex := 25, attributes := #[] }, { accessFlags := 26, nameIndex := 48, descriptorIndex := 25, attributes := #[] }, { accessFlags := 25, nameIndex := 277, descriptorIndex := 25, attributes := #[] }, { accessFlags := 25, nameIndex := 280, descriptorIndex := 25, attributes := #[] }, { accessFlags := 25, nameIndex := 282, descriptorIndex := 25, attributes := #[] }, { accessFlags := 25, nameIndex := 284, descriptorIndex := 25, attributes := #[] }, { accessFlags := 25, nameIndex := 286, descriptorIndex := 25, attributes := #[] }, { accessFlags := 25, nameIndex := 288, descriptorIndex := 25, attributes := #[] }, { accessFlags := 25, nameIndex := 290, descriptorIndex := 25, attributes := #[] }, { accessFlags := 25, nameIndex := 292, descriptorIndex := 25, attributes := #[] }, { accessFlags := 26, nameIndex := 108, descriptorIndex := 109, attributes := #[] }, { accessFlags := 25, nameIndex := 294, descriptorIndex := 25, attributes := #[] }])
  fields := #[{ name := "U", type := (.object "jdk/internal/misc/Unsafe"), accessFlags := 24, slot := 0, constantValue := 0 }, { name := "BIG_ENDIAN", type := .boolean, accessFlags := 26, slot := 1, constantValue := 0 }, { name := "LOG2_ARRAY_BOOLEAN_INDEX_SCALE", type := .int, accessFlags := 25, slot := 2, constantValue := 0 }, { name := "LOG2_ARRAY_BYTE_INDEX_SCALE", type := .int, accessFlags := 25, slot := 3, constantValue := 0 }, { name := "LOG2_ARRAY_CHAR_INDEX_SCALE", type := .int, accessFlags := 25, slot := 4, constantValue := 0 }, { name := "LOG2_ARRAY_SHORT_INDEX_SCALE", type := .int, accessFlags := 25, slot := 5, constantValue := 0 }, { name := "LOG2_ARRAY_INT_INDEX_SCALE", type := .int, accessFlags := 25, slot := 6, constantValue := 0 }, { name := "LOG2_ARRAY_LONG_INDEX_SCALE", type := .int, accessFlags := 25, slot := 7, constantValue := 0 }, { name := "LOG2_ARRAY_FLOAT_INDEX_SCALE", type := .int, accessFlags := 25, slot := 8, constantValue := 0 }, { name := "LOG2_ARRAY_DOUBLE_INDEX_SCALE", type := .int, accessFlags := 25, slot := 9, constantValue := 0 }, { name := "LOG2_BYTE_BIT_SIZE", type := .int, accessFlags := 26, slot := 10, constantValue := 0 }, { name := "T_BOOLEAN", type := .int, accessFlags := 25, slot := 11, constantValue := 0 }, { name := "T_CHAR", type := .int, accessFlags := 25, slot := 12, constantValue := 0 }, { name := "T_FLOAT", type := .int, accessFlags := 25, slot := 13, constantValue := 0 }, { name := "T_DOUBLE", type := .int, accessFlags := 25, slot := 14, constantValue := 0 }, { name := "T_BYTE", type := .int, accessFlags := 25, slot := 15, constantValue := 0 }, { name := "T_SHORT", type := .int, accessFlags := 25, slot := 16, constantValue := 0 }, { name := "T_INT", type := .int, accessFlags := 25, slot := 17, constantValue := 0 }, { name := "T_LONG", type := .int, accessFlags := 25, slot := 18, constantValue := 0 }, { name := "JLA", type := (.object "jdk/internal/access/JavaLangAccess"), accessFlags := 26, slot := 19, constantValue := 0 }, { name := "SOFT_MAX_ARRAY_LENGTH", type := .int, accessFlags := 25, slot := 20, constantValue := 0 }]
  methods := #[k23m0]
  instanceTypes := #[]
  staticTypes := #[(.object "jdk/internal/misc/Unsafe"), .boolean, .int, .int, .int, .int, .int, .int, .int, .int, .int, .int, .int, .int, .int, .int, .int, .int, .int, (.object "jdk/internal/access/JavaLangAccess"), .int]
  resolved := Array.replicate 378 none
  statics := none }

/-- the primitive byte -/
def k24 : Class := { plain "byte" none with kind := .primitive 'B', accessFlags := 0x411 }
/-- [B -/
def k25 : Class := { plain "[B" (some 0) with kind := .array 24 .byte, interfaces := #[20, 2], accessFlags := 1041 }

/-- the primitive char -/
def k26 : Class := { plain "char" none with kind := .primitive 'C', accessFlags := 0x411 }
/-- [C -/
def k27 : Class := { plain "[C" (some 0) with kind := .array 26 .char, interfaces := #[20, 2], accessFlags := 1041 }

/-- the primitive int -/
def k28 : Class := { plain "int" none with kind := .primitive 'I', accessFlags := 0x411 }
/-- [I -/
def k29 : Class := { plain "[I" (some 0) with kind := .array 28 .int, interfaces := #[20, 2], accessFlags := 1041 }

/-- [Ljava/lang/Object; -/
def k30 : Class := { plain "[Ljava/lang/Object;" (some 0) with kind := .array 0 (.object "java/lang/Object"), interfaces := #[20, 2], accessFlags := 1041 }

def heap : Heap := #[{ cls := 7, slots := #[.long 0, .int 1, .null, .int 0, .null, .int 0, .int 0], vm := .statics 7 },
  { cls := 21, slots := #[.long 0, .int 0, .ref 3, .ref 4], vm := .statics 21 },
  { cls := 22, slots := #[.null, .null, .null], vm := .statics 22 },
  { cls := 30, slots := #[], vm := .none },
  { cls := 30, slots := #[], vm := .none }]
def classes : Array Class := #[k0, k1, k2, k3, k4, k5, k6, k7, k8, k9, k10, k11, k12, k13, k14, k15, k16, k17, k18, k19, k20, k21, k22, k23, k24, k25, k26, k27, k28, k29, k30]
def interned : List (Array UInt16 × Addr) := []
def slotsUsed : Nat := 14
def theMethod : MethodId := ⟨1, 1⟩
def args0 : Array Value := #[.int 5, .int 1, .int 3]
def aboutOver (below : List Frame) : State where
  vm := { classes := classes, interned := interned.toArray }
  heap := heap
  slotsUsed := slotsUsed
  threads := #[{ frames := .invoking theMethod args0 :: below }]
def below0 : List Frame := [.native { method := ⟨0, 0⟩, args := #[] }]
def about1 : State := aboutOver below0
def p0 : Program := .bare "" "" ""
def e0 : Env := launch0.env 0 0 0
theorem w_frames : about1.frames = Frame.invoking theMethod args0 :: below0 := rfl
set_option maxRecDepth 65536 in
theorem w_args : argsFit about1.vm theMethod args0 = true := by decide +kernel
set_option maxRecDepth 65536 in
theorem w_heap : heapFits about1 = true := by decide +kernel
set_option maxRecDepth 65536 in
theorem w_runnable : about1.curStatus? = some .runnable := by decide +kernel
set_option maxRecDepth 65536 in
theorem w_alone : about1.alone = true := by decide +kernel
set_option maxRecDepth 65536 in
theorem w_named : about1.methodNamed? x = some theMethod := by decide +kernel
set_option maxRecDepth 65536 in
theorem w_hears : about1.hears theMethod below0 = true := by decide +kernel
set_option maxRecDepth 65536 in
theorem w_ripe : about1.ripe theMethod args0 below0 = true := by decide +kernel
theorem w_running : about1.status = .running := rfl
set_option maxRecDepth 65536 in
theorem w_room : about1.hasRoom e0.platform room_1 = true :=
  launch0.hasRoom_least _ room_1 (by decide +kernel) (by decide +kernel) (by decide +kernel) (by decide +kernel) (by decide +kernel) (by decide +kernel)
theorem allAtoms_all (ts : List Jvm.Cond) (a : Array Jvm.Value) (st : Jvm.State) : (allAtoms ts).before a st = ts.all (fun c => c.before a st) := by
  induction ts with
  | nil => rfl
  | cons c t ih =>
    show (Jvm.Cond.and c (allAtoms t)).before a st = _
    rw [Jvm.Cond.before_and, ih, List.all_cons]
def words1 : List Jvm.Cond := Jvm.Cond.code x code maxLocals ret :: tables_1
/-- a 'code' word, met by the world's own term for the bytes: nothing is compared byte by byte -/
theorem code_word {y : MethodName} {bytes : ByteArray} {mx : Nat} {rt : Option FieldType} {a : Array Value} {s : State} {m : MethodId} {meth : Method} {c : Code} (h1 : s.methodNamed? y = some m) (h2 : s.vm.method? m = some meth) (h3 : meth.code = some c) (h4 : c.code = bytes)
    (h5 : (c.maxLocals == mx && c.exceptionTable.isEmpty && decide (c.maxStack ≤ mostOperands) && decide (meth.sig.returnType = rt) && !meth.locks && decide (parseMethodDescriptor y.desc = some meth.sig)) = true) : (Jvm.Cond.code y bytes mx rt).before a s = true := by
  simp only [Bool.and_eq_true, beq_iff_eq, Bool.not_eq_true', decide_eq_true_eq] at h5
  obtain ⟨⟨⟨⟨⟨g1, g2⟩, g3⟩, g4⟩, g5⟩, g6⟩ := h5
  simp [Cond.before, Cond.holds, Cond.value, h1, h2, h3, h4, g1, g2, g3, g4, g5, g6]
def isCode : Jvm.Cond → Bool
  | .code _ _ _ _ => true
  | _ => false
theorem all_split {L : List Jvm.Cond} {P : Jvm.Cond → Bool} (h1 : L.all (fun c => isCode c || P c) = true) (h2 : ∀ c ∈ L.filter isCode, P c = true) : L.all P = true := by
  refine List.all_eq_true.mpr fun c hc => ?_
  have h := List.all_eq_true.mp h1 c hc
  rcases Bool.eq_false_or_eq_true (isCode c) with hi | hi
  · exact h2 c (List.mem_filter.mpr ⟨hc, hi⟩)
  · simpa [hi] using h
set_option maxRecDepth 65536 in
theorem w_c0 : (Jvm.Cond.code x code maxLocals ret).before args0 about1 = true := code_word (m := ⟨1, 1⟩) (meth := k1m1) (c := k1c1) (by decide +kernel) rfl rfl rfl (by decide +kernel)
set_option maxRecDepth 65536 in
theorem w_c1 : (Jvm.Cond.code ({ cls := "java/lang/String", name := "<init>", desc := "([C)V" } : Jvm.MethodName) jdk_42_method_3_code (2 : Nat) (Option.none : Option Jvm.ClassFile.FieldType)).before args0 about1 = true := code_word (m := ⟨7, 1⟩) (meth := k7m1) (c := k7c1) (by decide +kernel) rfl rfl rfl (by decide +kernel)
set_option maxRecDepth 65536 in
theorem w_c2 : (Jvm.Cond.code ({ cls := "java/lang/String", name := "<init>", desc := "([CIILjava/lang/Void;)V" } : Jvm.MethodName) jdk_42_method_149_code (6 : Nat) (Option.none : Option Jvm.ClassFile.FieldType)).before args0 about1 = true := code_word (m := ⟨7, 3⟩) (meth := k7m3) (c := k7c3) (by decide +kernel) rfl rfl rfl (by decide +kernel)
set_option maxRecDepth 65536 in
theorem w_c3 : (Jvm.Cond.code ({ cls := "java/lang/Object", name := "<init>", desc := "()V" } : Jvm.MethodName) object_method_1_code (1 : Nat) (Option.none : Option Jvm.ClassFile.FieldType)).before args0 about1 = true := code_word (m := ⟨0, 0⟩) (meth := k0m0) (c := k0c0) (by decide +kernel) rfl rfl rfl (by decide +kernel)
set_option maxRecDepth 65536 in
theorem w_c4 : (Jvm.Cond.code ({ cls := "java/lang/StringUTF16", name := "compress", desc := "([CII)[B" } : Jvm.MethodName) jdk_52_method_16_code (6 : Nat) (Option.some (Jvm.ClassFile.FieldType.array Jvm.ClassFile.FieldType.byte))).before args0 about1 = true := code_word (m := ⟨8, 2⟩) (meth := k8m2) (c := k8c2) (by decide +kernel) rfl rfl rfl (by decide +kernel)
set_option maxRecDepth 65536 in
theorem w_c5 : (Jvm.Cond.code ({ cls := "java/lang/StringUTF16", name := "compress", desc := "([CI[BII)I" } : Jvm.MethodName) jdk_52_method_21_code (7 : Nat) (Option.some Jvm.ClassFile.FieldType.int)).before args0 about1 = true := code_word (m := ⟨8, 3⟩) (meth := k8m3) (c := k8c3) (by decide +kernel) rfl rfl rfl (by decide +kernel)
set_option maxRecDepth 65536 in
theorem w_c6 : (Jvm.Cond.code ({ cls := "java/lang/StringUTF16", name := "coderFromArrayLen", desc := "([BI)B" } : Jvm.MethodName) jdk_52_method_15_code (2 : Nat) (Option.some Jvm.ClassFile.FieldType.byte)).before args0 about1 = true := code_word (m := ⟨8, 1⟩) (meth := k8m1) (c := k8c1) (by decide +kernel) rfl rfl rfl (by decide +kernel)
set_option maxRecDepth 65536 in
theorem w_c7 : (Jvm.Cond.code ({ cls := "java/lang/String", name := "valueOf", desc := "(C)Ljava/lang/String;" } : Jvm.MethodName) jdk_42_method_139_code (1 : Nat) (Option.some (Jvm.ClassFile.FieldType.object "java/lang/String"))).before args0 about1 = true := code_word (m := ⟨7, 2⟩) (meth := k7m2) (c := k7c2) (by decide +kernel) rfl rfl rfl (by decide +kernel)
set_option maxRecDepth 65536 in
theorem w_c8 : (Jvm.Cond.code ({ cls := "java/lang/StringLatin1", name := "canEncode", desc := "(C)Z" } : Jvm.MethodName) jdk_43_method_3_code (1 : Nat) (Option.some Jvm.ClassFile.FieldType.boolean)).before args0 about1 = true := code_word (m := ⟨9, 1⟩) (meth := k9m1) (c := k9c1) (by decide +kernel) rfl rfl rfl (by decide +kernel)
set_option maxRecDepth 65536 in
theorem w_c9 : (Jvm.Cond.code ({ cls := "java/lang/StringLatin1", name := "toBytes", desc := "(C)[B" } : Jvm.MethodName) jdk_43_method_46_code (1 : Nat) (Option.some (Jvm.ClassFile.FieldType.array Jvm.ClassFile.FieldType.byte))).before args0 about1 = true := code_word (m := ⟨9, 2⟩) (meth := k9m2) (c := k9c2) (by decide +kernel) rfl rfl rfl (by decide +kernel)
set_option maxRecDepth 65536 in
theorem w_c10 : (Jvm.Cond.code ({ cls := "java/lang/String", name := "<init>", desc := "([BB)V" } : Jvm.MethodName) jdk_42_method_151_code (3 : Nat) (Option.none : Option Jvm.ClassFile.FieldType)).before args0 about1 = true := code_word (m := ⟨7, 4⟩) (meth := k7m4) (c := k7c4) (by decide +kernel) rfl rfl rfl (by decide +kernel)
set_option maxRecDepth 65536 in
theorem w_c11 : (Jvm.Cond.code ({ cls := "com/example/rosterlink/rosterlink/api/Schema", name := "<init>", desc := "(Ljava/lang/String;Ljava/util/Map;)V" } : Jvm.MethodName) prog_8_method_1_code (3 : Nat) (Option.none : Option Jvm.ClassFile.FieldType)).before args0 about1 = true := code_word (m := ⟨11, 0⟩) (meth := k11m0) (c := k11c0) (by decide +kernel) rfl rfl rfl (by decide +kernel)
set_option maxRecDepth 65536 in
theorem w_c12 : (Jvm.Cond.code ({ cls := "java/lang/Record", name := "<init>", desc := "()V" } : Jvm.MethodName) jdk_30_method_1_code (1 : Nat) (Option.none : Option Jvm.ClassFile.FieldType)).before args0 about1 = true := code_word (m := ⟨10, 0⟩) (meth := k10m0) (c := k10c0) (by decide +kernel) rfl rfl rfl (by decide +kernel)
set_option maxRecDepth 65536 in
theorem w_c13 : (Jvm.Cond.code ({ cls := "com/example/rosterlink/rosterlink/api/Operation", name := "<init>", desc := "(Ljava/lang/String;Ljava/lang/String;ZLcom/example/rosterlink/rosterlink/api/Schema;Lcom/example/rosterlink/rosterlink/api/Schema;Ljava/util/List;)V" } : Jvm.MethodName) prog_5_method_1_code (7 : Nat) (Option.none : Option Jvm.ClassFile.FieldType)).before args0 about1 = true := code_word (m := ⟨12, 0⟩) (meth := k12m0) (c := k12c0) (by decide +kernel) rfl rfl rfl (by decide +kernel)
set_option maxRecDepth 65536 in
theorem w_c14 : (Jvm.Cond.code ({ cls := "com/example/rosterlink/rosterlink/api/Operation", name := "takes", desc := "(Lcom/example/rosterlink/rosterlink/api/Schema;)Lcom/example/rosterlink/rosterlink/api/Operation;" } : Jvm.MethodName) prog_5_method_3_code (2 : Nat) (Option.some (Jvm.ClassFile.FieldType.object "com/example/rosterlink/rosterlink/api/Operation"))).before args0 about1 = true := code_word (m := ⟨12, 1⟩) (meth := k12m1) (c := k12c1) (by decide +kernel) rfl rfl rfl (by decide +kernel)
set_option maxRecDepth 65536 in
theorem w_c15 : (Jvm.Cond.code ({ cls := "com/example/rosterlink/rosterlink/api/Operation", name := "id", desc := "()Ljava/lang/String;" } : Jvm.MethodName) prog_5_method_9_code (1 : Nat) (Option.some (Jvm.ClassFile.FieldType.object "java/lang/String"))).before args0 about1 = true := code_word (m := ⟨12, 2⟩) (meth := k12m2) (c := k12c2) (by decide +kernel) rfl rfl rfl (by decide +kernel)
set_option maxRecDepth 65536 in
theorem w_c16 : (Jvm.Cond.code ({ cls := "com/example/rosterlink/rosterlink/api/Operation", name := "summary", desc := "()Ljava/lang/String;" } : Jvm.MethodName) prog_5_method_10_code (1 : Nat) (Option.some (Jvm.ClassFile.FieldType.object "java/lang/String"))).before args0 about1 = true := code_word (m := ⟨12, 3⟩) (meth := k12m3) (c := k12c3) (by decide +kernel) rfl rfl rfl (by decide +kernel)
set_option maxRecDepth 65536 in
theorem w_c17 : (Jvm.Cond.code ({ cls := "com/example/rosterlink/rosterlink/api/Operation", name := "keyed", desc := "()Z" } : Jvm.MethodName) prog_5_method_11_code (1 : Nat) (Option.some Jvm.ClassFile.FieldType.boolean)).before args0 about1 = true := code_word (m := ⟨12, 4⟩) (meth := k12m4) (c := k12c4) (by decide +kernel) rfl rfl rfl (by decide +kernel)
set_option maxRecDepth 65536 in
theorem w_c18 : (Jvm.Cond.code ({ cls := "com/example/rosterlink/rosterlink/api/Operation", name := "body", desc := "()Lcom/example/rosterlink/rosterlink/api/Schema;" } : Jvm.MethodName) prog_5_method_12_code (1 : Nat) (Option.some (Jvm.ClassFile.FieldType.object "com/example/rosterlink/rosterlink/api/Schema"))).before args0 about1 = true := code_word (m := ⟨12, 5⟩) (meth := k12m5) (c := k12c5) (by decide +kernel) rfl rfl rfl (by decide +kernel)
set_option maxRecDepth 65536 in
theorem w_c19 : (Jvm.Cond.code ({ cls := "com/example/rosterlink/rosterlink/api/Operation", name := "answer", desc := "()Lcom/example/rosterlink/rosterlink/api/Schema;" } : Jvm.MethodName) prog_5_method_13_code (1 : Nat) (Option.some (Jvm.ClassFile.FieldType.object "com/example/rosterlink/rosterlink/api/Schema"))).before args0 about1 = true := code_word (m := ⟨12, 6⟩) (meth := k12m6) (c := k12c6) (by decide +kernel) rfl rfl rfl (by decide +kernel)
set_option maxRecDepth 65536 in
theorem w_c20 : (Jvm.Cond.code ({ cls := "com/example/rosterlink/rosterlink/api/Operation", name := "query", desc := "()Ljava/util/List;" } : Jvm.MethodName) prog_5_method_14_code (1 : Nat) (Option.some (Jvm.ClassFile.FieldType.object "java/util/List"))).before args0 about1 = true := code_word (m := ⟨12, 7⟩) (meth := k12m7) (c := k12c7) (by decide +kernel) rfl rfl rfl (by decide +kernel)
set_option maxRecDepth 65536 in
theorem w_c21 : (Jvm.Cond.code ({ cls := "java/util/ArrayList", name := "<init>", desc := "()V" } : Jvm.MethodName) jdk_38_method_2_code (1 : Nat) (Option.none : Option Jvm.ClassFile.FieldType)).before args0 about1 = true := code_word (m := ⟨21, 0⟩) (meth := k21m0) (c := k21c0) (by decide +kernel) rfl rfl rfl (by decide +kernel)
set_option maxRecDepth 65536 in
theorem w_c22 : (Jvm.Cond.code ({ cls := "java/util/AbstractList", name := "<init>", desc := "()V" } : Jvm.MethodName) jdk_39_method_1_code (1 : Nat) (Option.none : Option Jvm.ClassFile.FieldType)).before args0 about1 = true := code_word (m := ⟨18, 0⟩) (meth := k18m0) (c := k18c0) (by decide +kernel) rfl rfl rfl (by decide +kernel)
set_option maxRecDepth 65536 in
theorem w_c23 : (Jvm.Cond.code ({ cls := "java/util/AbstractCollection", name := "<init>", desc := "()V" } : Jvm.MethodName) jdk_22_method_1_code (1 : Nat) (Option.none : Option Jvm.ClassFile.FieldType)).before args0 about1 = true := code_word (m := ⟨15, 0⟩) (meth := k15m0) (c := k15c0) (by decide +kernel) rfl rfl rfl (by decide +kernel)
def codes1 : List Jvm.Cond := [Jvm.Cond.code x code maxLocals ret, Jvm.Cond.code ({ cls := "java/lang/String", name := "<init>", desc := "([C)V" } : Jvm.MethodName) jdk_42_method_3_code (2 : Nat) (Option.none : Option Jvm.ClassFile.FieldType), Jvm.Cond.code ({ cls := "java/lang/String", name := "<init>", desc := "([CIILjava/lang/Void;)V" } : Jvm.MethodName) jdk_42_method_149_code (6 : Nat) (Option.none : Option Jvm.ClassFile.FieldType), Jvm.Cond.code ({ cls := "java/lang/Object", name := "<init>", desc := "()V" } : Jvm.MethodName) object_method_1_code (1 : Nat) (Option.none : Option Jvm.ClassFile.FieldType), Jvm.Cond.code ({ cls := "java/lang/StringUTF16", name := "compress", desc := "([CII)[B" } : Jvm.MethodName) jdk_52_method_16_code (6 : Nat) (Option.some (Jvm.ClassFile.FieldType.array Jvm.ClassFile.FieldType.byte)), Jvm.Cond.code ({ cls := "java/lang/StringUTF16", name := "compress", desc := "([CI[BII)I" } : Jvm.MethodName) jdk_52_method_21_code (7 : Nat) (Option.some Jvm.ClassFile.FieldType.int), Jvm.Cond.code ({ cls := "java/lang/StringUTF16", name := "coderFromArrayLen", desc := "([BI)B" } : Jvm.MethodName) jdk_52_method_15_code (2 : Nat) (Option.some Jvm.ClassFile.FieldType.byte), Jvm.Cond.code ({ cls := "java/lang/String", name := "valueOf", desc := "(C)Ljava/lang/String;" } : Jvm.MethodName) jdk_42_method_139_code (1 : Nat) (Option.some (Jvm.ClassFile.FieldType.object "java/lang/String")), Jvm.Cond.code ({ cls := "java/lang/StringLatin1", name := "canEncode", desc := "(C)Z" } : Jvm.MethodName) jdk_43_method_3_code (1 : Nat) (Option.some Jvm.ClassFile.FieldType.boolean), Jvm.Cond.code ({ cls := "java/lang/StringLatin1", name := "toBytes", desc := "(C)[B" } : Jvm.MethodName) jdk_43_method_46_code (1 : Nat) (Option.some (Jvm.ClassFile.FieldType.array Jvm.ClassFile.FieldType.byte)), Jvm.Cond.code ({ cls := "java/lang/String", name := "<init>", desc := "([BB)V" } : Jvm.MethodName) jdk_42_method_151_code (3 : Nat) (Option.none : Option Jvm.ClassFile.FieldType), Jvm.Cond.code ({ cls := "com/example/rosterlink/rosterlink/api/Schema", name := "<init>", desc := "(Ljava/lang/String;Ljava/util/Map;)V" } : Jvm.MethodName) prog_8_method_1_code (3 : Nat) (Option.none : Option Jvm.ClassFile.FieldType), Jvm.Cond.code ({ cls := "java/lang/Record", name := "<init>", desc := "()V" } : Jvm.MethodName) jdk_30_method_1_code (1 : Nat) (Option.none : Option Jvm.ClassFile.FieldType), Jvm.Cond.code ({ cls := "com/example/rosterlink/rosterlink/api/Operation", name := "<init>", desc := "(Ljava/lang/String;Ljava/lang/String;ZLcom/example/rosterlink/rosterlink/api/Schema;Lcom/example/rosterlink/rosterlink/api/Schema;Ljava/util/List;)V" } : Jvm.MethodName) prog_5_method_1_code (7 : Nat) (Option.none : Option Jvm.ClassFile.FieldType), Jvm.Cond.code ({ cls := "com/example/rosterlink/rosterlink/api/Operation", name := "takes", desc := "(Lcom/example/rosterlink/rosterlink/api/Schema;)Lcom/example/rosterlink/rosterlink/api/Operation;" } : Jvm.MethodName) prog_5_method_3_code (2 : Nat) (Option.some (Jvm.ClassFile.FieldType.object "com/example/rosterlink/rosterlink/api/Operation")), Jvm.Cond.code ({ cls := "com/example/rosterlink/rosterlink/api/Operation", name := "id", desc := "()Ljava/lang/String;" } : Jvm.MethodName) prog_5_method_9_code (1 : Nat) (Option.some (Jvm.ClassFile.FieldType.object "java/lang/String")), Jvm.Cond.code ({ cls := "com/example/rosterlink/rosterlink/api/Operation", name := "summary", desc := "()Ljava/lang/String;" } : Jvm.MethodName) prog_5_method_10_code (1 : Nat) (Option.some (Jvm.ClassFile.FieldType.object "java/lang/String")), Jvm.Cond.code ({ cls := "com/example/rosterlink/rosterlink/api/Operation", name := "keyed", desc := "()Z" } : Jvm.MethodName) prog_5_method_11_code (1 : Nat) (Option.some Jvm.ClassFile.FieldType.boolean), Jvm.Cond.code ({ cls := "com/example/rosterlink/rosterlink/api/Operation", name := "body", desc := "()Lcom/example/rosterlink/rosterlink/api/Schema;" } : Jvm.MethodName) prog_5_method_12_code (1 : Nat) (Option.some (Jvm.ClassFile.FieldType.object "com/example/rosterlink/rosterlink/api/Schema")), Jvm.Cond.code ({ cls := "com/example/rosterlink/rosterlink/api/Operation", name := "answer", desc := "()Lcom/example/rosterlink/rosterlink/api/Schema;" } : Jvm.MethodName) prog_5_method_13_code (1 : Nat) (Option.some (Jvm.ClassFile.FieldType.object "com/example/rosterlink/rosterlink/api/Schema")), Jvm.Cond.code ({ cls := "com/example/rosterlink/rosterlink/api/Operation", name := "query", desc := "()Ljava/util/List;" } : Jvm.MethodName) prog_5_method_14_code (1 : Nat) (Option.some (Jvm.ClassFile.FieldType.object "java/util/List")), Jvm.Cond.code ({ cls := "java/util/ArrayList", name := "<init>", desc := "()V" } : Jvm.MethodName) jdk_38_method_2_code (1 : Nat) (Option.none : Option Jvm.ClassFile.FieldType), Jvm.Cond.code ({ cls := "java/util/AbstractList", name := "<init>", desc := "()V" } : Jvm.MethodName) jdk_39_method_1_code (1 : Nat) (Option.none : Option Jvm.ClassFile.FieldType), Jvm.Cond.code ({ cls := "java/util/AbstractCollection", name := "<init>", desc := "()V" } : Jvm.MethodName) jdk_22_method_1_code (1 : Nat) (Option.none : Option Jvm.ClassFile.FieldType)]
set_option maxRecDepth 65536 in
theorem codes_eq : words1.filter isCode = codes1 := rfl
theorem w_codes : ∀ c ∈ words1.filter isCode, c.before args0 about1 = true := by
  rw [codes_eq]
  intro c hc
  simp only [codes1, List.mem_cons, List.not_mem_nil, or_false] at hc
  rcases hc with rfl | rfl | rfl | rfl | rfl | rfl | rfl | rfl | rfl | rfl | rfl | rfl | rfl | rfl | rfl | rfl | rfl | rfl | rfl | rfl | rfl | rfl | rfl | rfl
  · exact w_c0
  · exact w_c1
  · exact w_c2
  · exact w_c3
  · exact w_c4
  · exact w_c5
  · exact w_c6
  · exact w_c7
  · exact w_c8
  · exact w_c9
  · exact w_c10
  · exact w_c11
  · exact w_c12
  · exact w_c13
  · exact w_c14
  · exact w_c15
  · exact w_c16
  · exact w_c17
  · exact w_c18
  · exact w_c19
  · exact w_c20
  · exact w_c21
  · exact w_c22
  · exact w_c23
set_option maxRecDepth 65536 in
theorem w_t1 : (words1.take 24).all (fun c => isCode c || c.before args0 about1) = true := by decide +kernel
set_option maxRecDepth 65536 in
theorem w_t2 : ((words1.drop 24).take 24).all (fun c => isCode c || c.before args0 about1) = true := by decide +kernel
set_option maxRecDepth 65536 in
theorem w_t3 : (((words1.drop 24).drop 24).take 24).all (fun c => isCode c || c.before args0 about1) = true := by decide +kernel
set_option maxRecDepth 65536 in
theorem w_t4 : ((((words1.drop 24).drop 24).drop 24).take 24).all (fun c => isCode c || c.before args0 about1) = true := by decide +kernel
set_option maxRecDepth 65536 in
theorem w_t5 : (((((words1.drop 24).drop 24).drop 24).drop 24).take 24).all (fun c => isCode c || c.before args0 about1) = true := by decide +kernel
set_option maxRecDepth 65536 in
theorem w_t6 : (((((words1.drop 24).drop 24).drop 24).drop 24).drop 24).all (fun c => isCode c || c.before args0 about1) = true := by decide +kernel
theorem w_tables : (allAtoms (Jvm.Cond.code x code maxLocals ret :: tables_1)).before args0 about1 = true := by
  rw [allAtoms_all]
  show words1.all (fun c => c.before args0 about1) = true
  refine all_split ?_ w_codes
  rw [← List.take_append_drop 24 words1, List.all_append, w_t1, ← List.take_append_drop 24 (words1.drop 24), List.all_append, w_t2, ← List.take_append_drop 24 ((words1.drop 24).drop 24), List.all_append, w_t3, ← List.take_append_drop 24 (((words1.drop 24).drop 24).drop 24), List.all_append, w_t4, ← List.take_append_drop 24 ((((words1.drop 24).drop 24).drop 24).drop 24), List.all_append, w_t5, w_t6]
  rfl
set_option maxRecDepth 65536 in
theorem w_rest : rest_1_c.before args0 about1 = true := by decide +kernel
set_option maxRecDepth 65536 in
theorem w_case : (Jvm.Cond.and given_1 narrow_1).before args0 about1 = true := by decide +kernel
theorem w_applies : (headSpec (Jvm.Cond.code x code maxLocals ret :: tables_1) room_1).applies x e0.platform about1 = true :=
  (Spec.applies_iff w_frames).mpr ⟨w_running, w_runnable, w_alone, w_named, w_hears, w_ripe, w_room, w_tables⟩
theorem atStart : AtStart classFile x code maxLocals ret World_1 tables_1 room_1 Calls_1 rest_1 Pre_1 launch0 p0 e0 about1 theMethod args0 below0 :=
  ⟨lists_1, trivial, launch0.admits_env _ _ _, launch0.least_env, fairChoices_fair.cas, fairChoices_fair.clock, w_frames, w_args, w_heap, w_applies, trivial, w_rest, w_case⟩
end start1
theorem witness_1 : WitnessClaimed_1 := ⟨start1.p0, start1.e0, start1.about1, start1.theMethod, start1.args0, start1.below0, start1.atStart⟩
end Jvm.Pilot.@@N@@
