import JvmDerived
import JvmDerived.Pilot.@@N@@Statement
import JvmDerived.Pilot.@@N@@Code
set_option linter.unusedVariables false
set_option linter.unusedSimpArgs false
namespace Jvm.Pilot.@@N@@
open Jvm Jvm.ClassFile Sem Op Lib Jvm.Free Jvm.Stand Jvm.LawKit Jvm.RoadKit Bundle Jvm.Pilot.@@N@@.Jvm.D
/-! the setting of a body's walk, a point of it, and 'it comes to its end' -/
def oCtx (p : Program) (s : State) (m : MethodId) (meth : Method) (c : Code) (Z : State) (own : String) (cb : ByteArray) (ml : Nat) (nm : String) (rt : Option FieldType) (yy : MethodName) : Prop :=
  p.tables.exec = Jvm.exec ∧ Z.Warmed39 s.vm ∧ c.code = cb ∧ c.maxLocals = ml ∧ s.vm.findClass own = some m.cls ∧ meth.name = nm ∧ meth.sig.returnType = rt ∧ meth.locks = false ∧ s.methodNamed? yy = some m
def oSt (p : Program) (l : Launch) (e : Env) (R : Room) (s : State) (m : MethodId) (args : Array Value) (below : List Frame) (meth : Method) (c : Code) (Z T : State) (h : Heap) (cells slots : Nat) : Prop :=
  ∃ locs, Stand p l e R s m args below meth c T locs cells slots ∧ T.heap = h ∧ Fr Z.heap.size locs ∧ Ext Z.heap h
def oGoes (p : Program) (e : Env) (below : List Frame) (s Z T : State) (f : JFrame) (Q : Option Value → Heap → Prop) (cl sl : Nat) : Prop :=
  ∃ t o, Steps p.tables e below (T.setTop f) t ∧ t.status = .running ∧ Ended t below o ∧ ∃ v L, o = .returned v ∧ Q v t.heap ∧ Fr Z.heap.size L ∧ Ext Z.heap t.heap ∧ FrameEnd s o t L cl sl
/-- a body's contract: called with 'as' at the heap h0 it returns, and Q says what it leaves -/
def oMet (l : Launch) (Z : State) (y : MethodName) (cb : ByteArray) (ml : Nat) (rt : Option FieldType) (rm : Room) (ws : List Jvm.Cond) (as : Array Value) (h0 : Heap) (Q : Option Value → Heap → Prop) : Prop :=
  Ext Z.heap h0 → MetFree l y (head1 (Jvm.Cond.code y cb ml rt :: ws) rm) (fun a U => a = as ∧ Z.Warmed39 U.vm ∧ U.heap = h0) (fun _ _ _ _ _ => True)
    (fun _ U o U' => ∃ v L, o = .returned v ∧ (Q v U'.heap ∧ Fr Z.heap.size L ∧ Ext Z.heap U'.heap) ∧ FrameEnd U o U' L rm.cells rm.slots)
section Own
variable {p : Program} {l : Launch} {e : Env} {R : Room} {s : State} {m : MethodId} {args : Array Value} {below : List Frame} {meth : Method} {c : Code} {Z T : State} {h : Heap} {cells slots cl sl : Nat} {own nm : String} {cb : ByteArray} {yy : MethodName} {ml : Nat} {rt : Option FieldType} {Q : Option Value → Heap → Prop} {L L' : Array Slot} {S : List Value} {pc pc' : Nat} {a0 : Array Value}
theorem oGoes.go {T' : State} {f f' : JFrame} (g : oGoes p e below s Z T' f' Q cl sl) (st : ∀ t, Steps p.tables e below (T'.setTop f') t → Steps p.tables e below (T.setTop f) t) : oGoes p e below s Z T f Q cl sl := by
  obtain ⟨t, o, h1, r⟩ := g
  exact ⟨t, o, st t h1, r⟩
theorem oSt.mono (X : oSt p l e R s m args below meth c Z T h cells slots) {c' n' : Nat} (hc : cells ≤ c') (hn : slots ≤ n') : oSt p l e R s m args below meth c Z T h c' n' := by
  obtain ⟨locs, X, r⟩ := X
  exact ⟨locs, ⟨X.admits, X.cas, X.clock, X.frames, X.room, X.hears, X.method, X.code, X.here, X.tail, X.warmed, X.limits, X.bytes, X.same.mono hc hn⟩, r⟩
theorem oSt.ext0 (X : oSt p l e R s m args below meth c Z T h cells slots) : Ext Z.heap h := by obtain ⟨_, _, _, _, E⟩ := X; exact E
theorem oExt_wr {h h' : Heap} {a : Addr} {k : Nat} {v : Value} (E : Ext Z.heap h) (W : Wr h h' a k v) (q : Z.heap.size ≤ a) : Ext Z.heap h' :=
  (Old.wr (n0 := Z.heap.size) ⟨rfl, E⟩ W q).2
theorem oExt_trans {h1 h2 h3 : Heap} (E : Ext h1 h2) (E' : Ext h2 h3) : Ext h1 h3 := ⟨Nat.le_trans E.1 E'.1, fun a c q => E'.2 a c (E.2 a c q)⟩
theorem oEnter {y : MethodName} {ws : List Jvm.Cond} {rm : Room} {as : Array Value} {h0 : Heap} (hx : plainFor y = true) (ho : y.cls = own) (hn : y.name = nm) {L : Array Slot} (hf : ∀ m, entryFrame m as ml = mkF m 0 L [])
    (body : ∀ p e s m below meth c T, oCtx p s m meth c Z own cb ml nm rt y → oSt p l e rm s m as below meth c Z T h0 0 0 → oGoes p e below s Z T (mkF m 0 L []) Q rm.cells rm.slots) : oMet l Z y cb ml rt rm ws as h0 Q := by
  intro E
  subst ho hn
  refine MetFree.of_bodySF hx hisR ?_
  intro p e s m args below meth c s₁ Bd hml0 hP hK
  obtain ⟨rfl, hZ, hh⟩ := hP
  have e0 : s₁.heap = h0 := by rw [← hh, Bd.state]; rfl
  obtain ⟨t, o, h1, h2, h3, v, L', h4, h5, h6, h7, h8⟩ := body p e s m below meth c s₁ ⟨Bd.exec, hZ, Bd.bytes, hml0, findClass_of_methodNamed Bd.named, (name_of_methodNamed Bd.named Bd.method).1, Bd.returns, BodyLoose.notSynchronized Bd, Bd.named⟩ ⟨[], Stand.of_body Bd, e0, Fr.nil _, E⟩
  exact ⟨t, o, castTop (hf m) h1, h2, h3, v, L', h4, ⟨h5, h6, h7⟩, h8⟩
theorem oLeave (X : oSt p l e R s m args below meth c Z T h cells slots) (rv : Option Value) (hv : meth.sig.returnType = none → rv = none) (hlk : meth.locks = false) (hQ : Q rv h) (hc : cells ≤ cl) (hs : slots ≤ sl) {f : JFrame}
    (st : ∀ fs, (∀ (f : JFrame) (acts : List Action), f.method = m → f.locked = none → f.entered = [] → (doReturn e (T.setTop f) acts rv).1 = T.setFrames fs) → Steps p.tables e below (T.setTop f) (T.setFrames fs)) : oGoes p e below s Z T f Q cl sl := by
  obtain ⟨locs, X, eT, N, E⟩ := X
  obtain ⟨fs, hr, hrun, hended, hW, hsame⟩ := X.leave (v := rv) hv hlk
  have e2 : (T.setFrames fs).heap = h := eT
  refine ⟨_, _, st fs hr, hrun, hended, _, locs, rfl, ?_, N, ?_, ⟨_, rfl⟩, hW, hsame.mono hc hs⟩
  · rw [e2]; exact hQ
  · rw [e2]; exact E
theorem o_return (K : oCtx p s m meth c Z own cb ml nm rt yy) (X : oSt p l e R s m args below meth c Z T h cells slots) (hd : decode cb pc = .ok (.return_, 1)) (hrt : rt = none) (hQ : Q none h) (hc : cells ≤ cl) (hs : slots ≤ sl) : oGoes p e below s Z T (mkF m pc L []) Q cl sl := by
  refine oLeave X none (fun _ => rfl) K.2.2.2.2.2.2.2.1 hQ hc hs fun fs hr => ?_
  obtain ⟨locs, X, eT, N, E⟩ := X
  exact X.returnOut K.1 (K.2.2.2.2.2.2.1.trans hrt) (hb K.2.2.1 hd) hr
theorem o_ireturnN (K : oCtx p s m meth c Z own cb ml nm rt yy) (X : oSt p l e R s m args below meth c Z T h cells slots) (t : FieldType) {z z' : Int32} (hd : decode cb pc = .ok (.ireturn, 1)) (hrt : rt = some t) (ht : t = .boolean ∨ t = .byte ∨ t = .char ∨ t = .short) (hz : nar t z = z') (hQ : Q (some (.int z')) h) (hc : cells ≤ cl) (hs : slots ≤ sl) : oGoes p e below s Z T (mkF m pc L (.int z :: S)) Q cl sl := by
  subst hz
  have hr0 : meth.sig.returnType = some t := K.2.2.2.2.2.2.1.trans hrt
  refine oLeave X (some (.int (nar t z))) (fun q => by rw [hr0] at q; cases q) K.2.2.2.2.2.2.2.1 hQ hc hs fun fs hr => ?_
  obtain ⟨locs, X, eT, N, E⟩ := X
  exact retN X K.1 (t := t) hr0 ht (hb K.2.2.1 hd) hr
theorem o_ireturn (K : oCtx p s m meth c Z own cb ml nm rt yy) (X : oSt p l e R s m args below meth c Z T h cells slots) {z : Int32} (hd : decode cb pc = .ok (.ireturn, 1)) (hrt : rt = some .int) (hQ : Q (some (.int z)) h) (hc : cells ≤ cl) (hs : slots ≤ sl) : oGoes p e below s Z T (mkF m pc L (.int z :: S)) Q cl sl := by
  have hr0 : meth.sig.returnType = some .int := K.2.2.2.2.2.2.1.trans hrt
  refine oLeave X (some (.int z)) (fun q => by rw [hr0] at q; cases q) K.2.2.2.2.2.2.2.1 hQ hc hs fun fs hl => ?_
  obtain ⟨locs, X, eT, N, E⟩ := X
  have hm' : T.vm.method? m = some meth := X.method'
  have hn : narrow .int (.int z) = .int z := rfl
  have hd' := hb K.2.2.1 hd
  have hx := K.1
  show Steps p.tables e below (T.setTop { method := m, pc := pc, locals := L, stack := _ :: S, locked := none }) _
  jvm_step X.here [X.here.top, hx, hd', hm', hr0, hn]
  first | (intro acts; rw [hl _ acts rfl rfl rfl]) | rw [hl _ _ rfl rfl rfl]
  exact Steps.refl _
theorem o_areturn (K : oCtx p s m meth c Z own cb ml nm rt yy) (X : oSt p l e R s m args below meth c Z T h cells slots) {t : FieldType} {v : Value} (hd : decode cb pc = .ok (.areturn, 1)) (hrt : rt = some t) (ht : t.isReference = true) (hv : v.isRef = true) (hQ : Q (some v) h) (hc : cells ≤ cl) (hs : slots ≤ sl) : oGoes p e below s Z T (mkF m pc L (v :: S)) Q cl sl := by
  have hr0 : meth.sig.returnType = some t := K.2.2.2.2.2.2.1.trans hrt
  refine oLeave X (some v) (fun q => by rw [hr0] at q; cases q) K.2.2.2.2.2.2.2.1 hQ hc hs fun fs hl => ?_
  obtain ⟨locs, X, eT, N, E⟩ := X
  have hm' : T.vm.method? m = some meth := X.method'
  have hd' := hb K.2.2.1 hd
  have hx := K.1
  show Steps p.tables e below (T.setTop { method := m, pc := pc, locals := L, stack := _ :: S, locked := none }) _
  jvm_step X.here [X.here.top, hx, hd', hm', hr0, ht, hv]
  first | (intro acts; rw [hl _ acts rfl rfl rfl]) | rw [hl _ _ rfl rfl rfl]
  exact Steps.refl _
theorem o_iload (K : oCtx p s m meth c Z own cb ml nm rt yy) (X : oSt p l e R s m args below meth c Z T h cells slots) {k : Nat} {v : Int32} (hd : decode cb pc = .ok (.iload k, 2)) (hp : pc + 2 = pc') (hl : L[k]? = some (.val (.int v))) (g : oGoes p e below s Z T (mkF m pc' L (.int v :: S)) Q cl sl) : oGoes p e below s Z T (mkF m pc L S) Q cl sl := by
  obtain ⟨_, X, -⟩ := X
  subst hp
  exact g.go fun t r => XS.iload X.here K.1 rfl (hb K.2.2.1 hd) hl r
theorem o_iloadN (K : oCtx p s m meth c Z own cb ml nm rt yy) (X : oSt p l e R s m args below meth c Z T h cells slots) {k : Fin 4} {v : Int32} (hd : decode cb pc = .ok (.iload_n k, 1)) (hp : pc + 1 = pc') (hl : L[k.val]? = some (.val (.int v))) (g : oGoes p e below s Z T (mkF m pc' L (.int v :: S)) Q cl sl) : oGoes p e below s Z T (mkF m pc L S) Q cl sl := by
  obtain ⟨_, X, -⟩ := X
  subst hp
  exact g.go fun t r => XS.iloadN X.here K.1 rfl (hb K.2.2.1 hd) hl r
theorem o_istore (K : oCtx p s m meth c Z own cb ml nm rt yy) (X : oSt p l e R s m args below meth c Z T h cells slots) {k : Nat} {v : Int32} (hd : decode cb pc = .ok (.istore k, 2)) (hp : pc + 2 = pc') (hl : storeLocals L k (.int v) = some L') (g : oGoes p e below s Z T (mkF m pc' L' S) Q cl sl) : oGoes p e below s Z T (mkF m pc L (.int v :: S)) Q cl sl := by
  obtain ⟨_, X, -⟩ := X
  subst hp
  exact g.go fun t r => XS.istore X.here K.1 rfl (hb K.2.2.1 hd) rfl hl r
theorem o_istoreN (K : oCtx p s m meth c Z own cb ml nm rt yy) (X : oSt p l e R s m args below meth c Z T h cells slots) {k : Fin 4} {v : Int32} (hd : decode cb pc = .ok (.istore_n k, 1)) (hp : pc + 1 = pc') (hl : storeLocals L k.val (.int v) = some L') (g : oGoes p e below s Z T (mkF m pc' L' S) Q cl sl) : oGoes p e below s Z T (mkF m pc L (.int v :: S)) Q cl sl := by
  obtain ⟨_, X, -⟩ := X
  subst hp
  exact g.go fun t r => XS.istoreN X.here K.1 rfl (hb K.2.2.1 hd) rfl hl r
theorem o_lload (K : oCtx p s m meth c Z own cb ml nm rt yy) (X : oSt p l e R s m args below meth c Z T h cells slots) {k : Nat} {v : Int64} (hd : decode cb pc = .ok (.lload k, 2)) (hp : pc + 2 = pc') (hl : L[k]? = some (.val (.long v))) (g : oGoes p e below s Z T (mkF m pc' L (.long v :: S)) Q cl sl) : oGoes p e below s Z T (mkF m pc L S) Q cl sl := by
  obtain ⟨_, X, -⟩ := X
  subst hp
  exact g.go fun t r => XS.lload X.here K.1 rfl (hb K.2.2.1 hd) hl r
theorem o_lloadN (K : oCtx p s m meth c Z own cb ml nm rt yy) (X : oSt p l e R s m args below meth c Z T h cells slots) {k : Fin 4} {v : Int64} (hd : decode cb pc = .ok (.lload_n k, 1)) (hp : pc + 1 = pc') (hl : L[k.val]? = some (.val (.long v))) (g : oGoes p e below s Z T (mkF m pc' L (.long v :: S)) Q cl sl) : oGoes p e below s Z T (mkF m pc L S) Q cl sl := by
  obtain ⟨_, X, -⟩ := X
  subst hp
  exact g.go fun t r => XS.lloadN X.here K.1 rfl (hb K.2.2.1 hd) hl r
theorem o_lstore (K : oCtx p s m meth c Z own cb ml nm rt yy) (X : oSt p l e R s m args below meth c Z T h cells slots) {k : Nat} {v : Int64} (hd : decode cb pc = .ok (.lstore k, 2)) (hp : pc + 2 = pc') (hl : storeLocals L k (.long v) = some L') (g : oGoes p e below s Z T (mkF m pc' L' S) Q cl sl) : oGoes p e below s Z T (mkF m pc L (.long v :: S)) Q cl sl := by
  obtain ⟨_, X, -⟩ := X
  subst hp
  exact g.go fun t r => XS.lstore X.here K.1 rfl (hb K.2.2.1 hd) rfl hl r
theorem o_aload (K : oCtx p s m meth c Z own cb ml nm rt yy) (X : oSt p l e R s m args below meth c Z T h cells slots) {k : Nat} {v : Value} (hd : decode cb pc = .ok (.aload k, 2)) (hp : pc + 2 = pc') (hl : L[k]? = some (.val v)) (hv : v.isRef = true) (g : oGoes p e below s Z T (mkF m pc' L (v :: S)) Q cl sl) : oGoes p e below s Z T (mkF m pc L S) Q cl sl := by
  obtain ⟨_, X, -⟩ := X
  subst hp
  exact g.go fun t r => XS.aload X.here K.1 rfl (hb K.2.2.1 hd) hl hv r
theorem o_aloadN (K : oCtx p s m meth c Z own cb ml nm rt yy) (X : oSt p l e R s m args below meth c Z T h cells slots) {k : Fin 4} {v : Value} (hd : decode cb pc = .ok (.aload_n k, 1)) (hp : pc + 1 = pc') (hl : L[k.val]? = some (.val v)) (hv : v.isRef = true) (g : oGoes p e below s Z T (mkF m pc' L (v :: S)) Q cl sl) : oGoes p e below s Z T (mkF m pc L S) Q cl sl := by
  obtain ⟨_, X, -⟩ := X
  subst hp
  exact g.go fun t r => XS.aloadN X.here K.1 rfl (hb K.2.2.1 hd) hl hv r
theorem o_astore (K : oCtx p s m meth c Z own cb ml nm rt yy) (X : oSt p l e R s m args below meth c Z T h cells slots) {k : Nat} {v : Value} (hd : decode cb pc = .ok (.astore k, 2)) (hp : pc + 2 = pc') (hv : v.isRef = true) (hl : storeLocals L k v = some L') (g : oGoes p e below s Z T (mkF m pc' L' S) Q cl sl) : oGoes p e below s Z T (mkF m pc L (v :: S)) Q cl sl := by
  obtain ⟨_, X, -⟩ := X
  subst hp
  exact g.go fun t r => XS.astore X.here K.1 rfl (hb K.2.2.1 hd) rfl hv hl r
theorem o_astoreN (K : oCtx p s m meth c Z own cb ml nm rt yy) (X : oSt p l e R s m args below meth c Z T h cells slots) {k : Fin 4} {v : Value} (hd : decode cb pc = .ok (.astore_n k, 1)) (hp : pc + 1 = pc') (hv : v.isRef = true) (hl : storeLocals L k.val v = some L') (g : oGoes p e below s Z T (mkF m pc' L' S) Q cl sl) : oGoes p e below s Z T (mkF m pc L (v :: S)) Q cl sl := by
  obtain ⟨_, X, -⟩ := X
  subst hp
  exact g.go fun t r => XS.astoreN X.here K.1 rfl (hb K.2.2.1 hd) rfl hv hl r
theorem o_iconst (K : oCtx p s m meth c Z own cb ml nm rt yy) (X : oSt p l e R s m args below meth c Z T h cells slots) {i : Int} {z : Int32} (hd : decode cb pc = .ok (.iconst i, 1)) (hp : pc + 1 = pc') (hz : Int32.ofInt i = z) (g : oGoes p e below s Z T (mkF m pc' L (.int z :: S)) Q cl sl) : oGoes p e below s Z T (mkF m pc L S) Q cl sl := by
  obtain ⟨_, X, -⟩ := X
  subst hp
  exact g.go fun t r => XS.iconst X.here K.1 rfl (hb K.2.2.1 hd) (hz ▸ r)
theorem o_sipush (K : oCtx p s m meth c Z own cb ml nm rt yy) (X : oSt p l e R s m args below meth c Z T h cells slots) {i : Int} {z : Int32} (hd : decode cb pc = .ok (.sipush i, 3)) (hp : pc + 3 = pc') (hz : (Int16.ofInt i).toInt32 = z) (g : oGoes p e below s Z T (mkF m pc' L (.int z :: S)) Q cl sl) : oGoes p e below s Z T (mkF m pc L S) Q cl sl := by
  obtain ⟨_, X, -⟩ := X
  subst hp
  exact g.go fun t r => XS.sipush X.here K.1 rfl (hb K.2.2.1 hd) (hz ▸ r)
theorem o_aconst_null (K : oCtx p s m meth c Z own cb ml nm rt yy) (X : oSt p l e R s m args below meth c Z T h cells slots)  (hd : decode cb pc = .ok (.aconst_null, 1)) (hp : pc + 1 = pc') (g : oGoes p e below s Z T (mkF m pc' L (.null :: S)) Q cl sl) : oGoes p e below s Z T (mkF m pc L S) Q cl sl := by
  obtain ⟨_, X, -⟩ := X
  subst hp
  exact g.go fun t r => XS.aconstNull X.here K.1 rfl (hb K.2.2.1 hd) r
theorem o_iadd (K : oCtx p s m meth c Z own cb ml nm rt yy) (X : oSt p l e R s m args below meth c Z T h cells slots) {x y z : Int32} (hd : decode cb pc = .ok (.iadd, 1)) (hp : pc + 1 = pc') (hz : x + y = z) (g : oGoes p e below s Z T (mkF m pc' L (.int z :: S)) Q cl sl) : oGoes p e below s Z T (mkF m pc L (.int y :: .int x :: S)) Q cl sl := by
  obtain ⟨_, X, -⟩ := X
  subst hp
  exact g.go fun t r => XS.iadd X.here K.1 rfl (hb K.2.2.1 hd) rfl (hz ▸ r)
theorem o_isub (K : oCtx p s m meth c Z own cb ml nm rt yy) (X : oSt p l e R s m args below meth c Z T h cells slots) {x y z : Int32} (hd : decode cb pc = .ok (.isub, 1)) (hp : pc + 1 = pc') (hz : x - y = z) (g : oGoes p e below s Z T (mkF m pc' L (.int z :: S)) Q cl sl) : oGoes p e below s Z T (mkF m pc L (.int y :: .int x :: S)) Q cl sl := by
  obtain ⟨_, X, -⟩ := X
  subst hp
  exact g.go fun t r => XS.isub X.here K.1 rfl (hb K.2.2.1 hd) rfl (hz ▸ r)
theorem o_imul (K : oCtx p s m meth c Z own cb ml nm rt yy) (X : oSt p l e R s m args below meth c Z T h cells slots) {x y z : Int32} (hd : decode cb pc = .ok (.imul, 1)) (hp : pc + 1 = pc') (hz : x * y = z) (g : oGoes p e below s Z T (mkF m pc' L (.int z :: S)) Q cl sl) : oGoes p e below s Z T (mkF m pc L (.int y :: .int x :: S)) Q cl sl := by
  obtain ⟨_, X, -⟩ := X
  subst hp
  exact g.go fun t r => XS.imul X.here K.1 rfl (hb K.2.2.1 hd) rfl (hz ▸ r)
theorem o_iand (K : oCtx p s m meth c Z own cb ml nm rt yy) (X : oSt p l e R s m args below meth c Z T h cells slots) {x y z : Int32} (hd : decode cb pc = .ok (.iand, 1)) (hp : pc + 1 = pc') (hz : x &&& y = z) (g : oGoes p e below s Z T (mkF m pc' L (.int z :: S)) Q cl sl) : oGoes p e below s Z T (mkF m pc L (.int y :: .int x :: S)) Q cl sl := by
  obtain ⟨_, X, -⟩ := X
  subst hp
  exact g.go fun t r => XS.iand X.here K.1 rfl (hb K.2.2.1 hd) rfl (hz ▸ r)
theorem o_iushr (K : oCtx p s m meth c Z own cb ml nm rt yy) (X : oSt p l e R s m args below meth c Z T h cells slots) {x y z : Int32} (hd : decode cb pc = .ok (.iushr, 1)) (hp : pc + 1 = pc') (hz : (x.toUInt32 >>> (y &&& 31).toUInt32).toInt32 = z) (g : oGoes p e below s Z T (mkF m pc' L (.int z :: S)) Q cl sl) : oGoes p e below s Z T (mkF m pc L (.int y :: .int x :: S)) Q cl sl := by
  obtain ⟨_, X, -⟩ := X
  subst hp
  exact g.go fun t r => XS.iushr X.here K.1 rfl (hb K.2.2.1 hd) rfl (hz ▸ r)
theorem o_lcmp (K : oCtx p s m meth c Z own cb ml nm rt yy) (X : oSt p l e R s m args below meth c Z T h cells slots) {x y : Int64} {z : Int32} (hd : decode cb pc = .ok (.lcmp, 1)) (hp : pc + 1 = pc') (hz : lcmpW x y = z) (g : oGoes p e below s Z T (mkF m pc' L (.int z :: S)) Q cl sl) : oGoes p e below s Z T (mkF m pc L (.long y :: .long x :: S)) Q cl sl := by
  obtain ⟨_, X, -⟩ := X
  subst hp
  exact g.go fun t r => XS.lcmp X.here K.1 rfl (hb K.2.2.1 hd) rfl (by subst hz; exact r)
theorem o_idiv (K : oCtx p s m meth c Z own cb ml nm rt yy) (X : oSt p l e R s m args below meth c Z T h cells slots) {x y z : Int32} (hd : decode cb pc = .ok (.idiv, 1)) (hp : pc + 1 = pc') (hy : y ≠ 0) (hz : x / y = z) (g : oGoes p e below s Z T (mkF m pc' L (.int z :: S)) Q cl sl) : oGoes p e below s Z T (mkF m pc L (.int y :: .int x :: S)) Q cl sl := by
  obtain ⟨_, X, -⟩ := X
  subst hp
  exact g.go fun t r => XS.idiv X.here K.1 rfl (hb K.2.2.1 hd) rfl hy (hz ▸ r)
theorem o_iinc (K : oCtx p s m meth c Z own cb ml nm rt yy) (X : oSt p l e R s m args below meth c Z T h cells slots) {k : Nat} {i : Int} {x : Int32} (hd : decode cb pc = .ok (.iinc k i, 3)) (hp : pc + 3 = pc') (hl : L[k]? = some (.val (.int x))) (hl' : storeLocals L k (.int (x + Int32.ofInt i)) = some L') (g : oGoes p e below s Z T (mkF m pc' L' S) Q cl sl) : oGoes p e below s Z T (mkF m pc L S) Q cl sl := by
  obtain ⟨_, X, -⟩ := X
  subst hp
  exact g.go fun t r => XS.iinc X.here K.1 rfl (hb K.2.2.1 hd) hl hl' r
theorem o_dup (K : oCtx p s m meth c Z own cb ml nm rt yy) (X : oSt p l e R s m args below meth c Z T h cells slots) {v : Value} (hd : decode cb pc = .ok (.dup, 1)) (hp : pc + 1 = pc') (hc : v.category = 1) (g : oGoes p e below s Z T (mkF m pc' L (v :: v :: S)) Q cl sl) : oGoes p e below s Z T (mkF m pc L (v :: S)) Q cl sl := by
  obtain ⟨_, X, -⟩ := X
  subst hp
  exact g.go fun t r => XS.dup X.here K.1 rfl (hb K.2.2.1 hd) rfl hc r
theorem o_goto (K : oCtx p s m meth c Z own cb ml nm rt yy) (X : oSt p l e R s m args below meth c Z T h cells slots) {o : Int} (hd : decode cb pc = .ok (.goto o, 3)) (ho : 0 ≤ (pc : Int) + o) (hp : ((pc : Int) + o).toNat = pc') (g : oGoes p e below s Z T (mkF m pc' L S) Q cl sl) : oGoes p e below s Z T (mkF m pc L S) Q cl sl := by
  obtain ⟨_, X, -⟩ := X
  exact g.go fun t r => XS.goto X.here K.1 rfl (pc0 := pc) rfl (hb K.2.2.1 hd) ho hp r
theorem o_icmp_lt_t (K : oCtx p s m meth c Z own cb ml nm rt yy) (X : oSt p l e R s m args below meth c Z T h cells slots) {x y : Int32} {o : Int} (hd : decode cb pc = .ok (.if_icmp .lt o, 3)) (ho : 0 ≤ (pc : Int) + o) (hp : ((pc : Int) + o).toNat = pc') (hc : x < y) (g : oGoes p e below s Z T (mkF m pc' L S) Q cl sl) : oGoes p e below s Z T (mkF m pc L (.int y :: .int x :: S)) Q cl sl := by
  obtain ⟨_, X, -⟩ := X
  exact g.go fun t r => XS.icmpYes X.here K.1 rfl (pc0 := pc) rfl (hb K.2.2.1 hd) rfl (tlt hc).1 ho hp r
theorem o_icmp_lt_f (K : oCtx p s m meth c Z own cb ml nm rt yy) (X : oSt p l e R s m args below meth c Z T h cells slots) {x y : Int32} {o : Int} (hd : decode cb pc = .ok (.if_icmp .lt o, 3)) (hp : pc + 3 = pc') (hc : ¬ x < y) (g : oGoes p e below s Z T (mkF m pc' L S) Q cl sl) : oGoes p e below s Z T (mkF m pc L (.int y :: .int x :: S)) Q cl sl := by
  obtain ⟨_, X, -⟩ := X
  subst hp
  exact g.go fun t r => XS.icmpNo X.here K.1 rfl (hb K.2.2.1 hd) rfl (flt hc).1 r
theorem o_icmp_ge_t (K : oCtx p s m meth c Z own cb ml nm rt yy) (X : oSt p l e R s m args below meth c Z T h cells slots) {x y : Int32} {o : Int} (hd : decode cb pc = .ok (.if_icmp .ge o, 3)) (ho : 0 ≤ (pc : Int) + o) (hp : ((pc : Int) + o).toNat = pc') (hc : ¬ x < y) (g : oGoes p e below s Z T (mkF m pc' L S) Q cl sl) : oGoes p e below s Z T (mkF m pc L (.int y :: .int x :: S)) Q cl sl := by
  obtain ⟨_, X, -⟩ := X
  exact g.go fun t r => XS.icmpYes X.here K.1 rfl (pc0 := pc) rfl (hb K.2.2.1 hd) rfl (flt hc).2.1 ho hp r
theorem o_if_ge_t (K : oCtx p s m meth c Z own cb ml nm rt yy) (X : oSt p l e R s m args below meth c Z T h cells slots) {x : Int32} {o : Int} (hd : decode cb pc = .ok (.ifCond .ge o, 3)) (ho : 0 ≤ (pc : Int) + o) (hp : ((pc : Int) + o).toNat = pc') (hc : ¬ x < 0) (g : oGoes p e below s Z T (mkF m pc' L S) Q cl sl) : oGoes p e below s Z T (mkF m pc L (.int x :: S)) Q cl sl := by
  obtain ⟨_, X, -⟩ := X
  exact g.go fun t r => XS.ifYes X.here K.1 rfl (pc0 := pc) rfl (hb K.2.2.1 hd) rfl ((if0 _ _).trans (flt hc).2.1) ho hp r
theorem o_icmp_ge_f (K : oCtx p s m meth c Z own cb ml nm rt yy) (X : oSt p l e R s m args below meth c Z T h cells slots) {x y : Int32} {o : Int} (hd : decode cb pc = .ok (.if_icmp .ge o, 3)) (hp : pc + 3 = pc') (hc : x < y) (g : oGoes p e below s Z T (mkF m pc' L S) Q cl sl) : oGoes p e below s Z T (mkF m pc L (.int y :: .int x :: S)) Q cl sl := by
  obtain ⟨_, X, -⟩ := X
  subst hp
  exact g.go fun t r => XS.icmpNo X.here K.1 rfl (hb K.2.2.1 hd) rfl (tlt hc).2.1 r
theorem o_icmp_gt_f (K : oCtx p s m meth c Z own cb ml nm rt yy) (X : oSt p l e R s m args below meth c Z T h cells slots) {x y : Int32} {o : Int} (hd : decode cb pc = .ok (.if_icmp .gt o, 3)) (hp : pc + 3 = pc') (hc : ¬ y < x) (g : oGoes p e below s Z T (mkF m pc' L S) Q cl sl) : oGoes p e below s Z T (mkF m pc L (.int y :: .int x :: S)) Q cl sl := by
  obtain ⟨_, X, -⟩ := X
  subst hp
  exact g.go fun t r => XS.icmpNo X.here K.1 rfl (hb K.2.2.1 hd) rfl (flt hc).2.2.1 r
theorem o_icmp_le_t (K : oCtx p s m meth c Z own cb ml nm rt yy) (X : oSt p l e R s m args below meth c Z T h cells slots) {x y : Int32} {o : Int} (hd : decode cb pc = .ok (.if_icmp .le o, 3)) (ho : 0 ≤ (pc : Int) + o) (hp : ((pc : Int) + o).toNat = pc') (hc : ¬ y < x) (g : oGoes p e below s Z T (mkF m pc' L S) Q cl sl) : oGoes p e below s Z T (mkF m pc L (.int y :: .int x :: S)) Q cl sl := by
  obtain ⟨_, X, -⟩ := X
  exact g.go fun t r => XS.icmpYes X.here K.1 rfl (pc0 := pc) rfl (hb K.2.2.1 hd) rfl (flt hc).2.2.2 ho hp r
theorem o_if_le_t (K : oCtx p s m meth c Z own cb ml nm rt yy) (X : oSt p l e R s m args below meth c Z T h cells slots) {x : Int32} {o : Int} (hd : decode cb pc = .ok (.ifCond .le o, 3)) (ho : 0 ≤ (pc : Int) + o) (hp : ((pc : Int) + o).toNat = pc') (hc : ¬ 0 < x) (g : oGoes p e below s Z T (mkF m pc' L S) Q cl sl) : oGoes p e below s Z T (mkF m pc L (.int x :: S)) Q cl sl := by
  obtain ⟨_, X, -⟩ := X
  exact g.go fun t r => XS.ifYes X.here K.1 rfl (pc0 := pc) rfl (hb K.2.2.1 hd) rfl ((if0 _ _).trans (flt hc).2.2.2) ho hp r
theorem o_icmp_eq_t (K : oCtx p s m meth c Z own cb ml nm rt yy) (X : oSt p l e R s m args below meth c Z T h cells slots) {x y : Int32} {o : Int} (hd : decode cb pc = .ok (.if_icmp .eq o, 3)) (ho : 0 ≤ (pc : Int) + o) (hp : ((pc : Int) + o).toNat = pc') (hc : x = y) (g : oGoes p e below s Z T (mkF m pc' L S) Q cl sl) : oGoes p e below s Z T (mkF m pc L (.int y :: .int x :: S)) Q cl sl := by
  obtain ⟨_, X, -⟩ := X
  exact g.go fun t r => XS.icmpYes X.here K.1 rfl (pc0 := pc) rfl (hb K.2.2.1 hd) rfl (teq hc).1 ho hp r
theorem o_if_eq_t (K : oCtx p s m meth c Z own cb ml nm rt yy) (X : oSt p l e R s m args below meth c Z T h cells slots) {x : Int32} {o : Int} (hd : decode cb pc = .ok (.ifCond .eq o, 3)) (ho : 0 ≤ (pc : Int) + o) (hp : ((pc : Int) + o).toNat = pc') (hc : x = 0) (g : oGoes p e below s Z T (mkF m pc' L S) Q cl sl) : oGoes p e below s Z T (mkF m pc L (.int x :: S)) Q cl sl := by
  obtain ⟨_, X, -⟩ := X
  exact g.go fun t r => XS.ifYes X.here K.1 rfl (pc0 := pc) rfl (hb K.2.2.1 hd) rfl ((if0 _ _).trans (teq hc).1) ho hp r
theorem o_if_eq_f (K : oCtx p s m meth c Z own cb ml nm rt yy) (X : oSt p l e R s m args below meth c Z T h cells slots) {x : Int32} {o : Int} (hd : decode cb pc = .ok (.ifCond .eq o, 3)) (hp : pc + 3 = pc') (hc : ¬ x = 0) (g : oGoes p e below s Z T (mkF m pc' L S) Q cl sl) : oGoes p e below s Z T (mkF m pc L (.int x :: S)) Q cl sl := by
  obtain ⟨_, X, -⟩ := X
  subst hp
  exact g.go fun t r => XS.ifNo X.here K.1 rfl (hb K.2.2.1 hd) rfl ((if0 _ _).trans (feq hc).1) r
theorem o_icmp_ne_t (K : oCtx p s m meth c Z own cb ml nm rt yy) (X : oSt p l e R s m args below meth c Z T h cells slots) {x y : Int32} {o : Int} (hd : decode cb pc = .ok (.if_icmp .ne o, 3)) (ho : 0 ≤ (pc : Int) + o) (hp : ((pc : Int) + o).toNat = pc') (hc : ¬ x = y) (g : oGoes p e below s Z T (mkF m pc' L S) Q cl sl) : oGoes p e below s Z T (mkF m pc L (.int y :: .int x :: S)) Q cl sl := by
  obtain ⟨_, X, -⟩ := X
  exact g.go fun t r => XS.icmpYes X.here K.1 rfl (pc0 := pc) rfl (hb K.2.2.1 hd) rfl (feq hc).2 ho hp r
theorem o_icmp_ne_f (K : oCtx p s m meth c Z own cb ml nm rt yy) (X : oSt p l e R s m args below meth c Z T h cells slots) {x y : Int32} {o : Int} (hd : decode cb pc = .ok (.if_icmp .ne o, 3)) (hp : pc + 3 = pc') (hc : x = y) (g : oGoes p e below s Z T (mkF m pc' L S) Q cl sl) : oGoes p e below s Z T (mkF m pc L (.int y :: .int x :: S)) Q cl sl := by
  obtain ⟨_, X, -⟩ := X
  subst hp
  exact g.go fun t r => XS.icmpNo X.here K.1 rfl (hb K.2.2.1 hd) rfl (teq hc).2 r
theorem o_if_ne_f (K : oCtx p s m meth c Z own cb ml nm rt yy) (X : oSt p l e R s m args below meth c Z T h cells slots) {x : Int32} {o : Int} (hd : decode cb pc = .ok (.ifCond .ne o, 3)) (hp : pc + 3 = pc') (hc : x = 0) (g : oGoes p e below s Z T (mkF m pc' L S) Q cl sl) : oGoes p e below s Z T (mkF m pc L (.int x :: S)) Q cl sl := by
  obtain ⟨_, X, -⟩ := X
  subst hp
  exact g.go fun t r => XS.ifNo X.here K.1 rfl (hb K.2.2.1 hd) rfl ((if0 _ _).trans (teq hc).2) r
theorem o_ifnull_f (K : oCtx p s m meth c Z own cb ml nm rt yy) (X : oSt p l e R s m args below meth c Z T h cells slots) {b : Addr} {o : Int} (hd : decode cb pc = .ok (.ifnull o, 3)) (hp : pc + 3 = pc') (g : oGoes p e below s Z T (mkF m pc' L S) Q cl sl) : oGoes p e below s Z T (mkF m pc L (.ref b :: S)) Q cl sl := by
  obtain ⟨_, X, -⟩ := X
  subst hp
  exact g.go fun t r => XS.ifnullNo X.here K.1 rfl (hb K.2.2.1 hd) rfl r
theorem o_ifnonnull_f (K : oCtx p s m meth c Z own cb ml nm rt yy) (X : oSt p l e R s m args below meth c Z T h cells slots)  {o : Int} (hd : decode cb pc = .ok (.ifnonnull o, 3)) (hp : pc + 3 = pc') (g : oGoes p e below s Z T (mkF m pc' L S) Q cl sl) : oGoes p e below s Z T (mkF m pc L (.null :: S)) Q cl sl := by
  obtain ⟨_, X, -⟩ := X
  subst hp
  exact g.go fun t r => XS.ifnonnullNo X.here K.1 rfl (hb K.2.2.1 hd) rfl r
theorem o_acmp (K : oCtx p s m meth c Z own cb ml nm rt yy) (X : oSt p l e R s m args below meth c Z T h cells slots) {cd : ACond} {x y : Value} {o : Int} (same : Bool) (hd : decode cb pc = .ok (.if_acmp cd o, 3)) (ho : 0 ≤ (pc : Int) + o) (h1 : x.isRef = true) (h2 : y.isRef = true) (hq : decide (x = y) = same) (hp : pc' = if acV cd same = true then ((pc : Int) + o).toNat else pc + 3) (g : oGoes p e below s Z T (mkF m pc' L S) Q cl sl) : oGoes p e below s Z T (mkF m pc L (y :: x :: S)) Q cl sl := by
  obtain ⟨_, X, -⟩ := X
  exact g.go fun t r => Jvm.RoadKit.acmp (g := mkF m pc L (y :: x :: S)) X K.1 rfl h1 h2 (pc0 := pc) rfl (hb K.2.2.1 hd) rfl hq ho hp r
theorem o_getfield (K : oCtx p s m meth c Z own cb ml nm rt yy) (X : oSt p l e R s m args below meth c Z T h cells slots) {R0 O n d host : String} {index : Nat} {a : Addr} {v : Value} (w : (Jvm.Cond.fieldLink own index R0 n d).before a0 Z = true ∨ (Jvm.Cond.fieldLinkNest own index R0 n d host).before a0 Z = true) (via : Via Z R0 O n d) (F : Fld Z h a O n d v) (hd : decode cb pc = .ok (.getfield index, 3)) (hp : pc + 3 = pc')
    (g : ∀ T', oSt p l e R s m args below meth c Z T' h cells slots → oGoes p e below s Z T' (mkF m pc' L (v :: S)) Q cl sl) : oGoes p e below s Z T (mkF m pc L (.ref a :: S)) Q cl sl := by
  obtain ⟨locs, X, eT, N, E⟩ := X
  subst hp
  obtain ⟨T', X', e', st⟩ := getF X K.1 K.2.1 K.2.2.2.2.1 w via eT F (g := mkF m pc L (.ref a :: S)) rfl rfl (hb K.2.2.1 hd)
  exact (g T' ⟨locs, X', e', N, E⟩).go st
theorem o_putfield (K : oCtx p s m meth c Z own cb ml nm rt yy) (X : oSt p l e R s m args below meth c Z T h cells slots) {R0 O n d host C : String} {index kk : Nat} {ty : FieldType} {a : Addr} {v old : Value} (w : (Jvm.Cond.fieldLink own index R0 n d).before a0 Z = true ∨ (Jvm.Cond.fieldLinkNest own index R0 n d host).before a0 Z = true) (via : Via Z R0 O n d) (F : Fld Z h a O n d old) (Ex : Exa Z h a C) (Lz : (Jvm.Cond.lays C O n d).before a0 Z = true ∨ ((Jvm.Cond.laysFinal C O n d).before a0 Z = true ∧ own = O ∧ nm = "<init>")) (wi : (Jvm.Cond.instantiable C kk).before a0 Z = true) (hty : parseFieldDescriptor d = some ty) (hn : narrow ty v = v) (hf : fits ty v = true) (hza : Z.heap.size ≤ a) (hd : decode cb pc = .ok (.putfield index, 3)) (hp : pc + 3 = pc')
    (g : ∀ T' h', oSt p l e R s m args below meth c Z T' h' cells slots → Wr h h' a (Jvm.RoadKit.slotOf Z O n d) v → oGoes p e below s Z T' (mkF m pc' L S) Q cl sl) : oGoes p e below s Z T (mkF m pc L (v :: .ref a :: S)) Q cl sl := by
  obtain ⟨locs, X, eT, N, E⟩ := X
  subst hp
  obtain ⟨T', h', X', e', W, st⟩ := putF X K.1 K.2.1 K.2.2.2.2.1 w via eT F Ex (Lz.imp id fun q => ⟨q.1, q.2.1, K.2.2.2.2.2.1.trans q.2.2⟩) wi hty hn hf (g := mkF m pc L (v :: .ref a :: S)) rfl rfl (hb K.2.2.1 hd)
  exact (g T' h' ⟨_, X', e', Fr.snoc X' N hza, oExt_wr E W hza⟩ W).go st
theorem o_new (K : oCtx p s m meth c Z own cb ml nm rt yy) (X : oSt p l e R s m args below meth c Z T h cells slots) {C : String} {index n : Nat} (w : (Jvm.Cond.classLink own index C).before a0 Z = true) (wi : (Jvm.Cond.instantiable C n).before a0 Z = true) (wz : (Jvm.Cond.initialized C).before a0 Z = true) (hd : decode cb pc = .ok (.new index, 3)) (hp : pc + 3 = pc') (hc : cells + 1 ≤ R.cells) (hl : slots + n ≤ R.slots)
    (g : ∀ T' h' b, oSt p l e R s m args below meth c Z T' h' (cells + 1) (slots + n) → b = h.size → Ext h h' → Exa Z h' b C → (∀ {O nm d : String} {ty : FieldType}, Laid Z a0 C O nm d → parseFieldDescriptor d = some ty → Fld Z h' b O nm d (defaultValue ty)) → Z.heap.size ≤ b → oGoes p e below s Z T' (mkF m pc' L (.ref b :: S)) Q cl sl) : oGoes p e below s Z T (mkF m pc L S) Q cl sl := by
  obtain ⟨locs, X, eT, N, E⟩ := X
  subst hp
  obtain ⟨T', h', X', e', E', A, D, -, st⟩ := newO X K.1 K.2.1 K.2.2.2.2.1 w wi wz eT (g := mkF m pc L S) rfl (hb K.2.2.1 hd) hc hl
  exact (g T' h' h.size ⟨_, X', e', N, oExt_trans E E'⟩ rfl E' A D E.1).go st
theorem o_initObj (K : oCtx p s m meth c Z own cb ml nm rt yy) (X : oSt p l e R s m args below meth c Z T h cells slots) {index : Nat} {a : Addr} (w1 : (Jvm.Cond.methodLink own index Lib.objectInit).before a0 Z = true) (w2 : (Jvm.Cond.instanceMethod Lib.objectInit).before a0 Z = true) (w3 : (Jvm.Cond.code Lib.objectInit ⟨#[0xb1]⟩ 1 none).before a0 Z = true) (hd : decode cb pc = .ok (.invokespecial index, 3)) (hp : pc + 3 = pc') (hsz : L.size = ml) (hf : 1 ≤ R.frames) {W : Nat} (hW : (S.map fun v => v.category).sum = W) (hl : W + 12 ≤ R.locals)
    (g : ∀ T', oSt p l e R s m args below meth c Z T' h cells slots → oGoes p e below s Z T' (mkF m pc' L S) Q cl sl) : oGoes p e below s Z T (mkF m pc L (.ref a :: S)) Q cl sl := by
  obtain ⟨locs, X, eT, N, E⟩ := X
  subst hp
  obtain ⟨T', X', e', st⟩ := initO X K.1 K.2.1 K.2.2.2.2.1 w1 w2 w3 eT (g := mkF m pc L (.ref a :: S)) rfl (by show L.size = _; rw [K.2.2.2.1]; exact hsz) rfl (hb K.2.2.1 hd) hf (W := W) (by show 2 * 0 + _ ≤ _; omega) hl
  exact (g T' ⟨_, X', e', N, E⟩).go st
theorem o_static (K : oCtx p s m meth c Z own cb ml nm rt yy) (X : oSt p l e R s m args below meth c Z T h cells slots) {index : Nat} {y : MethodName} {bs : ByteArray} {mx : Nat} {rc : Option FieldType} {rm : Room} {as : Array Value} {Qc : Option Value → Heap → Prop} (w1 : (Jvm.Cond.methodLink own index y).before a0 Z = true) (w2 : (Jvm.Cond.static y).before a0 Z = true) (wz : (Jvm.Cond.initialized y.cls).before a0 Z = true) (wc : (Jvm.Cond.code y bs mx rc).before a0 Z = true) (hy : y.cls ≠ "java/lang/invoke/MethodHandle" ∧ y.cls ≠ "java/lang/invoke/VarHandle")
    (hM : oMet l Z y bs mx rc rm [] as h Qc) (hf : rm.frames + 1 ≤ R.frames) (hsz : L.size = ml) {argsL : List Value} (has : argsL.toArray = as) (hlen : ∀ sig, parseMethodDescriptor y.desc = some sig → argsL.length = sig.parameters.length) {W : Nat} (hW : (S.map fun v => v.category).sum = W) (hl : W + (mx + 11) + rm.locals ≤ R.locals) (hc : cells + rm.cells ≤ R.cells) (hs : slots + rm.slots ≤ R.slots) (hd : decode cb pc = .ok (.invokestatic index, 3)) (hp : pc + 3 = pc') (g : ∀ v T' h', oSt p l e R s m args below meth c Z T' h' (cells + rm.cells) (slots + rm.slots) → Qc v h' → oGoes p e below s Z T' (mkF m pc' L (v.toList ++ S)) Q cl sl) : oGoes p e below s Z T (mkF m pc L (argsL.reverse ++ S)) Q cl sl := by
  obtain ⟨locs, X, eT, N, E⟩ := X
  subst hp
  obtain ⟨v, _, ⟨T', L1, k1, n1⟩, -, X', ⟨Lc, hQ, l1, y1, z1⟩, st⟩ := Jvm.LawKit.callS X K.1 (y := y) K.2.2.2.2.1 (mvT K.2.1 w1) (mvT K.2.1 w2) (mvT K.2.1 wz) (mvT K.2.1 wc) hy (backOf (W := W) (Q := fun v h L => Qc v h ∧ Fr Z.heap.size L ∧ Ext Z.heap h) (hM E) K.2.1 wc wz hf hl) (g := mkF m pc L (argsL.reverse ++ S)) rfl (by show L.size = _; rw [K.2.2.2.1]; exact hsz) (argsL := argsL) (rest := S) hlen rfl (by show 2 * 0 + _ ≤ _; omega) (hb K.2.2.1 hd) (fun _ _ => ⟨has, eT, hc, hs⟩)
  dsimp only [Pt.U, Pt.locs, Pt.cells, Pt.slots] at X' l1 y1 z1 st hQ
  subst l1 y1 z1
  exact (g v T' _ ⟨_, X', rfl, Fr.app N hQ.2.1, hQ.2.2⟩ hQ.1).go st
theorem o_special (K : oCtx p s m meth c Z own cb ml nm rt yy) (X : oSt p l e R s m args below meth c Z T h cells slots) {index : Nat} {y : MethodName} {a : Addr} {bs : ByteArray} {mx : Nat} {rm : Room} {as : Array Value} {Qc : Option Value → Heap → Prop} (hy1 : y.name = "<init>") (w1 : (Jvm.Cond.methodLink own index y).before a0 Z = true) (w2 : (Jvm.Cond.instanceMethod y).before a0 Z = true) (wz : (Jvm.Cond.initialized y.cls).before a0 Z = true) (wc : (Jvm.Cond.code y bs mx none).before a0 Z = true) (hy : y.cls ≠ "java/lang/invoke/MethodHandle" ∧ y.cls ≠ "java/lang/invoke/VarHandle")
    (hM : oMet l Z y bs mx none rm [] as h Qc) (hf : rm.frames + 1 ≤ R.frames) (hsz : L.size = ml) {argsL : List Value} (has : (Value.ref a :: argsL).toArray = as) (hlen : ∀ sig, parseMethodDescriptor y.desc = some sig → argsL.length = sig.parameters.length) {W : Nat} (hW : (S.map fun v => v.category).sum = W) (hl : W + (mx + 11) + rm.locals ≤ R.locals) (hc : cells + rm.cells ≤ R.cells) (hs : slots + rm.slots ≤ R.slots) (hd : decode cb pc = .ok (.invokespecial index, 3)) (hp : pc + 3 = pc') (g : ∀ v T' h', oSt p l e R s m args below meth c Z T' h' (cells + rm.cells) (slots + rm.slots) → Qc v h' → oGoes p e below s Z T' (mkF m pc' L (v.toList ++ S)) Q cl sl) : oGoes p e below s Z T (mkF m pc L (argsL.reverse ++ .ref a :: S)) Q cl sl := by
  obtain ⟨locs, X, eT, N, E⟩ := X
  subst hp
  obtain ⟨v, _, ⟨T', L1, k1, n1⟩, -, X', ⟨Lc, hQ, l1, y1, z1⟩, st⟩ := X.specialBack K.1 (y := y) hy1 K.2.2.2.2.1 (mvT K.2.1 w1) (mvT K.2.1 w2) (mvT K.2.1 wc) hy (backOf (W := W) (Q := fun v h L => Qc v h ∧ Fr Z.heap.size L ∧ Ext Z.heap h) (hM E) K.2.1 wc wz hf hl) (g := mkF m pc L (argsL.reverse ++ .ref a :: S)) rfl (by show L.size = _; rw [K.2.2.2.1]; exact hsz) (Steps.refl _) (a := a) (argsL := argsL) (rest := S) hlen rfl (by show 2 * 0 + _ ≤ _; omega) (hb K.2.2.1 hd) (fun _ _ => ⟨has, eT, hc, hs⟩)
  dsimp only [Pt.U, Pt.locs, Pt.cells, Pt.slots] at X' l1 y1 z1 st hQ
  subst l1 y1 z1
  exact (g v T' _ ⟨_, X', rfl, Fr.app N hQ.2.1, hQ.2.2⟩ hQ.1).go fun t r => st.trans r
theorem o_virtual (K : oCtx p s m meth c Z own cb ml nm rt yy) (X : oSt p l e R s m args below meth c Z T h cells slots) {index : Nat} {y z : MethodName} {C : String} {a : Addr} {bs : ByteArray} {mx : Nat} {rc : Option FieldType} {rm : Room} {as : Array Value} {Qc : Option Value → Heap → Prop} (w1 : (Jvm.Cond.methodLink own index y).before a0 Z = true) (w2 : (Jvm.Cond.declares y).before a0 Z = true) (hnf : NotFace s y) (w3 : (Jvm.Cond.selects C y z).before a0 Z = true) (w4 : (Jvm.Cond.instanceMethod z).before a0 Z = true) (wz : (Jvm.Cond.initialized z.cls).before a0 Z = true) (wc : (Jvm.Cond.code z bs mx rc).before a0 Z = true) (hy : y.cls ≠ "java/lang/invoke/MethodHandle" ∧ y.cls ≠ "java/lang/invoke/VarHandle") (Ex : Exa Z h a C)
    (hM : oMet l Z z bs mx rc rm [] as h Qc) (hf : rm.frames + 1 ≤ R.frames) (hsz : L.size = ml) {argsL : List Value} (has : (Value.ref a :: argsL).toArray = as) (hlen : ∀ sig, parseMethodDescriptor y.desc = some sig → argsL.length = sig.parameters.length) {W : Nat} (hW : (S.map fun v => v.category).sum = W) (hl : W + (mx + 11) + rm.locals ≤ R.locals) (hc : cells + rm.cells ≤ R.cells) (hs : slots + rm.slots ≤ R.slots) (hd : decode cb pc = .ok (.invokevirtual index, 3)) (hp : pc + 3 = pc') (g : ∀ v T' h', oSt p l e R s m args below meth c Z T' h' (cells + rm.cells) (slots + rm.slots) → Qc v h' → oGoes p e below s Z T' (mkF m pc' L (v.toList ++ S)) Q cl sl) : oGoes p e below s Z T (mkF m pc L (argsL.reverse ++ .ref a :: S)) Q cl sl := by
  obtain ⟨locs, X, eT, N, E⟩ := X
  subst hp
  obtain ⟨cq, kq, qa, qb, qc⟩ := isOf K.2.1 eT Ex
  obtain ⟨v, _, ⟨T', L1, k1, n1⟩, -, X', ⟨Lc, hQ, l1, y1, z1⟩, st⟩ := X.virtualBack K.1 (y := y) (z := z) K.2.2.2.2.1 (mvT K.2.1 w1) (mvT K.2.1 w2) hnf (mvT K.2.1 w3) (mvT K.2.1 w4) hy (backOf (W := W) (Q := fun v h L => Qc v h ∧ Fr Z.heap.size L ∧ Ext Z.heap h) (hM E) K.2.1 wc wz hf hl) qa qc (g := mkF m pc L (argsL.reverse ++ .ref a :: S)) rfl (by show L.size = _; rw [K.2.2.2.1]; exact hsz) (Steps.refl _) (argsL := argsL) (rest := S) hlen rfl (by show 2 * 0 + _ ≤ _; omega) (hb K.2.2.1 hd) (fun _ _ => ⟨has, eT, hc, hs⟩)
  dsimp only [Pt.U, Pt.locs, Pt.cells, Pt.slots] at X' l1 y1 z1 st hQ
  subst l1 y1 z1
  exact (g v T' _ ⟨_, X', rfl, Fr.app N hQ.2.1, hQ.2.2⟩ hQ.1).go fun t r => st.trans r
theorem o_checkcast (K : oCtx p s m meth c Z own cb ml nm rt yy) (X : oSt p l e R s m args below meth c Z T h cells slots) {index : Nat} {C : String} {a : Addr} (w : (Jvm.Cond.classLink own index C).before a0 Z = true) (F : Ins Z h a C true) (hd : decode cb pc = .ok (.checkcast index, 3)) (hp : pc + 3 = pc') (g : ∀ T', oSt p l e R s m args below meth c Z T' h cells slots → oGoes p e below s Z T' (mkF m pc' L (.ref a :: S)) Q cl sl) : oGoes p e below s Z T (mkF m pc L (.ref a :: S)) Q cl sl := by
  obtain ⟨locs, X, eT, N, E⟩ := X
  subst hp
  obtain ⟨T', X', e', st⟩ := castY X K.1 K.2.1 K.2.2.2.2.1 w eT F (g := mkF m pc L (.ref a :: S)) rfl rfl (hb K.2.2.1 hd)
  exact (g T' ⟨_, X', e', N, E⟩).go st
theorem o_instanceof (K : oCtx p s m meth c Z own cb ml nm rt yy) (X : oSt p l e R s m args below meth c Z T h cells slots) {index : Nat} {C : String} {a : Addr} (w : (Jvm.Cond.classLink own index C).before a0 Z = true) (F : Ins Z h a C true) (hd : decode cb pc = .ok (.instanceof index, 3)) (hp : pc + 3 = pc') (g : ∀ T', oSt p l e R s m args below meth c Z T' h cells slots → oGoes p e below s Z T' (mkF m pc' L (.int 1 :: S)) Q cl sl) : oGoes p e below s Z T (mkF m pc L (.ref a :: S)) Q cl sl := by
  obtain ⟨locs, X, eT, N, E⟩ := X
  subst hp
  obtain ⟨T', X', e', st⟩ := instY X K.1 K.2.1 K.2.2.2.2.1 w eT F (g := mkF m pc L (.ref a :: S)) rfl rfl (hb K.2.2.1 hd)
  exact (g T' ⟨_, X', e', N, E⟩).go st
def oArr (Z : State) (h : Heap) (a : Addr) (k : ClassId) (ty : FieldType) (vs : List Value) : Prop := ∃ c : Cell, Arr Z h a c ty ∧ c.cls = k ∧ c.slots = vs.toArray ∧ (∀ v ∈ vs, fits ty v = true) ∧ vs.length < 2 ^ 31
theorem oArr.lt {a : Addr} {k : ClassId} {ty : FieldType} {vs : List Value} (F : oArr Z h a k ty vs) : a < h.size := by obtain ⟨c, A, -⟩ := F; exact A.lt
theorem oArr.ext {h' : Heap} {a : Addr} {k : ClassId} {ty : FieldType} {vs : List Value} (F : oArr Z h a k ty vs) (E : Ext h h') : oArr Z h' a k ty vs := by obtain ⟨c, A, r⟩ := F; exact ⟨c, A.ext E, r⟩
theorem oArr.other {h' : Heap} {a b : Addr} {k : ClassId} {ty : FieldType} {vs : List Value} {sl : Nat} {v : Value} (F : oArr Z h b k ty vs) (W : Wr h h' a sl v) (q : b ≠ a) : oArr Z h' b k ty vs := by obtain ⟨c, A, r⟩ := F; exact ⟨c, A.other W q, r⟩
theorem oArr.keep {h' : Heap} {a : Addr} {k : ClassId} {ty : FieldType} {vs : List Value} {ws : List Addr} (F : oArr Z h a k ty vs) (Kp : Keep h h' ws) (q : a ∉ ws) : oArr Z h' a k ty vs := by obtain ⟨c, A, r⟩ := F; exact ⟨c, ⟨Kp.2.1 a c A.1 q, A.2⟩, r⟩
theorem oArr.set {h' : Heap} {a : Addr} {k : ClassId} {ty : FieldType} {vs : List Value} {j : Nat} {v : Value} (F : oArr Z h a k ty vs) (W : Wr h h' a j v) (hf : fits ty v = true) : oArr Z h' a k ty (vs.set j v) := by
  obtain ⟨c, A, q1, q2, q3, q4⟩ := F
  refine ⟨c.setSlot j v, A.same W, q1, ?_, fun u hu => ?_, by simpa using q4⟩
  · simp [Cell.setSlot, q2, List.setIfInBounds_toArray]
  · rcases List.mem_or_eq_of_mem_set hu with q | rfl
    · exact q3 _ q
    · exact hf
theorem oInb {vs : List Value} {c : Cell} {j : Int32} (q : c.slots = vs.toArray) (hj : ¬ j < 0) (hlt : j.toNatClampNeg < vs.length) : ¬ (j < 0 ∨ c.slots.size ≤ j.toNatClampNeg) := by
  rw [q]; simp only [List.size_toArray]
  rintro (h1 | h1)
  · exact hj h1
  · omega
theorem o_arraylength (K : oCtx p s m meth c Z own cb ml nm rt yy) (X : oSt p l e R s m args below meth c Z T h cells slots) {a : Addr} {k : ClassId} {ty : FieldType} {vs : List Value} {z : Int32} (F : oArr Z h a k ty vs) (hz : vs.length.toInt32 = z) (hd : decode cb pc = .ok (.arraylength, 1)) (hp : pc + 1 = pc') (g : oGoes p e below s Z T (mkF m pc' L (.int z :: S)) Q cl sl) : oGoes p e below s Z T (mkF m pc L (.ref a :: S)) Q cl sl := by
  obtain ⟨locs, X, eT, N, E⟩ := X
  obtain ⟨cc, A, q1, q2, q3, q4⟩ := F
  subst hp
  refine g.go fun t r => X.arraylength K.1 (by rw [eT]; exact A.1) (State.isArrayOf_alike K.2.1.alike A.2.1) (g := mkF m pc L (.ref a :: S)) rfl rfl (hb K.2.2.1 hd) _ ?_
  have e1 : cc.slots.size.toInt32 = z := by rw [q2]; simpa using hz
  rw [e1]; exact r
theorem o_laload (K : oCtx p s m meth c Z own cb ml nm rt yy) (X : oSt p l e R s m args below meth c Z T h cells slots) {a : Addr} {k : ClassId} {vs : List Value} {j : Int32} {v : Value} (F : oArr Z h a k .long vs) (hj : ¬ j < 0) (hv : vs[j.toNatClampNeg]? = some v) (hd : decode cb pc = .ok (.laload, 1)) (hp : pc + 1 = pc') (g : oGoes p e below s Z T (mkF m pc' L (v :: S)) Q cl sl) : oGoes p e below s Z T (mkF m pc L (.int j :: .ref a :: S)) Q cl sl := by
  obtain ⟨locs, X, eT, N, E⟩ := X
  obtain ⟨cc, A, q1, q2, q3, q4⟩ := F
  subst hp
  exact g.go fun t r => X.laload K.1 (by rw [eT]; exact A.1) (State.isArrayOf_alike K.2.1.alike A.2.1) A.2.2 (oInb q2 hj (List.getElem?_eq_some_iff.mp hv).1) (by rw [q2]; simpa using hv) (g := mkF m pc L (.int j :: .ref a :: S)) rfl rfl (hb K.2.2.1 hd) _ r
theorem o_aaload (K : oCtx p s m meth c Z own cb ml nm rt yy) (X : oSt p l e R s m args below meth c Z T h cells slots) {a : Addr} {k : ClassId} {vs : List Value} {j : Int32} {v : Value} {ty : FieldType} (hty : ty.isReference = true) (F : oArr Z h a k ty vs) (hj : ¬ j < 0) (hv : vs[j.toNatClampNeg]? = some v) (hd : decode cb pc = .ok (.aaload, 1)) (hp : pc + 1 = pc') (g : oGoes p e below s Z T (mkF m pc' L (v :: S)) Q cl sl) : oGoes p e below s Z T (mkF m pc L (.int j :: .ref a :: S)) Q cl sl := by
  obtain ⟨locs, X, eT, N, E⟩ := X
  obtain ⟨cc, A, q1, q2, q3, q4⟩ := F
  subst hp
  exact g.go fun t r => X.aaload K.1 (by rw [eT]; exact A.1) (State.isArrayOf_alike K.2.1.alike A.2.1) hty A.2.2 (oInb q2 hj (List.getElem?_eq_some_iff.mp hv).1) (by rw [q2]; simpa using hv) (g := mkF m pc L (.int j :: .ref a :: S)) rfl rfl (hb K.2.2.1 hd) _ r
theorem o_lastore (K : oCtx p s m meth c Z own cb ml nm rt yy) (X : oSt p l e R s m args below meth c Z T h cells slots) {a : Addr} {k : ClassId} {vs : List Value} {j : Int32} {x : Int64} {z : Value} (F : oArr Z h a k .long vs) (hj : ¬ j < 0) (hlt : j.toNatClampNeg < vs.length) (hza : Z.heap.size ≤ a) (hz : (.long x : Value) = z) (hd : decode cb pc = .ok (.lastore, 1)) (hp : pc + 1 = pc')
    (g : ∀ T' h', oSt p l e R s m args below meth c Z T' h' cells slots → Wr h h' a j.toNatClampNeg z → oArr Z h' a k .long (vs.set j.toNatClampNeg z) → oGoes p e below s Z T' (mkF m pc' L S) Q cl sl) : oGoes p e below s Z T (mkF m pc L (.long x :: .int j :: .ref a :: S)) Q cl sl := by
  obtain ⟨locs, X, eT, N, E⟩ := X
  subst hp hz
  obtain ⟨cc, A, q1, q2, q3, q4⟩ := id F
  obtain ⟨T', h', X', e', W, st⟩ := stJ X K.1 K.2.1 eT A (oInb q2 hj hlt) (g := mkF m pc L (.long x :: .int j :: .ref a :: S)) rfl rfl (hb K.2.2.1 hd)
  exact (g T' h' ⟨_, X', e', Fr.snoc X' N hza, oExt_wr E W hza⟩ W (F.set W rfl)).go st
theorem o_aastore (K : oCtx p s m meth c Z own cb ml nm rt yy) (X : oSt p l e R s m args below meth c Z T h cells slots) {a : Addr} {k : ClassId} {vs : List Value} {j : Int32} {v : Value} {ty : FieldType} (hty : ty.isReference = true) (F : oArr Z h a k ty vs) (hj : ¬ j < 0) (hlt : j.toNatClampNeg < vs.length) (hza : Z.heap.size ≤ a) (hS : Sto Z h a v) (hf : fits ty v = true) (hd : decode cb pc = .ok (.aastore, 1)) (hp : pc + 1 = pc')
    (g : ∀ T' h', oSt p l e R s m args below meth c Z T' h' cells slots → Wr h h' a j.toNatClampNeg v → oArr Z h' a k ty (vs.set j.toNatClampNeg v) → oGoes p e below s Z T' (mkF m pc' L S) Q cl sl) : oGoes p e below s Z T (mkF m pc L (v :: .int j :: .ref a :: S)) Q cl sl := by
  obtain ⟨locs, X, eT, N, E⟩ := X
  subst hp
  obtain ⟨cc, A, q1, q2, q3, q4⟩ := id F
  obtain ⟨T', h', X', e', W, st⟩ := stR X K.1 K.2.1 eT A (oInb q2 hj hlt) hty hS (g := mkF m pc L (v :: .int j :: .ref a :: S)) rfl rfl (hb K.2.2.1 hd)
  exact (g T' h' ⟨_, X', e', Fr.snoc X' N hza, oExt_wr E W hza⟩ W (F.set W hf)).go st
theorem oArr_new {b : Addr} {k : ClassId} {ty : FieldType} {n : Int32} {c : Nat} (A : Arr Z h b (newA k ty n) ty) (hn : n.toNatClampNeg = c) (hc : c < 2 ^ 31) (hf : fits ty (defaultValue ty) = true) : oArr Z h b k ty (List.replicate c (defaultValue ty)) :=
  ⟨_, A, rfl, by simp [newA, hn], fun v hv => by rw [(List.mem_replicate.mp hv).2]; exact hf, by simpa using hc⟩
theorem o_newarray (K : oCtx p s m meth c Z own cb ml nm rt yy) (X : oSt p l e R s m args below meth c Z T h cells slots) {aty : ArrayType} {n : Int32} {ad : String} (cn : Nat) (w : (Jvm.Cond.arrayClass (newarray.typeOf aty)).before a0 Z = true) (had : "[" ++ (newarray.typeOf aty).toString = ad) (hn : ¬ n < 0) (hcn : n.toNatClampNeg = cn) (hbb : cn * 8 ≤ 536870912) (hf : fits (newarray.typeOf aty) (defaultValue (newarray.typeOf aty)) = true) (hd : decode cb pc = .ok (.newarray aty, 2)) (hp : pc + 2 = pc') (hc : cells + 1 ≤ R.cells) (hl : slots + cn ≤ R.slots)
    (g : ∀ T' h' b k, oSt p l e R s m args below meth c Z T' h' (cells + 1) (slots + cn) → b = h.size → Ext h h' → oArr Z h' b k (newarray.typeOf aty) (List.replicate cn (defaultValue (newarray.typeOf aty))) → Exa Z h' b ad → Z.heap.size ≤ b → oGoes p e below s Z T' (mkF m pc' L (.ref b :: S)) Q cl sl) : oGoes p e below s Z T (mkF m pc L (.int n :: S)) Q cl sl := by
  obtain ⟨locs, X, eT, N, E⟩ := X
  subst hp
  obtain ⟨T', h', k, X', e', E', A, Ex, st⟩ := newPE X K.1 K.2.1 w eT (g := mkF m pc L (.int n :: S)) rfl (hb K.2.2.1 hd) rfl hn (cap := cn) (Nat.le_of_eq hcn) hbb hc hl had
  exact (g T' h' h.size k ⟨_, X', e', N, oExt_trans E E'⟩ rfl E' (oArr_new A hcn (by omega) hf) Ex E.1).go st
theorem o_anewarrayA (K : oCtx p s m meth c Z own cb ml nm rt yy) (X : oSt p l e R s m args below meth c Z T h cells slots) {C ad : String} {ty : FieldType} {index : Nat} {n : Int32} (cn : Nat) (hC : (FieldType.array ty).toString = C) (w1 : (Jvm.Cond.classLink own index C).before a0 Z = true) (w2 : (Jvm.Cond.arrayOver (.array ty)).before a0 Z = true) (had : "[" ++ C = ad) (hn : ¬ n < 0) (hcn : n.toNatClampNeg = cn) (hbb : cn * 8 ≤ 536870912) (hd : decode cb pc = .ok (.anewarray index, 3)) (hp : pc + 3 = pc') (hc : cells + 1 ≤ R.cells) (hl : slots + cn ≤ R.slots)
    (g : ∀ T' h' b k, oSt p l e R s m args below meth c Z T' h' (cells + 1) (slots + cn) → b = h.size → Ext h h' → oArr Z h' b k (.array ty) (List.replicate cn .null) → Exa Z h' b ad → OvrA Z k ty C → Z.heap.size ≤ b → oGoes p e below s Z T' (mkF m pc' L (.ref b :: S)) Q cl sl) : oGoes p e below s Z T (mkF m pc L (.int n :: S)) Q cl sl := by
  obtain ⟨locs, X, eT, N, E⟩ := X
  subst hp
  obtain ⟨T', h', k, X', e', E', A, Ex, O, st⟩ := newRA X K.1 K.2.1 K.2.2.2.2.1 hC w1 w2 eT (g := mkF m pc L (.int n :: S)) rfl (hb K.2.2.1 hd) rfl hn (cap := cn) (Nat.le_of_eq hcn) hbb hc hl had
  exact (g T' h' h.size k ⟨_, X', e', N, oExt_trans E E'⟩ rfl E' (oArr_new A hcn (by omega) rfl) Ex O E.1).go st
theorem o_private (K : oCtx p s m meth c Z own cb ml nm rt yy) (X : oSt p l e R s m args below meth c Z T h cells slots) {index : Nat} {y : MethodName} {a : Addr} {C : String} {bs : ByteArray} {mx : Nat} {rc : Option FieldType} {rm : Room} {as : Array Value} {Qc : Option Value → Heap → Prop} (w1 : (Jvm.Cond.methodLink own index y).before a0 Z = true) (w2 : (Jvm.Cond.instanceMethod y).before a0 Z = true) (w3 : (Jvm.Cond.selects y.cls y y).before a0 Z = true) (w4 : (Jvm.Cond.privateMethod y).before a0 Z = true) (wz : (Jvm.Cond.initialized y.cls).before a0 Z = true) (wc : (Jvm.Cond.code y bs mx rc).before a0 Z = true) (hy : y.cls ≠ "java/lang/invoke/MethodHandle" ∧ y.cls ≠ "java/lang/invoke/VarHandle") (Ex : Exa Z h a C)
    (hM : oMet l Z y bs mx rc rm [] as h Qc) (hf : rm.frames + 1 ≤ R.frames) (hsz : L.size = ml) {argsL : List Value} (has : (Value.ref a :: argsL).toArray = as) (hlen : ∀ sig, parseMethodDescriptor y.desc = some sig → argsL.length = sig.parameters.length) {W : Nat} (hW : (S.map fun v => v.category).sum = W) (hl : W + (mx + 11) + rm.locals ≤ R.locals) (hc : cells + rm.cells ≤ R.cells) (hs : slots + rm.slots ≤ R.slots) (hd : decode cb pc = .ok (.invokevirtual index, 3)) (hp : pc + 3 = pc') (g : ∀ v T' h', oSt p l e R s m args below meth c Z T' h' (cells + rm.cells) (slots + rm.slots) → Qc v h' → oGoes p e below s Z T' (mkF m pc' L (v.toList ++ S)) Q cl sl) : oGoes p e below s Z T (mkF m pc L (argsL.reverse ++ .ref a :: S)) Q cl sl := by
  obtain ⟨locs, X, eT, N, E⟩ := X
  subst hp
  obtain ⟨cq, q, q'⟩ := Ex.cell
  obtain ⟨v, _, ⟨T', L1, k1, n1⟩, -, X', ⟨Lc, hQ, l1, y1, z1⟩, st⟩ := X.privateBack K.1 (y := y) K.2.2.2.2.1 (mvT K.2.1 w1) (mvT K.2.1 w2) (mvT K.2.1 w3) (Jvm.Cond.privateMethod_at (mvP K.2.1 w4 (args := #[]))) (mvT K.2.1 wc) hy (backOf (W := W) (Q := fun v h L => Qc v h ∧ Fr Z.heap.size L ∧ Ext Z.heap h) (hM E) K.2.1 wc wz hf hl) (g := mkF m pc L (argsL.reverse ++ .ref a :: S)) rfl (by show L.size = _; rw [K.2.2.2.1]; exact hsz) (Steps.refl _) (a := a) (by rw [eT]; exact q) q' (argsL := argsL) (rest := S) hlen rfl (by show 2 * 0 + _ ≤ _; omega) (hb K.2.2.1 hd) (fun _ _ => ⟨has, eT, hc, hs⟩)
  dsimp only [Pt.U, Pt.locs, Pt.cells, Pt.slots] at X' l1 y1 z1 st hQ
  subst l1 y1 z1
  exact (g v T' _ ⟨_, X', rfl, Fr.app N hQ.2.1, hQ.2.2⟩ hQ.1).go fun t r => st.trans r
theorem oNat32 {i : Nat} (hi : i < 2 ^ 31) : i.toInt32.toNatClampNeg = i := by
  have q1 : i.toInt32.toInt = i := len_toInt hi
  show i.toInt32.toInt.toNat = i
  omega
theorem oSz {i : Nat} (hi : i < 2 ^ 31) : ¬ i.toInt32 < 0 := by
  rw [Int32.lt_iff_toInt_lt, len_toInt hi]
  have : (0 : Int32).toInt = 0 := by decide
  omega
theorem oArr.arv {a : Addr} {k : ClassId} {ty : FieldType} {vs : List Value} (F : oArr Z h a k ty vs) (dv : Value) : Arv Z h a k ty vs.length.toInt32 vs dv := by
  obtain ⟨c, A, q1, q2, q3, q4⟩ := F
  have e : vs.length.toInt32.toNatClampNeg = vs.length := oNat32 q4
  have sz : c.slots.size = vs.length := by rw [q2]; simp
  refine ⟨c, A, q1, by rw [sz, e], oSz q4, fun i hi => ?_, fun i hi => ?_⟩
  · have hi' : i < vs.length := by omega
    rw [q2]; simp [hi', List.getD_eq_getElem?_getD]
  · have hi' : i < vs.length := by omega
    refine q3 _ ?_
    simp [hi', List.getD_eq_getElem?_getD]
theorem oArr_of_arv {a : Addr} {k : ClassId} {ty : FieldType} {z : Int32} {vs : List Value} {dv : Value} (F : Arv Z h a k ty z vs dv) (hl : vs.length = z.toNatClampNeg) (hb : vs.length < 2 ^ 31) : oArr Z h a k ty vs := by
  obtain ⟨c, A, q1, S1, -, H, G1⟩ := F
  have sz : c.slots.size = vs.length := by omega
  refine ⟨c, A, q1, ?_, fun v hv => ?_, hb⟩
  · apply Array.ext
    · simpa using sz
    · intro i h1 h2
      have r := H i h1
      have h3 : i < vs.length := by omega
      rw [Array.getElem?_eq_getElem h1] at r
      simpa [h3, List.getD_eq_getElem?_getD] using r
  · obtain ⟨i, hi, rfl⟩ := List.mem_iff_getElem.mp hv
    have r := G1 i (by omega)
    simpa [hi, List.getD_eq_getElem?_getD] using r
theorem o_clone (K : oCtx p s m meth c Z own cb ml nm rt yy) (X : oSt p l e R s m args below meth c Z T h cells slots) {index : Nat} {ad : String} {a : Addr} {k : ClassId} {ty : FieldType} {vs : List Value} (cn : Nat) (w1 : (Jvm.Cond.methodLink own index ⟨ad, "clone", "()Ljava/lang/Object;"⟩).before a0 Z = true) (w2 : (Jvm.Cond.sameMethod ad "java/lang/Object" "clone" "()Ljava/lang/Object;").before a0 Z = true) (w3 : (Jvm.Cond.native ⟨"java/lang/Object", "clone", "()Ljava/lang/Object;"⟩).before a0 Z = true) (w4 : (Jvm.Cond.instanceMethod ⟨"java/lang/Object", "clone", "()Ljava/lang/Object;"⟩).before a0 Z = true) (w5 : (Jvm.Cond.selects ad ⟨ad, "clone", "()Ljava/lang/Object;"⟩ ⟨"java/lang/Object", "clone", "()Ljava/lang/Object;"⟩).before a0 Z = true) (w6 : (Jvm.Cond.castable ad "java/lang/Cloneable").before a0 Z = true)
    (F : oArr Z h a k ty vs) (hn : vs.length = cn) (Ex : Exa Z h a ad) (hd : decode cb pc = .ok (.invokevirtual index, 3)) (hp : pc + 3 = pc') (hsz : L.size = ml) (hf : 1 ≤ R.frames) {W : Nat} (hW : (S.map fun v => v.category).sum = W) (hlo : W + 14 ≤ R.locals) (hc : cells + 1 ≤ R.cells) (hl : slots + cn ≤ R.slots)
    (g : ∀ T' h' b, oSt p l e R s m args below meth c Z T' h' (cells + 1) (slots + cn) → b = h.size → Ext h h' → oArr Z h' b k ty vs → Exa Z h' b ad → Z.heap.size ≤ b → oGoes p e below s Z T' (mkF m pc' L (.ref b :: S)) Q cl sl) : oGoes p e below s Z T (mkF m pc L (.ref a :: S)) Q cl sl := by
  obtain ⟨locs, X, eT, N, E⟩ := X
  subst hp
  have q4 : vs.length < 2 ^ 31 := by obtain ⟨_, _, _, _, _, q⟩ := F; exact q
  have e1 : vs.length.toInt32.toNatClampNeg = vs.length := oNat32 q4
  obtain ⟨T', h', X', e', E', A', Ex', st⟩ := cloneH X K.1 K.2.1 K.2.2.2.2.1 w1 w2 w3 w4 w5 w6 eT (F.arv .null).arh Ex (g := mkF m pc L (.ref a :: S)) rfl (by show L.size = _; rw [K.2.2.2.1]; exact hsz) rfl (hb K.2.2.1 hd) hf (W := W) (cap := cn) (by show 2 * 0 + _ ≤ _; omega) hlo (by omega) hc hl
  have A2 : Arv Z h' h.size k ty vs.length.toInt32 vs .null := A'
  exact (g T' h' h.size ⟨_, X', e', N, oExt_trans E E'⟩ rfl E' (oArr_of_arv A2 e1.symm q4) Ex' E.1).go st
theorem o_arraycopy (K : oCtx p s m meth c Z own cb ml nm rt yy) (X : oSt p l e R s m args below meth c Z T h cells slots) {index : Nat} {a b : Addr} {k k' : ClassId} {ty ty' : FieldType} {vs vd : List Value} {sp dp nn : Int32} (us ws : List Value) (w1 : (Jvm.Cond.methodLink own index Jvm.Stand.acN).before a0 Z = true) (w2 : (Jvm.Cond.native Jvm.Stand.acN).before a0 Z = true) (w3 : (Jvm.Cond.static Jvm.Stand.acN).before a0 Z = true) (w4 : (Jvm.Cond.initialized "java/lang/System").before a0 Z = true)
    (A : oArr Z h a k ty vs) (B : oArr Z h b k' ty' vd) (hty : (ty = ty' ∧ refKind ty = false) ∨ (refKind ty = true ∧ refKind ty' = true ∧ StoL Z h b us)) (h1 : ¬ sp < 0) (h2 : ¬ dp < 0) (h3 : ¬ nn < 0) (h4 : sp.toNatClampNeg + nn.toNatClampNeg ≤ vs.length) (h5 : dp.toNatClampNeg + nn.toNatClampNeg ≤ vd.length)
    (hus : us = (List.range nn.toNatClampNeg).map fun i => vs.getD (sp.toNatClampNeg + i) .null) (hws : vd.take dp.toNatClampNeg ++ us ++ vd.drop (dp.toNatClampNeg + nn.toNatClampNeg) = ws) (hwl : ws.length = vd.length) (hza : Z.heap.size ≤ b) (hd : decode cb pc = .ok (.invokestatic index, 3)) (hp : pc + 3 = pc') (hsz : L.size = ml) (hf : 1 ≤ R.frames) {W : Nat} (hW : (S.map fun v => v.category).sum = W) (hlo : W + (nativeFrameWords "java/lang/System" "arraycopy" 5 + 11) ≤ R.locals)
    (g : ∀ T' h', oSt p l e R s m args below meth c Z T' h' cells slots → Keep h h' [b] → oArr Z h' b k' ty' ws → oGoes p e below s Z T' (mkF m pc' L S) Q cl sl) : oGoes p e below s Z T (mkF m pc L (.int nn :: .int dp :: .ref b :: .int sp :: .ref a :: S)) Q cl sl := by
  obtain ⟨locs, X, eT, N, E⟩ := X
  subst hp
  have qa : vs.length < 2 ^ 31 := by obtain ⟨_, _, _, _, _, q⟩ := A; exact q
  have qb : vd.length < 2 ^ 31 := by obtain ⟨_, _, _, _, _, q⟩ := B; exact q
  have ea : vs.length.toInt32.toNatClampNeg = vs.length := oNat32 qa
  have eb : vd.length.toInt32.toNatClampNeg = vd.length := oNat32 qb
  obtain ⟨T', h', L1, X', e', N', Kp, A', st⟩ := cpA X K.1 K.2.1 K.2.2.2.2.1 w1 w2 w3 w4 eT (A.arv .null) (B.arv .null) hty h1 h2 h3 (by omega) (by omega) hus h5 N hza (g := mkF m pc L (.int nn :: .int dp :: .ref b :: .int sp :: .ref a :: S)) rfl (by show L.size = _; rw [K.2.2.2.1]; exact hsz) rfl (hb K.2.2.1 hd) hf (W := W) (by show 2 * 0 + _ ≤ _; omega) hlo
  rw [hws] at A'
  have E2 : Ext Z.heap h' := (Old.keep (n0 := Z.heap.size) ⟨rfl, E⟩ Kp (allS hza all0)).2
  exact (g T' h' ⟨_, X', e', N', E2⟩ Kp (oArr_of_arv A' (by omega) (by omega))).go st
theorem oStoA {a y : Addr} {k : ClassId} {ty t0 : FieldType} {vs : List Value} {C : String} (F : oArr Z h a k t0 vs) (O : OvrA Z k ty C) (I : Ins Z h y C true) : Sto Z h a (.ref y) := by
  obtain ⟨c, A, q, -⟩ := F
  exact Sto.ofVA A q O I
theorem oLcmp (x : Int64) : lcmpW x x = 0 := (lw_eq x x).mpr rfl
theorem oAnd3 (x : Int32) : x &&& 3 = 0 ∨ x &&& 3 = 1 ∨ x &&& 3 = 2 ∨ x &&& 3 = 3 := by
  have h1 : (x &&& 3).toBitVec.toNat ≤ 3 := by
    simp only [Int32.toBitVec_and, BitVec.toNat_and]
    exact Nat.and_le_right
  have e : ∀ k : Int32, (x &&& 3).toBitVec.toNat = k.toBitVec.toNat → x &&& 3 = k := fun k q => Int32.toBitVec_inj.mp (BitVec.eq_of_toNat_eq q)
  have z0 : (0 : Int32).toBitVec.toNat = 0 := by decide
  have z1 : (1 : Int32).toBitVec.toNat = 1 := by decide
  have z2 : (2 : Int32).toBitVec.toNat = 2 := by decide
  have z3 : (3 : Int32).toBitVec.toNat = 3 := by decide
  by_cases q0 : (x &&& 3).toBitVec.toNat = 0
  · exact Or.inl (e 0 (by omega))
  by_cases q1 : (x &&& 3).toBitVec.toNat = 1
  · exact Or.inr (Or.inl (e 1 (by omega)))
  by_cases q2 : (x &&& 3).toBitVec.toNat = 2
  · exact Or.inr (Or.inr (Or.inl (e 2 (by omega))))
  · exact Or.inr (Or.inr (Or.inr (e 3 (by omega))))
theorem oSelects {y : MethodName} {n : Nat} (wi : (Jvm.Cond.instantiable y.cls n).before a0 Z = true) (wm : (Jvm.Cond.instanceMethod y).before a0 Z = true) (wp : (Jvm.Cond.privateMethod y).before a0 Z = true) (hy : y.cls ≠ "java/lang/invoke/MethodHandle" ∧ y.cls ≠ "java/lang/invoke/VarHandle") : (Jvm.Cond.selects y.cls y y).before a0 Z = true := by
  obtain ⟨mk, meth, hn, hm, hst, hab⟩ := Cond.instanceMethod_spec wm
  obtain ⟨c, k, h1, h2, h3, h4, -⟩ := Cond.instantiable_spec wi
  have hp : meth.isPrivate = true := Cond.privateMethod_at wp mk meth hn hm
  have hc : mk.cls = c := Option.some.inj ((findClass_of_methodNamed hn).symm.trans h1)
  have hk : Z.vm.classes[mk.cls]? = some k := by rw [hc]; exact h2
  have hi : k.isInterface = false := by simpa using (Bool.or_eq_false_iff.mp h4).1
  have hf := State.methodFound?_of_named hn hy
  have hs : selectMethod {} Z.vm c mk = .method mk := selectMethod_private hm hp
  simp [Jvm.Cond.before, Jvm.Cond.holds, Jvm.Cond.value, h1, hf, hn, hs, hk, hi]
end Own
def oHw (Z : State) (a0 : Array Value) : Prop := ∀ d ∈ tables_1, d.before a0 Z = true
theorem w0 {Z : State} {a0 : Array Value} (hw : oHw Z a0) : (Jvm.Cond.arrayClass Jvm.ClassFile.FieldType.long).before a0 Z = true := hw _ (List.mem_of_getElem? (i := 0) rfl)
theorem w1 {Z : State} {a0 : Array Value} (hw : oHw Z a0) : (Jvm.Cond.methodLink "com/example/rosterlink/rosterlink/model/IdChunksEmptyPinLaw" (7 : Nat) ({ cls := "com/example/rosterlink/rosterlink/model/IdChunks", name := "of", desc := "(I[J)Lcom/example/rosterlink/rosterlink/model/IdChunks;" } : Jvm.MethodName)).before a0 Z = true := hw _ (List.mem_of_getElem? (i := 1) rfl)
theorem w2 {Z : State} {a0 : Array Value} (hw : oHw Z a0) : (Jvm.Cond.static ({ cls := "com/example/rosterlink/rosterlink/model/IdChunks", name := "of", desc := "(I[J)Lcom/example/rosterlink/rosterlink/model/IdChunks;" } : Jvm.MethodName)).before a0 Z = true := hw _ (List.mem_of_getElem? (i := 2) rfl)
theorem w3 {Z : State} {a0 : Array Value} (hw : oHw Z a0) : (Jvm.Cond.initialized "com/example/rosterlink/rosterlink/model/IdChunks").before a0 Z = true := hw _ (List.mem_of_getElem? (i := 3) rfl)
theorem w4 {Z : State} {a0 : Array Value} (hw : oHw Z a0) : (Jvm.Cond.code ({ cls := "com/example/rosterlink/rosterlink/model/IdChunks", name := "of", desc := "(I[J)Lcom/example/rosterlink/rosterlink/model/IdChunks;" } : Jvm.MethodName) prog_25_method_3_code (5 : Nat) (Option.some (Jvm.ClassFile.FieldType.object "com/example/rosterlink/rosterlink/model/IdChunks"))).before a0 Z = true := hw _ (List.mem_of_getElem? (i := 4) rfl)
theorem w5 {Z : State} {a0 : Array Value} (hw : oHw Z a0) : (Jvm.Cond.classLink "com/example/rosterlink/rosterlink/model/IdChunks" (20 : Nat) "[J").before a0 Z = true := hw _ (List.mem_of_getElem? (i := 5) rfl)
theorem w6 {Z : State} {a0 : Array Value} (hw : oHw Z a0) : (Jvm.Cond.arrayOver (Jvm.ClassFile.FieldType.array Jvm.ClassFile.FieldType.long)).before a0 Z = true := hw _ (List.mem_of_getElem? (i := 6) rfl)
theorem w7 {Z : State} {a0 : Array Value} (hw : oHw Z a0) : (Jvm.Cond.classLink "com/example/rosterlink/rosterlink/model/IdChunks" (8 : Nat) "com/example/rosterlink/rosterlink/model/IdChunks").before a0 Z = true := hw _ (List.mem_of_getElem? (i := 7) rfl)
theorem w8 {Z : State} {a0 : Array Value} (hw : oHw Z a0) : (Jvm.Cond.instantiable "com/example/rosterlink/rosterlink/model/IdChunks" (3 : Nat)).before a0 Z = true := hw _ (List.mem_of_getElem? (i := 8) rfl)
theorem w9 {Z : State} {a0 : Array Value} (hw : oHw Z a0) : (Jvm.Cond.methodLink "com/example/rosterlink/rosterlink/model/IdChunks" (22 : Nat) ({ cls := "com/example/rosterlink/rosterlink/model/IdChunks", name := "<init>", desc := "(I[[JI)V" } : Jvm.MethodName)).before a0 Z = true := hw _ (List.mem_of_getElem? (i := 9) rfl)
theorem w10 {Z : State} {a0 : Array Value} (hw : oHw Z a0) : (Jvm.Cond.instanceMethod ({ cls := "com/example/rosterlink/rosterlink/model/IdChunks", name := "<init>", desc := "(I[[JI)V" } : Jvm.MethodName)).before a0 Z = true := hw _ (List.mem_of_getElem? (i := 10) rfl)
theorem w11 {Z : State} {a0 : Array Value} (hw : oHw Z a0) : (Jvm.Cond.code ({ cls := "com/example/rosterlink/rosterlink/model/IdChunks", name := "<init>", desc := "(I[[JI)V" } : Jvm.MethodName) prog_25_method_1_code (4 : Nat) (Option.none : Option Jvm.ClassFile.FieldType)).before a0 Z = true := hw _ (List.mem_of_getElem? (i := 11) rfl)
theorem w12 {Z : State} {a0 : Array Value} (hw : oHw Z a0) : (Jvm.Cond.methodLink "com/example/rosterlink/rosterlink/model/IdChunks" (1 : Nat) ({ cls := "java/lang/Object", name := "<init>", desc := "()V" } : Jvm.MethodName)).before a0 Z = true := hw _ (List.mem_of_getElem? (i := 12) rfl)
theorem w13 {Z : State} {a0 : Array Value} (hw : oHw Z a0) : (Jvm.Cond.instanceMethod ({ cls := "java/lang/Object", name := "<init>", desc := "()V" } : Jvm.MethodName)).before a0 Z = true := hw _ (List.mem_of_getElem? (i := 13) rfl)
theorem w14 {Z : State} {a0 : Array Value} (hw : oHw Z a0) : (Jvm.Cond.code ({ cls := "java/lang/Object", name := "<init>", desc := "()V" } : Jvm.MethodName) object_method_1_code (1 : Nat) (Option.none : Option Jvm.ClassFile.FieldType)).before a0 Z = true := hw _ (List.mem_of_getElem? (i := 14) rfl)
theorem w15 {Z : State} {a0 : Array Value} (hw : oHw Z a0) : (Jvm.Cond.fieldLink "com/example/rosterlink/rosterlink/model/IdChunks" (7 : Nat) "com/example/rosterlink/rosterlink/model/IdChunks" "width" "I").before a0 Z = true := hw _ (List.mem_of_getElem? (i := 15) rfl)
theorem w16 {Z : State} {a0 : Array Value} (hw : oHw Z a0) : (Jvm.Cond.laysFinal "com/example/rosterlink/rosterlink/model/IdChunks" "com/example/rosterlink/rosterlink/model/IdChunks" "width" "I").before a0 Z = true := hw _ (List.mem_of_getElem? (i := 16) rfl)
theorem w17 {Z : State} {a0 : Array Value} (hw : oHw Z a0) : (Jvm.Cond.fieldLink "com/example/rosterlink/rosterlink/model/IdChunks" (13 : Nat) "com/example/rosterlink/rosterlink/model/IdChunks" "chunks" "[[J").before a0 Z = true := hw _ (List.mem_of_getElem? (i := 17) rfl)
theorem w18 {Z : State} {a0 : Array Value} (hw : oHw Z a0) : (Jvm.Cond.laysFinal "com/example/rosterlink/rosterlink/model/IdChunks" "com/example/rosterlink/rosterlink/model/IdChunks" "chunks" "[[J").before a0 Z = true := hw _ (List.mem_of_getElem? (i := 18) rfl)
theorem w19 {Z : State} {a0 : Array Value} (hw : oHw Z a0) : (Jvm.Cond.fieldLink "com/example/rosterlink/rosterlink/model/IdChunks" (17 : Nat) "com/example/rosterlink/rosterlink/model/IdChunks" "size" "I").before a0 Z = true := hw _ (List.mem_of_getElem? (i := 19) rfl)
theorem w20 {Z : State} {a0 : Array Value} (hw : oHw Z a0) : (Jvm.Cond.laysFinal "com/example/rosterlink/rosterlink/model/IdChunks" "com/example/rosterlink/rosterlink/model/IdChunks" "size" "I").before a0 Z = true := hw _ (List.mem_of_getElem? (i := 20) rfl)
theorem w21 {Z : State} {a0 : Array Value} (hw : oHw Z a0) : (Jvm.Cond.methodLink "com/example/rosterlink/rosterlink/model/IdChunksEmptyPinLaw" (13 : Nat) ({ cls := "com/example/rosterlink/rosterlink/model/IdChunks", name := "empty", desc := "(I)Lcom/example/rosterlink/rosterlink/model/IdChunks;" } : Jvm.MethodName)).before a0 Z = true := hw _ (List.mem_of_getElem? (i := 21) rfl)
theorem w22 {Z : State} {a0 : Array Value} (hw : oHw Z a0) : (Jvm.Cond.static ({ cls := "com/example/rosterlink/rosterlink/model/IdChunks", name := "empty", desc := "(I)Lcom/example/rosterlink/rosterlink/model/IdChunks;" } : Jvm.MethodName)).before a0 Z = true := hw _ (List.mem_of_getElem? (i := 22) rfl)
theorem w23 {Z : State} {a0 : Array Value} (hw : oHw Z a0) : (Jvm.Cond.code ({ cls := "com/example/rosterlink/rosterlink/model/IdChunks", name := "empty", desc := "(I)Lcom/example/rosterlink/rosterlink/model/IdChunks;" } : Jvm.MethodName) prog_25_method_2_code (1 : Nat) (Option.some (Jvm.ClassFile.FieldType.object "com/example/rosterlink/rosterlink/model/IdChunks"))).before a0 Z = true := hw _ (List.mem_of_getElem? (i := 23) rfl)
theorem w24 {Z : State} {a0 : Array Value} (hw : oHw Z a0) : (Jvm.Cond.methodLink "com/example/rosterlink/rosterlink/model/IdChunksEmptyPinLaw" (17 : Nat) ({ cls := "com/example/rosterlink/rosterlink/model/IdChunks", name := "size", desc := "()I" } : Jvm.MethodName)).before a0 Z = true := hw _ (List.mem_of_getElem? (i := 24) rfl)
theorem w25 {Z : State} {a0 : Array Value} (hw : oHw Z a0) : (Jvm.Cond.declares ({ cls := "com/example/rosterlink/rosterlink/model/IdChunks", name := "size", desc := "()I" } : Jvm.MethodName)).before a0 Z = true := hw _ (List.mem_of_getElem? (i := 25) rfl)
theorem w26 {Z : State} {a0 : Array Value} (hw : oHw Z a0) : (Jvm.Cond.instanceMethod ({ cls := "com/example/rosterlink/rosterlink/model/IdChunks", name := "size", desc := "()I" } : Jvm.MethodName)).before a0 Z = true := hw _ (List.mem_of_getElem? (i := 26) rfl)
theorem w27 {Z : State} {a0 : Array Value} (hw : oHw Z a0) : (Jvm.Cond.selects "com/example/rosterlink/rosterlink/model/IdChunks" ({ cls := "com/example/rosterlink/rosterlink/model/IdChunks", name := "size", desc := "()I" } : Jvm.MethodName) ({ cls := "com/example/rosterlink/rosterlink/model/IdChunks", name := "size", desc := "()I" } : Jvm.MethodName)).before a0 Z = true := hw _ (List.mem_of_getElem? (i := 27) rfl)
theorem w28 {Z : State} {a0 : Array Value} (hw : oHw Z a0) : (Jvm.Cond.code ({ cls := "com/example/rosterlink/rosterlink/model/IdChunks", name := "size", desc := "()I" } : Jvm.MethodName) prog_25_method_4_code (1 : Nat) (Option.some Jvm.ClassFile.FieldType.int)).before a0 Z = true := hw _ (List.mem_of_getElem? (i := 28) rfl)
theorem w29 {Z : State} {a0 : Array Value} (hw : oHw Z a0) : (Jvm.Cond.methodLink "com/example/rosterlink/rosterlink/model/IdChunksEmptyPinLaw" (21 : Nat) ({ cls := "com/example/rosterlink/rosterlink/model/IdChunks", name := "contains", desc := "(J)Z" } : Jvm.MethodName)).before a0 Z = true := hw _ (List.mem_of_getElem? (i := 29) rfl)
theorem w30 {Z : State} {a0 : Array Value} (hw : oHw Z a0) : (Jvm.Cond.declares ({ cls := "com/example/rosterlink/rosterlink/model/IdChunks", name := "contains", desc := "(J)Z" } : Jvm.MethodName)).before a0 Z = true := hw _ (List.mem_of_getElem? (i := 30) rfl)
theorem w31 {Z : State} {a0 : Array Value} (hw : oHw Z a0) : (Jvm.Cond.instanceMethod ({ cls := "com/example/rosterlink/rosterlink/model/IdChunks", name := "contains", desc := "(J)Z" } : Jvm.MethodName)).before a0 Z = true := hw _ (List.mem_of_getElem? (i := 31) rfl)
theorem w32 {Z : State} {a0 : Array Value} (hw : oHw Z a0) : (Jvm.Cond.selects "com/example/rosterlink/rosterlink/model/IdChunks" ({ cls := "com/example/rosterlink/rosterlink/model/IdChunks", name := "contains", desc := "(J)Z" } : Jvm.MethodName) ({ cls := "com/example/rosterlink/rosterlink/model/IdChunks", name := "contains", desc := "(J)Z" } : Jvm.MethodName)).before a0 Z = true := hw _ (List.mem_of_getElem? (i := 32) rfl)
theorem w33 {Z : State} {a0 : Array Value} (hw : oHw Z a0) : (Jvm.Cond.code ({ cls := "com/example/rosterlink/rosterlink/model/IdChunks", name := "contains", desc := "(J)Z" } : Jvm.MethodName) prog_25_method_5_code (4 : Nat) (Option.some Jvm.ClassFile.FieldType.boolean)).before a0 Z = true := hw _ (List.mem_of_getElem? (i := 33) rfl)
theorem w34 {Z : State} {a0 : Array Value} (hw : oHw Z a0) : (Jvm.Cond.methodLink "com/example/rosterlink/rosterlink/model/IdChunks" (37 : Nat) ({ cls := "com/example/rosterlink/rosterlink/model/IdChunks", name := "chunkFor", desc := "(J)I" } : Jvm.MethodName)).before a0 Z = true := hw _ (List.mem_of_getElem? (i := 34) rfl)
theorem w35 {Z : State} {a0 : Array Value} (hw : oHw Z a0) : (Jvm.Cond.instanceMethod ({ cls := "com/example/rosterlink/rosterlink/model/IdChunks", name := "chunkFor", desc := "(J)I" } : Jvm.MethodName)).before a0 Z = true := hw _ (List.mem_of_getElem? (i := 35) rfl)
theorem w36 {Z : State} {a0 : Array Value} (hw : oHw Z a0) : (Jvm.Cond.privateMethod ({ cls := "com/example/rosterlink/rosterlink/model/IdChunks", name := "chunkFor", desc := "(J)I" } : Jvm.MethodName)).before a0 Z = true := hw _ (List.mem_of_getElem? (i := 36) rfl)
theorem w37 {Z : State} {a0 : Array Value} (hw : oHw Z a0) : (Jvm.Cond.code ({ cls := "com/example/rosterlink/rosterlink/model/IdChunks", name := "chunkFor", desc := "(J)I" } : Jvm.MethodName) prog_25_method_17_code (7 : Nat) (Option.some Jvm.ClassFile.FieldType.int)).before a0 Z = true := hw _ (List.mem_of_getElem? (i := 37) rfl)
theorem w38 {Z : State} {a0 : Array Value} (hw : oHw Z a0) : (Jvm.Cond.methodLink "com/example/rosterlink/rosterlink/model/IdChunksEmptyPinLaw" (25 : Nat) ({ cls := "com/example/rosterlink/rosterlink/model/IdChunks", name := "get", desc := "(J)[J" } : Jvm.MethodName)).before a0 Z = true := hw _ (List.mem_of_getElem? (i := 38) rfl)
theorem w39 {Z : State} {a0 : Array Value} (hw : oHw Z a0) : (Jvm.Cond.declares ({ cls := "com/example/rosterlink/rosterlink/model/IdChunks", name := "get", desc := "(J)[J" } : Jvm.MethodName)).before a0 Z = true := hw _ (List.mem_of_getElem? (i := 39) rfl)
theorem w40 {Z : State} {a0 : Array Value} (hw : oHw Z a0) : (Jvm.Cond.instanceMethod ({ cls := "com/example/rosterlink/rosterlink/model/IdChunks", name := "get", desc := "(J)[J" } : Jvm.MethodName)).before a0 Z = true := hw _ (List.mem_of_getElem? (i := 40) rfl)
theorem w41 {Z : State} {a0 : Array Value} (hw : oHw Z a0) : (Jvm.Cond.selects "com/example/rosterlink/rosterlink/model/IdChunks" ({ cls := "com/example/rosterlink/rosterlink/model/IdChunks", name := "get", desc := "(J)[J" } : Jvm.MethodName) ({ cls := "com/example/rosterlink/rosterlink/model/IdChunks", name := "get", desc := "(J)[J" } : Jvm.MethodName)).before a0 Z = true := hw _ (List.mem_of_getElem? (i := 41) rfl)
theorem w42 {Z : State} {a0 : Array Value} (hw : oHw Z a0) : (Jvm.Cond.code ({ cls := "com/example/rosterlink/rosterlink/model/IdChunks", name := "get", desc := "(J)[J" } : Jvm.MethodName) prog_25_method_6_code (5 : Nat) (Option.some (Jvm.ClassFile.FieldType.array Jvm.ClassFile.FieldType.long))).before a0 Z = true := hw _ (List.mem_of_getElem? (i := 42) rfl)
theorem w43 {Z : State} {a0 : Array Value} (hw : oHw Z a0) : (Jvm.Cond.methodLink "com/example/rosterlink/rosterlink/model/IdChunksEmptyPinLaw" (29 : Nat) ({ cls := "com/example/rosterlink/rosterlink/model/IdChunks", name := "without", desc := "(J)Lcom/example/rosterlink/rosterlink/model/IdChunks;" } : Jvm.MethodName)).before a0 Z = true := hw _ (List.mem_of_getElem? (i := 43) rfl)
theorem w44 {Z : State} {a0 : Array Value} (hw : oHw Z a0) : (Jvm.Cond.declares ({ cls := "com/example/rosterlink/rosterlink/model/IdChunks", name := "without", desc := "(J)Lcom/example/rosterlink/rosterlink/model/IdChunks;" } : Jvm.MethodName)).before a0 Z = true := hw _ (List.mem_of_getElem? (i := 44) rfl)
theorem w45 {Z : State} {a0 : Array Value} (hw : oHw Z a0) : (Jvm.Cond.instanceMethod ({ cls := "com/example/rosterlink/rosterlink/model/IdChunks", name := "without", desc := "(J)Lcom/example/rosterlink/rosterlink/model/IdChunks;" } : Jvm.MethodName)).before a0 Z = true := hw _ (List.mem_of_getElem? (i := 45) rfl)
theorem w46 {Z : State} {a0 : Array Value} (hw : oHw Z a0) : (Jvm.Cond.selects "com/example/rosterlink/rosterlink/model/IdChunks" ({ cls := "com/example/rosterlink/rosterlink/model/IdChunks", name := "without", desc := "(J)Lcom/example/rosterlink/rosterlink/model/IdChunks;" } : Jvm.MethodName) ({ cls := "com/example/rosterlink/rosterlink/model/IdChunks", name := "without", desc := "(J)Lcom/example/rosterlink/rosterlink/model/IdChunks;" } : Jvm.MethodName)).before a0 Z = true := hw _ (List.mem_of_getElem? (i := 46) rfl)
theorem w47 {Z : State} {a0 : Array Value} (hw : oHw Z a0) : (Jvm.Cond.code ({ cls := "com/example/rosterlink/rosterlink/model/IdChunks", name := "without", desc := "(J)Lcom/example/rosterlink/rosterlink/model/IdChunks;" } : Jvm.MethodName) prog_25_method_8_code (10 : Nat) (Option.some (Jvm.ClassFile.FieldType.object "com/example/rosterlink/rosterlink/model/IdChunks"))).before a0 Z = true := hw _ (List.mem_of_getElem? (i := 47) rfl)
theorem w48 {Z : State} {a0 : Array Value} (hw : oHw Z a0) : (Jvm.Cond.methodLink "com/example/rosterlink/rosterlink/model/IdChunksEmptyPinLaw" (33 : Nat) ({ cls := "com/example/rosterlink/rosterlink/model/IdChunks", name := "equals", desc := "(Ljava/lang/Object;)Z" } : Jvm.MethodName)).before a0 Z = true := hw _ (List.mem_of_getElem? (i := 48) rfl)
theorem w49 {Z : State} {a0 : Array Value} (hw : oHw Z a0) : (Jvm.Cond.declares ({ cls := "com/example/rosterlink/rosterlink/model/IdChunks", name := "equals", desc := "(Ljava/lang/Object;)Z" } : Jvm.MethodName)).before a0 Z = true := hw _ (List.mem_of_getElem? (i := 49) rfl)
theorem w50 {Z : State} {a0 : Array Value} (hw : oHw Z a0) : (Jvm.Cond.instanceMethod ({ cls := "com/example/rosterlink/rosterlink/model/IdChunks", name := "equals", desc := "(Ljava/lang/Object;)Z" } : Jvm.MethodName)).before a0 Z = true := hw _ (List.mem_of_getElem? (i := 50) rfl)
theorem w51 {Z : State} {a0 : Array Value} (hw : oHw Z a0) : (Jvm.Cond.selects "com/example/rosterlink/rosterlink/model/IdChunks" ({ cls := "com/example/rosterlink/rosterlink/model/IdChunks", name := "equals", desc := "(Ljava/lang/Object;)Z" } : Jvm.MethodName) ({ cls := "com/example/rosterlink/rosterlink/model/IdChunks", name := "equals", desc := "(Ljava/lang/Object;)Z" } : Jvm.MethodName)).before a0 Z = true := hw _ (List.mem_of_getElem? (i := 51) rfl)
theorem w52 {Z : State} {a0 : Array Value} (hw : oHw Z a0) : (Jvm.Cond.code ({ cls := "com/example/rosterlink/rosterlink/model/IdChunks", name := "equals", desc := "(Ljava/lang/Object;)Z" } : Jvm.MethodName) prog_25_method_13_code (4 : Nat) (Option.some Jvm.ClassFile.FieldType.boolean)).before a0 Z = true := hw _ (List.mem_of_getElem? (i := 52) rfl)
theorem w54 {Z : State} {a0 : Array Value} (hw : oHw Z a0) : (Jvm.Cond.methodLink "com/example/rosterlink/rosterlink/model/IdChunks" (97 : Nat) ({ cls := "com/example/rosterlink/rosterlink/model/IdChunks", name := "sameLayout", desc := "(Lcom/example/rosterlink/rosterlink/model/IdChunks;)Z" } : Jvm.MethodName)).before a0 Z = true := hw _ (List.mem_of_getElem? (i := 54) rfl)
theorem w55 {Z : State} {a0 : Array Value} (hw : oHw Z a0) : (Jvm.Cond.instanceMethod ({ cls := "com/example/rosterlink/rosterlink/model/IdChunks", name := "sameLayout", desc := "(Lcom/example/rosterlink/rosterlink/model/IdChunks;)Z" } : Jvm.MethodName)).before a0 Z = true := hw _ (List.mem_of_getElem? (i := 55) rfl)
theorem w56 {Z : State} {a0 : Array Value} (hw : oHw Z a0) : (Jvm.Cond.privateMethod ({ cls := "com/example/rosterlink/rosterlink/model/IdChunks", name := "sameLayout", desc := "(Lcom/example/rosterlink/rosterlink/model/IdChunks;)Z" } : Jvm.MethodName)).before a0 Z = true := hw _ (List.mem_of_getElem? (i := 56) rfl)
theorem w57 {Z : State} {a0 : Array Value} (hw : oHw Z a0) : (Jvm.Cond.code ({ cls := "com/example/rosterlink/rosterlink/model/IdChunks", name := "sameLayout", desc := "(Lcom/example/rosterlink/rosterlink/model/IdChunks;)Z" } : Jvm.MethodName) prog_25_method_16_code (3 : Nat) (Option.some Jvm.ClassFile.FieldType.boolean)).before a0 Z = true := hw _ (List.mem_of_getElem? (i := 57) rfl)
theorem w58 {Z : State} {a0 : Array Value} (hw : oHw Z a0) : (Jvm.Cond.methodLink "com/example/rosterlink/rosterlink/model/IdChunksEmptyPinLaw" (37 : Nat) ({ cls := "com/example/rosterlink/rosterlink/model/IdChunks", name := "with", desc := "([J)Lcom/example/rosterlink/rosterlink/model/IdChunks;" } : Jvm.MethodName)).before a0 Z = true := hw _ (List.mem_of_getElem? (i := 58) rfl)
theorem w59 {Z : State} {a0 : Array Value} (hw : oHw Z a0) : (Jvm.Cond.declares ({ cls := "com/example/rosterlink/rosterlink/model/IdChunks", name := "with", desc := "([J)Lcom/example/rosterlink/rosterlink/model/IdChunks;" } : Jvm.MethodName)).before a0 Z = true := hw _ (List.mem_of_getElem? (i := 59) rfl)
theorem w60 {Z : State} {a0 : Array Value} (hw : oHw Z a0) : (Jvm.Cond.instanceMethod ({ cls := "com/example/rosterlink/rosterlink/model/IdChunks", name := "with", desc := "([J)Lcom/example/rosterlink/rosterlink/model/IdChunks;" } : Jvm.MethodName)).before a0 Z = true := hw _ (List.mem_of_getElem? (i := 60) rfl)
theorem w61 {Z : State} {a0 : Array Value} (hw : oHw Z a0) : (Jvm.Cond.selects "com/example/rosterlink/rosterlink/model/IdChunks" ({ cls := "com/example/rosterlink/rosterlink/model/IdChunks", name := "with", desc := "([J)Lcom/example/rosterlink/rosterlink/model/IdChunks;" } : Jvm.MethodName) ({ cls := "com/example/rosterlink/rosterlink/model/IdChunks", name := "with", desc := "([J)Lcom/example/rosterlink/rosterlink/model/IdChunks;" } : Jvm.MethodName)).before a0 Z = true := hw _ (List.mem_of_getElem? (i := 61) rfl)
theorem w62 {Z : State} {a0 : Array Value} (hw : oHw Z a0) : (Jvm.Cond.code ({ cls := "com/example/rosterlink/rosterlink/model/IdChunks", name := "with", desc := "([J)Lcom/example/rosterlink/rosterlink/model/IdChunks;" } : Jvm.MethodName) prog_25_method_7_code (10 : Nat) (Option.some (Jvm.ClassFile.FieldType.object "com/example/rosterlink/rosterlink/model/IdChunks"))).before a0 Z = true := hw _ (List.mem_of_getElem? (i := 62) rfl)
theorem w63 {Z : State} {a0 : Array Value} (hw : oHw Z a0) : (Jvm.Cond.methodLink "com/example/rosterlink/rosterlink/model/IdChunks" (45 : Nat) ({ cls := "[J", name := "clone", desc := "()Ljava/lang/Object;" } : Jvm.MethodName)).before a0 Z = true := hw _ (List.mem_of_getElem? (i := 63) rfl)
theorem w64 {Z : State} {a0 : Array Value} (hw : oHw Z a0) : (Jvm.Cond.sameMethod "[J" "java/lang/Object" "clone" "()Ljava/lang/Object;").before a0 Z = true := hw _ (List.mem_of_getElem? (i := 64) rfl)
theorem w66 {Z : State} {a0 : Array Value} (hw : oHw Z a0) : (Jvm.Cond.instanceMethod ({ cls := "java/lang/Object", name := "clone", desc := "()Ljava/lang/Object;" } : Jvm.MethodName)).before a0 Z = true := hw _ (List.mem_of_getElem? (i := 66) rfl)
theorem w67 {Z : State} {a0 : Array Value} (hw : oHw Z a0) : (Jvm.Cond.selects "[J" ({ cls := "[J", name := "clone", desc := "()Ljava/lang/Object;" } : Jvm.MethodName) ({ cls := "java/lang/Object", name := "clone", desc := "()Ljava/lang/Object;" } : Jvm.MethodName)).before a0 Z = true := hw _ (List.mem_of_getElem? (i := 67) rfl)
theorem w68 {Z : State} {a0 : Array Value} (hw : oHw Z a0) : (Jvm.Cond.native ({ cls := "java/lang/Object", name := "clone", desc := "()Ljava/lang/Object;" } : Jvm.MethodName)).before a0 Z = true := hw _ (List.mem_of_getElem? (i := 68) rfl)
theorem w69 {Z : State} {a0 : Array Value} (hw : oHw Z a0) : (Jvm.Cond.castable "[J" "java/lang/Cloneable").before a0 Z = true := hw _ (List.mem_of_getElem? (i := 69) rfl)
theorem w71 {Z : State} {a0 : Array Value} (hw : oHw Z a0) : (Jvm.Cond.methodLink "com/example/rosterlink/rosterlink/model/IdChunks" (41 : Nat) ({ cls := "com/example/rosterlink/rosterlink/model/IdChunks", name := "find", desc := "([JJ)I" } : Jvm.MethodName)).before a0 Z = true := hw _ (List.mem_of_getElem? (i := 71) rfl)
theorem w72 {Z : State} {a0 : Array Value} (hw : oHw Z a0) : (Jvm.Cond.instanceMethod ({ cls := "com/example/rosterlink/rosterlink/model/IdChunks", name := "find", desc := "([JJ)I" } : Jvm.MethodName)).before a0 Z = true := hw _ (List.mem_of_getElem? (i := 72) rfl)
theorem w73 {Z : State} {a0 : Array Value} (hw : oHw Z a0) : (Jvm.Cond.privateMethod ({ cls := "com/example/rosterlink/rosterlink/model/IdChunks", name := "find", desc := "([JJ)I" } : Jvm.MethodName)).before a0 Z = true := hw _ (List.mem_of_getElem? (i := 73) rfl)
theorem w74 {Z : State} {a0 : Array Value} (hw : oHw Z a0) : (Jvm.Cond.code ({ cls := "com/example/rosterlink/rosterlink/model/IdChunks", name := "find", desc := "([JJ)I" } : Jvm.MethodName) prog_25_method_18_code (9 : Nat) (Option.some Jvm.ClassFile.FieldType.int)).before a0 Z = true := hw _ (List.mem_of_getElem? (i := 74) rfl)
theorem w75 {Z : State} {a0 : Array Value} (hw : oHw Z a0) : (Jvm.Cond.methodLink "com/example/rosterlink/rosterlink/model/IdChunks" (31 : Nat) ({ cls := "java/util/Arrays", name := "copyOfRange", desc := "([JII)[J" } : Jvm.MethodName)).before a0 Z = true := hw _ (List.mem_of_getElem? (i := 75) rfl)
theorem w76 {Z : State} {a0 : Array Value} (hw : oHw Z a0) : (Jvm.Cond.static ({ cls := "java/util/Arrays", name := "copyOfRange", desc := "([JII)[J" } : Jvm.MethodName)).before a0 Z = true := hw _ (List.mem_of_getElem? (i := 76) rfl)
theorem w77 {Z : State} {a0 : Array Value} (hw : oHw Z a0) : (Jvm.Cond.initialized "java/util/Arrays").before a0 Z = true := hw _ (List.mem_of_getElem? (i := 77) rfl)
theorem w78 {Z : State} {a0 : Array Value} (hw : oHw Z a0) : (Jvm.Cond.code ({ cls := "java/util/Arrays", name := "copyOfRange", desc := "([JII)[J" } : Jvm.MethodName) jdk_65_method_138_code (3 : Nat) (Option.some (Jvm.ClassFile.FieldType.array Jvm.ClassFile.FieldType.long))).before a0 Z = true := hw _ (List.mem_of_getElem? (i := 78) rfl)
theorem w79 {Z : State} {a0 : Array Value} (hw : oHw Z a0) : (Jvm.Cond.methodLink "java/util/Arrays" (319 : Nat) ({ cls := "[J", name := "clone", desc := "()Ljava/lang/Object;" } : Jvm.MethodName)).before a0 Z = true := hw _ (List.mem_of_getElem? (i := 79) rfl)
theorem w80 {Z : State} {a0 : Array Value} (hw : oHw Z a0) : (Jvm.Cond.classLink "java/util/Arrays" (320 : Nat) "[J").before a0 Z = true := hw _ (List.mem_of_getElem? (i := 80) rfl)
theorem w81 {Z : State} {a0 : Array Value} (hw : oHw Z a0) : (Jvm.Cond.methodLink "com/example/rosterlink/rosterlink/model/IdChunksEmptyPinLaw" (41 : Nat) ({ cls := "com/example/rosterlink/rosterlink/model/IdChunksEmptyPinLaw", name := "same", desc := "([J[J)Z" } : Jvm.MethodName)).before a0 Z = true := hw _ (List.mem_of_getElem? (i := 81) rfl)
theorem w82 {Z : State} {a0 : Array Value} (hw : oHw Z a0) : (Jvm.Cond.static ({ cls := "com/example/rosterlink/rosterlink/model/IdChunksEmptyPinLaw", name := "same", desc := "([J[J)Z" } : Jvm.MethodName)).before a0 Z = true := hw _ (List.mem_of_getElem? (i := 82) rfl)
theorem w83 {Z : State} {a0 : Array Value} (hw : oHw Z a0) : (Jvm.Cond.initialized "com/example/rosterlink/rosterlink/model/IdChunksEmptyPinLaw").before a0 Z = true := hw _ (List.mem_of_getElem? (i := 83) rfl)
theorem w84 {Z : State} {a0 : Array Value} (hw : oHw Z a0) : (Jvm.Cond.code ({ cls := "com/example/rosterlink/rosterlink/model/IdChunksEmptyPinLaw", name := "same", desc := "([J[J)Z" } : Jvm.MethodName) method_3_code (3 : Nat) (Option.some Jvm.ClassFile.FieldType.boolean)).before a0 Z = true := hw _ (List.mem_of_getElem? (i := 84) rfl)
theorem w85 {Z : State} {a0 : Array Value} (hw : oHw Z a0) : (Jvm.Cond.methodLink "com/example/rosterlink/rosterlink/model/IdChunksEmptyPinLaw" (47 : Nat) ({ cls := "com/example/rosterlink/rosterlink/model/IdChunks", name := "entries", desc := "()[J" } : Jvm.MethodName)).before a0 Z = true := hw _ (List.mem_of_getElem? (i := 85) rfl)
theorem w86 {Z : State} {a0 : Array Value} (hw : oHw Z a0) : (Jvm.Cond.declares ({ cls := "com/example/rosterlink/rosterlink/model/IdChunks", name := "entries", desc := "()[J" } : Jvm.MethodName)).before a0 Z = true := hw _ (List.mem_of_getElem? (i := 86) rfl)
theorem w87 {Z : State} {a0 : Array Value} (hw : oHw Z a0) : (Jvm.Cond.instanceMethod ({ cls := "com/example/rosterlink/rosterlink/model/IdChunks", name := "entries", desc := "()[J" } : Jvm.MethodName)).before a0 Z = true := hw _ (List.mem_of_getElem? (i := 87) rfl)
theorem w88 {Z : State} {a0 : Array Value} (hw : oHw Z a0) : (Jvm.Cond.selects "com/example/rosterlink/rosterlink/model/IdChunks" ({ cls := "com/example/rosterlink/rosterlink/model/IdChunks", name := "entries", desc := "()[J" } : Jvm.MethodName) ({ cls := "com/example/rosterlink/rosterlink/model/IdChunks", name := "entries", desc := "()[J" } : Jvm.MethodName)).before a0 Z = true := hw _ (List.mem_of_getElem? (i := 88) rfl)
theorem w89 {Z : State} {a0 : Array Value} (hw : oHw Z a0) : (Jvm.Cond.code ({ cls := "com/example/rosterlink/rosterlink/model/IdChunks", name := "entries", desc := "()[J" } : Jvm.MethodName) prog_25_method_12_code (7 : Nat) (Option.some (Jvm.ClassFile.FieldType.array Jvm.ClassFile.FieldType.long))).before a0 Z = true := hw _ (List.mem_of_getElem? (i := 89) rfl)
theorem w90 {Z : State} {a0 : Array Value} (hw : oHw Z a0) : (Jvm.Cond.methodLink "com/example/rosterlink/rosterlink/model/IdChunks" (53 : Nat) ({ cls := "java/lang/System", name := "arraycopy", desc := "(Ljava/lang/Object;ILjava/lang/Object;II)V" } : Jvm.MethodName)).before a0 Z = true := hw _ (List.mem_of_getElem? (i := 90) rfl)
theorem w91 {Z : State} {a0 : Array Value} (hw : oHw Z a0) : (Jvm.Cond.static ({ cls := "java/lang/System", name := "arraycopy", desc := "(Ljava/lang/Object;ILjava/lang/Object;II)V" } : Jvm.MethodName)).before a0 Z = true := hw _ (List.mem_of_getElem? (i := 91) rfl)
theorem w92 {Z : State} {a0 : Array Value} (hw : oHw Z a0) : (Jvm.Cond.initialized "java/lang/System").before a0 Z = true := hw _ (List.mem_of_getElem? (i := 92) rfl)
theorem w93 {Z : State} {a0 : Array Value} (hw : oHw Z a0) : (Jvm.Cond.native ({ cls := "java/lang/System", name := "arraycopy", desc := "(Ljava/lang/Object;ILjava/lang/Object;II)V" } : Jvm.MethodName)).before a0 Z = true := hw _ (List.mem_of_getElem? (i := 93) rfl)
theorem d_init_0 : decode prog_25_method_1_code 0 = .ok (.aload_n 0, 1) := by decide +kernel
theorem d_init_1 : decode prog_25_method_1_code 1 = .ok (.invokespecial 1, 3) := by decide +kernel
theorem d_init_4 : decode prog_25_method_1_code 4 = .ok (.aload_n 0, 1) := by decide +kernel
theorem d_init_5 : decode prog_25_method_1_code 5 = .ok (.iload_n 1, 1) := by decide +kernel
theorem d_init_6 : decode prog_25_method_1_code 6 = .ok (.putfield 7, 3) := by decide +kernel
theorem d_init_9 : decode prog_25_method_1_code 9 = .ok (.aload_n 0, 1) := by decide +kernel
theorem d_init_10 : decode prog_25_method_1_code 10 = .ok (.aload_n 2, 1) := by decide +kernel
theorem d_init_11 : decode prog_25_method_1_code 11 = .ok (.putfield 13, 3) := by decide +kernel
theorem d_init_14 : decode prog_25_method_1_code 14 = .ok (.aload_n 0, 1) := by decide +kernel
theorem d_init_15 : decode prog_25_method_1_code 15 = .ok (.iload_n 3, 1) := by decide +kernel
theorem d_init_16 : decode prog_25_method_1_code 16 = .ok (.putfield 17, 3) := by decide +kernel
theorem d_init_19 : decode prog_25_method_1_code 19 = .ok (.return_, 1) := by decide +kernel
def r_init : Room := { frames := 1, cells := 0, slots := 0, locals := 12 }
def Q_init (Z : State) (a : Addr) (w : Int32) (c : Addr) (s : Int32) (h0 : Heap) (v : Option Value) (h : Heap) : Prop := v = none ∧ Keep h0 h [a] ∧ Exa Z h a "com/example/rosterlink/rosterlink/model/IdChunks" ∧ Fld Z h a "com/example/rosterlink/rosterlink/model/IdChunks" "width" "I" (.int w) ∧ Fld Z h a "com/example/rosterlink/rosterlink/model/IdChunks" "chunks" "[[J" (.ref c) ∧ Fld Z h a "com/example/rosterlink/rosterlink/model/IdChunks" "size" "I" (.int s)
set_option maxRecDepth 65536 in
set_option maxHeartbeats 40000000 in
theorem rm_init (l : Launch) (Z : State) (a0 : Array Value) (hw : oHw Z a0) (a : Addr) (w : Int32) (c : Addr) (s : Int32) (h0 : Heap) (q0 : Exa Z h0 a "com/example/rosterlink/rosterlink/model/IdChunks") (q1 : Fld Z h0 a "com/example/rosterlink/rosterlink/model/IdChunks" "width" "I" (.int (0 : Int32))) (q2 : Fld Z h0 a "com/example/rosterlink/rosterlink/model/IdChunks" "chunks" "[[J" .null) (q3 : Fld Z h0 a "com/example/rosterlink/rosterlink/model/IdChunks" "size" "I" (.int (0 : Int32))) (q4 : Z.heap.size ≤ a) : oMet l Z (⟨"com/example/rosterlink/rosterlink/model/IdChunks", "<init>", "(I[[JI)V"⟩ : MethodName) prog_25_method_1_code 4 none r_init [] #[(.ref a), (.int w), (.ref c), (.int s)] h0 (Q_init Z a w c s h0) := by
  refine oEnter (plainFor_of_name (by first | (simp [plainName, overriddenIn]; done) | decide +kernel)) (own := "com/example/rosterlink/rosterlink/model/IdChunks") (nm := "<init>") rfl rfl (L := #[.val (.ref a), .val (.int w), .val (.ref c), .val (.int s)]) (fun m => by first | (simp [entryFrame, mkF, argsToLocals, Value.category]; done) | rfl) ?_
  intro pp ee ss mm bb mtd cc T0 K X0
  have E0 := X0.ext0
  refine o_aloadN K X0 d_init_0 (pc' := 1) rfl rfl rfl ?_
  refine o_initObj K X0 (w12 hw) (w13 hw) (w14 hw) d_init_1 (pc' := 4) rfl rfl (by decide) (W := 0) rfl (by decide) ?_
  intro T1 X1
  refine o_aloadN K X1 d_init_4 (pc' := 5) rfl rfl rfl ?_
  refine o_iloadN K X1 d_init_5 (pc' := 6) rfl rfl ?_
  refine o_putfield K X1 (host := "") (Or.inl (w15 hw)) Via.refl q1 q0 (Or.inr ⟨(w16 hw), rfl, rfl⟩) (w8 hw) (ty := .int) (by decide) rfl rfl q4 d_init_6 (pc' := 9) rfl ?_
  intro T2 h2 X2 W2
  have F2 := Fld.same W2 q1
  refine o_aloadN K X2 d_init_9 (pc' := 10) rfl rfl rfl ?_
  refine o_aloadN K X2 d_init_10 (pc' := 11) rfl rfl rfl ?_
  refine o_putfield K X2 (host := "") (Or.inl (w17 hw)) Via.refl (Fld.other W2 q2 (Or.inr (slot_ne (Or.inr (w18 hw)) (Or.inr (w16 hw)) (by decide) (t := (.array (.array .long))) (t' := .int) (by decide) (by decide)))) (Exa.wr W2 q0) (Or.inr ⟨(w18 hw), rfl, rfl⟩) (w8 hw) (ty := (.array (.array .long))) (by decide) rfl rfl q4 d_init_11 (pc' := 14) rfl ?_
  intro T3 h3 X3 W3
  have F3 := Fld.same W3 (Fld.other W2 q2 (Or.inr (slot_ne (Or.inr (w18 hw)) (Or.inr (w16 hw)) (by decide) (t := (.array (.array .long))) (t' := .int) (by decide) (by decide))))
  refine o_aloadN K X3 d_init_14 (pc' := 15) rfl rfl rfl ?_
  refine o_iloadN K X3 d_init_15 (pc' := 16) rfl rfl ?_
  refine o_putfield K X3 (host := "") (Or.inl (w19 hw)) Via.refl (Fld.other W3 (Fld.other W2 q3 (Or.inr (slot_ne (Or.inr (w20 hw)) (Or.inr (w16 hw)) (by decide) (t := .int) (t' := .int) (by decide) (by decide)))) (Or.inr (slot_ne (Or.inr (w20 hw)) (Or.inr (w18 hw)) (by decide) (t := .int) (t' := (.array (.array .long))) (by decide) (by decide)))) (Exa.wr W3 (Exa.wr W2 q0)) (Or.inr ⟨(w20 hw), rfl, rfl⟩) (w8 hw) (ty := .int) (by decide) rfl rfl q4 d_init_16 (pc' := 19) rfl ?_
  intro T4 h4 X4 W4
  have F4 := Fld.same W4 (Fld.other W3 (Fld.other W2 q3 (Or.inr (slot_ne (Or.inr (w20 hw)) (Or.inr (w16 hw)) (by decide) (t := .int) (t' := .int) (by decide) (by decide)))) (Or.inr (slot_ne (Or.inr (w20 hw)) (Or.inr (w18 hw)) (by decide) (t := .int) (t' := (.array (.array .long))) (by decide) (by decide))))
  refine o_return K X4 d_init_19 rfl ?_ (by decide) (by decide)
  exact ⟨rfl, ((((Keep.refl h0 [a]).wr W2 (Or.inl (List.mem_of_getElem? (i := 0) rfl))).wr W3 (Or.inl (List.mem_of_getElem? (i := 0) rfl))).wr W4 (Or.inl (List.mem_of_getElem? (i := 0) rfl))), (Exa.wr W4 (Exa.wr W3 (Exa.wr W2 q0))), (Fld.other W4 (Fld.other W3 F2 (Or.inr (slot_ne (Or.inr (w16 hw)) (Or.inr (w18 hw)) (by decide) (t := .int) (t' := (.array (.array .long))) (by decide) (by decide)))) (Or.inr (slot_ne (Or.inr (w16 hw)) (Or.inr (w20 hw)) (by decide) (t := .int) (t' := .int) (by decide) (by decide)))), (Fld.other W4 F3 (Or.inr (slot_ne (Or.inr (w18 hw)) (Or.inr (w20 hw)) (by decide) (t := (.array (.array .long))) (t' := .int) (by decide) (by decide)))), F4⟩
theorem d_of1_0 : decode prog_25_method_3_code 0 = .ok (.sipush 512, 3) := by decide +kernel
theorem d_of1_3 : decode prog_25_method_3_code 3 = .ok (.iload_n 0, 1) := by decide +kernel
theorem d_of1_4 : decode prog_25_method_3_code 4 = .ok (.imul, 1) := by decide +kernel
theorem d_of1_5 : decode prog_25_method_3_code 5 = .ok (.istore_n 2, 1) := by decide +kernel
theorem d_of1_6 : decode prog_25_method_3_code 6 = .ok (.aload_n 1, 1) := by decide +kernel
theorem d_of1_7 : decode prog_25_method_3_code 7 = .ok (.arraylength, 1) := by decide +kernel
theorem d_of1_8 : decode prog_25_method_3_code 8 = .ok (.iload_n 2, 1) := by decide +kernel
theorem d_of1_9 : decode prog_25_method_3_code 9 = .ok (.iadd, 1) := by decide +kernel
theorem d_of1_10 : decode prog_25_method_3_code 10 = .ok (.iconst 1, 1) := by decide +kernel
theorem d_of1_11 : decode prog_25_method_3_code 11 = .ok (.isub, 1) := by decide +kernel
theorem d_of1_12 : decode prog_25_method_3_code 12 = .ok (.iload_n 2, 1) := by decide +kernel
theorem d_of1_13 : decode prog_25_method_3_code 13 = .ok (.idiv, 1) := by decide +kernel
theorem d_of1_14 : decode prog_25_method_3_code 14 = .ok (.anewarray 20, 3) := by decide +kernel
theorem d_of1_17 : decode prog_25_method_3_code 17 = .ok (.astore_n 3, 1) := by decide +kernel
theorem d_of1_18 : decode prog_25_method_3_code 18 = .ok (.iconst 0, 1) := by decide +kernel
theorem d_of1_19 : decode prog_25_method_3_code 19 = .ok (.istore 4, 2) := by decide +kernel
theorem d_of1_21 : decode prog_25_method_3_code 21 = .ok (.iload 4, 2) := by decide +kernel
theorem d_of1_23 : decode prog_25_method_3_code 23 = .ok (.aload_n 3, 1) := by decide +kernel
theorem d_of1_24 : decode prog_25_method_3_code 24 = .ok (.arraylength, 1) := by decide +kernel
theorem d_of1_25 : decode prog_25_method_3_code 25 = .ok (.if_icmp .ge 32, 3) := by decide +kernel
theorem d_of1_57 : decode prog_25_method_3_code 57 = .ok (.new 8, 3) := by decide +kernel
theorem d_of1_60 : decode prog_25_method_3_code 60 = .ok (.dup, 1) := by decide +kernel
theorem d_of1_61 : decode prog_25_method_3_code 61 = .ok (.iload_n 0, 1) := by decide +kernel
theorem d_of1_62 : decode prog_25_method_3_code 62 = .ok (.aload_n 3, 1) := by decide +kernel
theorem d_of1_63 : decode prog_25_method_3_code 63 = .ok (.aload_n 1, 1) := by decide +kernel
theorem d_of1_64 : decode prog_25_method_3_code 64 = .ok (.arraylength, 1) := by decide +kernel
theorem d_of1_65 : decode prog_25_method_3_code 65 = .ok (.iload_n 0, 1) := by decide +kernel
theorem d_of1_66 : decode prog_25_method_3_code 66 = .ok (.idiv, 1) := by decide +kernel
theorem d_of1_67 : decode prog_25_method_3_code 67 = .ok (.invokespecial 22, 3) := by decide +kernel
theorem d_of1_70 : decode prog_25_method_3_code 70 = .ok (.areturn, 1) := by decide +kernel
theorem pd_of1_0 : parseMethodDescriptor "(I[[JI)V" = some ⟨[.int, (.array (.array .long)), .int], none⟩ := by decide +kernel
def r_of1 : Room := { frames := 2, cells := 2, slots := 3, locals := 28 }
def Q_of1 (Z : State) (b : Addr) (kb : ClassId) (h0 : Heap) (v : Option Value) (h : Heap) : Prop := ∃ r : Addr, ∃ ch : Addr, ∃ k : ClassId, v = some (.ref r) ∧ Keep h0 h [] ∧ h0.size ≤ r ∧ Exa Z h r "com/example/rosterlink/rosterlink/model/IdChunks" ∧ Fld Z h r "com/example/rosterlink/rosterlink/model/IdChunks" "width" "I" (.int (1 : Int32)) ∧ Fld Z h r "com/example/rosterlink/rosterlink/model/IdChunks" "chunks" "[[J" (.ref ch) ∧ Fld Z h r "com/example/rosterlink/rosterlink/model/IdChunks" "size" "I" (.int (0 : Int32)) ∧ h0.size ≤ ch ∧ oArr Z h ch k (.array .long) [] ∧ OvrA Z k .long "[J"
set_option maxRecDepth 65536 in
set_option maxHeartbeats 40000000 in
theorem rm_of1 (l : Launch) (Z : State) (a0 : Array Value) (hw : oHw Z a0) (b : Addr) (kb : ClassId) (h0 : Heap) (q0 : oArr Z h0 b kb .long []) : oMet l Z (⟨"com/example/rosterlink/rosterlink/model/IdChunks", "of", "(I[J)Lcom/example/rosterlink/rosterlink/model/IdChunks;"⟩ : MethodName) prog_25_method_3_code 5 (some (.object "com/example/rosterlink/rosterlink/model/IdChunks")) r_of1 [] #[(.int (1 : Int32)), (.ref b)] h0 (Q_of1 Z b kb h0) := by
  refine oEnter (plainFor_of_name (by first | (simp [plainName, overriddenIn]; done) | decide +kernel)) (own := "com/example/rosterlink/rosterlink/model/IdChunks") (nm := "of") rfl rfl (L := #[.val (.int (1 : Int32)), .val (.ref b), .unset, .unset, .unset]) (fun m => by first | (simp [entryFrame, mkF, argsToLocals, Value.category]; done) | rfl) ?_
  intro pp ee ss mm bb mtd cc T0 K X0
  have E0 := X0.ext0
  refine o_sipush K X0 d_of1_0 (pc' := 3) rfl (z := (512 : Int32)) rfl ?_
  refine o_iloadN K X0 d_of1_3 (pc' := 4) rfl rfl ?_
  refine o_imul K X0 d_of1_4 (pc' := 5) rfl (z := (512 : Int32)) (by decide) ?_
  refine o_istoreN K X0 d_of1_5 (pc' := 6) rfl (L' := #[.val (.int (1 : Int32)), .val (.ref b), .val (.int (512 : Int32)), .unset, .unset]) rfl ?_
  refine o_aloadN K X0 d_of1_6 (pc' := 7) rfl rfl rfl ?_
  refine o_arraylength K X0 q0 (z := (0 : Int32)) rfl d_of1_7 (pc' := 8) rfl ?_
  refine o_iloadN K X0 d_of1_8 (pc' := 9) rfl rfl ?_
  refine o_iadd K X0 d_of1_9 (pc' := 10) rfl (z := (512 : Int32)) (by decide) ?_
  refine o_iconst K X0 d_of1_10 (pc' := 11) rfl (z := (1 : Int32)) rfl ?_
  refine o_isub K X0 d_of1_11 (pc' := 12) rfl (z := (511 : Int32)) (by decide) ?_
  refine o_iloadN K X0 d_of1_12 (pc' := 13) rfl rfl ?_
  refine o_idiv K X0 d_of1_13 (pc' := 14) rfl (by decide) (z := (0 : Int32)) (by decide) ?_
  refine o_anewarrayA K X0 (ty := .long) 0 (by decide +kernel) (w5 hw) (w6 hw) (ad := "[[J") (by decide +kernel) (by decide) (by decide) (by decide) d_of1_14 (pc' := 17) rfl (by decide) (by decide) ?_
  intro T1 h1 b1 k1 X1 g1 E1 A1 B1 O1 G1
  replace A1 : oArr Z h1 b1 k1 (.array .long) [] := A1
  refine o_astoreN K X1 d_of1_17 (pc' := 18) rfl rfl (L' := #[.val (.int (1 : Int32)), .val (.ref b), .val (.int (512 : Int32)), .val (.ref b1), .unset]) rfl ?_
  refine o_iconst K X1 d_of1_18 (pc' := 19) rfl (z := (0 : Int32)) rfl ?_
  refine o_istore K X1 d_of1_19 (pc' := 21) rfl (L' := #[.val (.int (1 : Int32)), .val (.ref b), .val (.int (512 : Int32)), .val (.ref b1), .val (.int (0 : Int32))]) rfl ?_
  refine o_iload K X1 d_of1_21 (pc' := 23) rfl rfl ?_
  refine o_aloadN K X1 d_of1_23 (pc' := 24) rfl rfl rfl ?_
  refine o_arraylength K X1 A1 (z := (0 : Int32)) rfl d_of1_24 (pc' := 25) rfl ?_
  refine o_icmp_ge_t K X1 d_of1_25 (by decide) (pc' := 57) (by decide) (by decide) ?_
  refine o_new K X1 (w7 hw) (w8 hw) (w3 hw) d_of1_57 (pc' := 60) rfl (by decide) (by decide) ?_
  intro T2 h2 b2 X2 g2 E2 A2 D2 G2
  have F2_width : Fld Z h2 b2 "com/example/rosterlink/rosterlink/model/IdChunks" "width" "I" (.int (0 : Int32)) := (D2 (Or.inr (w16 hw)) (ty := .int) (by decide))
  have F2_chunks : Fld Z h2 b2 "com/example/rosterlink/rosterlink/model/IdChunks" "chunks" "[[J" .null := (D2 (Or.inr (w18 hw)) (ty := (.array (.array .long))) (by decide))
  have F2_size : Fld Z h2 b2 "com/example/rosterlink/rosterlink/model/IdChunks" "size" "I" (.int (0 : Int32)) := (D2 (Or.inr (w20 hw)) (ty := .int) (by decide))
  refine o_dup K X2 d_of1_60 (pc' := 61) rfl rfl ?_
  refine o_iloadN K X2 d_of1_61 (pc' := 62) rfl rfl ?_
  refine o_aloadN K X2 d_of1_62 (pc' := 63) rfl rfl rfl ?_
  refine o_aloadN K X2 d_of1_63 (pc' := 64) rfl rfl rfl ?_
  refine o_arraylength K X2 ((q0.ext E1).ext E2) (z := (0 : Int32)) rfl d_of1_64 (pc' := 65) rfl ?_
  refine o_iloadN K X2 d_of1_65 (pc' := 66) rfl rfl ?_
  refine o_idiv K X2 d_of1_66 (pc' := 67) rfl (by decide) (z := (0 : Int32)) (by decide) ?_
  refine o_special K X2 (y := (⟨"com/example/rosterlink/rosterlink/model/IdChunks", "<init>", "(I[[JI)V"⟩ : MethodName)) rfl (w9 hw) (w10 hw) (w3 hw) (w11 hw) (by decide) (rm_init l Z a0 hw b2 (1 : Int32) b1 (0 : Int32) h2 A2 F2_width F2_chunks F2_size G2) (by decide) rfl (argsL := [(.int (1 : Int32)), (.ref b1), (.int (0 : Int32))]) rfl (lenOf pd_of1_0 rfl) (W := 1) rfl (by decide) (by decide) (by decide) d_of1_67 (pc' := 70) rfl ?_
  intro v3 T3 h3 X3 U3
  obtain ⟨rfl, u3_0, u3_1, u3_2, u3_3, u3_4⟩ := U3
  show oGoes pp ee bb ss Z T3 (mkF mm 70 #[.val (.int (1 : Int32)), .val (.ref b), .val (.int (512 : Int32)), .val (.ref b1), .val (.int (0 : Int32))] [(.ref b2)]) _ _ _
  refine o_areturn K X3 (t := (.object "com/example/rosterlink/rosterlink/model/IdChunks")) d_of1_70 rfl rfl rfl ?_ (by decide) (by decide)
  exact ⟨b2, b1, k1, rfl, ((((Keep.refl h0 []).ext E1).ext E2).trans u3_0 (allS (Or.inr (Nat.le_trans E1.1 (Nat.le_of_eq g2.symm))) all0)), (Nat.le_trans E1.1 (Nat.le_of_eq g2.symm)), u3_1, u3_2, u3_3, u3_4, (Nat.le_of_eq g1.symm), ((A1.ext E2).keep u3_0 (ninS (Nat.ne_of_lt (Nat.lt_of_lt_of_le A1.lt (Nat.le_of_eq g2.symm))) nin0)), O1⟩
theorem d_of2_0 : decode prog_25_method_3_code 0 = .ok (.sipush 512, 3) := by decide +kernel
theorem d_of2_3 : decode prog_25_method_3_code 3 = .ok (.iload_n 0, 1) := by decide +kernel
theorem d_of2_4 : decode prog_25_method_3_code 4 = .ok (.imul, 1) := by decide +kernel
theorem d_of2_5 : decode prog_25_method_3_code 5 = .ok (.istore_n 2, 1) := by decide +kernel
theorem d_of2_6 : decode prog_25_method_3_code 6 = .ok (.aload_n 1, 1) := by decide +kernel
theorem d_of2_7 : decode prog_25_method_3_code 7 = .ok (.arraylength, 1) := by decide +kernel
theorem d_of2_8 : decode prog_25_method_3_code 8 = .ok (.iload_n 2, 1) := by decide +kernel
theorem d_of2_9 : decode prog_25_method_3_code 9 = .ok (.iadd, 1) := by decide +kernel
theorem d_of2_10 : decode prog_25_method_3_code 10 = .ok (.iconst 1, 1) := by decide +kernel
theorem d_of2_11 : decode prog_25_method_3_code 11 = .ok (.isub, 1) := by decide +kernel
theorem d_of2_12 : decode prog_25_method_3_code 12 = .ok (.iload_n 2, 1) := by decide +kernel
theorem d_of2_13 : decode prog_25_method_3_code 13 = .ok (.idiv, 1) := by decide +kernel
theorem d_of2_14 : decode prog_25_method_3_code 14 = .ok (.anewarray 20, 3) := by decide +kernel
theorem d_of2_17 : decode prog_25_method_3_code 17 = .ok (.astore_n 3, 1) := by decide +kernel
theorem d_of2_18 : decode prog_25_method_3_code 18 = .ok (.iconst 0, 1) := by decide +kernel
theorem d_of2_19 : decode prog_25_method_3_code 19 = .ok (.istore 4, 2) := by decide +kernel
theorem d_of2_21 : decode prog_25_method_3_code 21 = .ok (.iload 4, 2) := by decide +kernel
theorem d_of2_23 : decode prog_25_method_3_code 23 = .ok (.aload_n 3, 1) := by decide +kernel
theorem d_of2_24 : decode prog_25_method_3_code 24 = .ok (.arraylength, 1) := by decide +kernel
theorem d_of2_25 : decode prog_25_method_3_code 25 = .ok (.if_icmp .ge 32, 3) := by decide +kernel
theorem d_of2_57 : decode prog_25_method_3_code 57 = .ok (.new 8, 3) := by decide +kernel
theorem d_of2_60 : decode prog_25_method_3_code 60 = .ok (.dup, 1) := by decide +kernel
theorem d_of2_61 : decode prog_25_method_3_code 61 = .ok (.iload_n 0, 1) := by decide +kernel
theorem d_of2_62 : decode prog_25_method_3_code 62 = .ok (.aload_n 3, 1) := by decide +kernel
theorem d_of2_63 : decode prog_25_method_3_code 63 = .ok (.aload_n 1, 1) := by decide +kernel
theorem d_of2_64 : decode prog_25_method_3_code 64 = .ok (.arraylength, 1) := by decide +kernel
theorem d_of2_65 : decode prog_25_method_3_code 65 = .ok (.iload_n 0, 1) := by decide +kernel
theorem d_of2_66 : decode prog_25_method_3_code 66 = .ok (.idiv, 1) := by decide +kernel
theorem d_of2_67 : decode prog_25_method_3_code 67 = .ok (.invokespecial 22, 3) := by decide +kernel
theorem d_of2_70 : decode prog_25_method_3_code 70 = .ok (.areturn, 1) := by decide +kernel
theorem pd_of2_0 : parseMethodDescriptor "(I[[JI)V" = some ⟨[.int, (.array (.array .long)), .int], none⟩ := by decide +kernel
def r_of2 : Room := { frames := 2, cells := 2, slots := 3, locals := 28 }
def Q_of2 (Z : State) (b : Addr) (kb : ClassId) (h0 : Heap) (v : Option Value) (h : Heap) : Prop := ∃ r : Addr, ∃ ch : Addr, ∃ k : ClassId, v = some (.ref r) ∧ Keep h0 h [] ∧ h0.size ≤ r ∧ Exa Z h r "com/example/rosterlink/rosterlink/model/IdChunks" ∧ Fld Z h r "com/example/rosterlink/rosterlink/model/IdChunks" "width" "I" (.int (2 : Int32)) ∧ Fld Z h r "com/example/rosterlink/rosterlink/model/IdChunks" "chunks" "[[J" (.ref ch) ∧ Fld Z h r "com/example/rosterlink/rosterlink/model/IdChunks" "size" "I" (.int (0 : Int32)) ∧ h0.size ≤ ch ∧ oArr Z h ch k (.array .long) [] ∧ OvrA Z k .long "[J"
set_option maxRecDepth 65536 in
set_option maxHeartbeats 40000000 in
theorem rm_of2 (l : Launch) (Z : State) (a0 : Array Value) (hw : oHw Z a0) (b : Addr) (kb : ClassId) (h0 : Heap) (q0 : oArr Z h0 b kb .long []) : oMet l Z (⟨"com/example/rosterlink/rosterlink/model/IdChunks", "of", "(I[J)Lcom/example/rosterlink/rosterlink/model/IdChunks;"⟩ : MethodName) prog_25_method_3_code 5 (some (.object "com/example/rosterlink/rosterlink/model/IdChunks")) r_of2 [] #[(.int (2 : Int32)), (.ref b)] h0 (Q_of2 Z b kb h0) := by
  refine oEnter (plainFor_of_name (by first | (simp [plainName, overriddenIn]; done) | decide +kernel)) (own := "com/example/rosterlink/rosterlink/model/IdChunks") (nm := "of") rfl rfl (L := #[.val (.int (2 : Int32)), .val (.ref b), .unset, .unset, .unset]) (fun m => by first | (simp [entryFrame, mkF, argsToLocals, Value.category]; done) | rfl) ?_
  intro pp ee ss mm bb mtd cc T0 K X0
  have E0 := X0.ext0
  refine o_sipush K X0 d_of2_0 (pc' := 3) rfl (z := (512 : Int32)) rfl ?_
  refine o_iloadN K X0 d_of2_3 (pc' := 4) rfl rfl ?_
  refine o_imul K X0 d_of2_4 (pc' := 5) rfl (z := (1024 : Int32)) (by decide) ?_
  refine o_istoreN K X0 d_of2_5 (pc' := 6) rfl (L' := #[.val (.int (2 : Int32)), .val (.ref b), .val (.int (1024 : Int32)), .unset, .unset]) rfl ?_
  refine o_aloadN K X0 d_of2_6 (pc' := 7) rfl rfl rfl ?_
  refine o_arraylength K X0 q0 (z := (0 : Int32)) rfl d_of2_7 (pc' := 8) rfl ?_
  refine o_iloadN K X0 d_of2_8 (pc' := 9) rfl rfl ?_
  refine o_iadd K X0 d_of2_9 (pc' := 10) rfl (z := (1024 : Int32)) (by decide) ?_
  refine o_iconst K X0 d_of2_10 (pc' := 11) rfl (z := (1 : Int32)) rfl ?_
  refine o_isub K X0 d_of2_11 (pc' := 12) rfl (z := (1023 : Int32)) (by decide) ?_
  refine o_iloadN K X0 d_of2_12 (pc' := 13) rfl rfl ?_
  refine o_idiv K X0 d_of2_13 (pc' := 14) rfl (by decide) (z := (0 : Int32)) (by decide) ?_
  refine o_anewarrayA K X0 (ty := .long) 0 (by decide +kernel) (w5 hw) (w6 hw) (ad := "[[J") (by decide +kernel) (by decide) (by decide) (by decide) d_of2_14 (pc' := 17) rfl (by decide) (by decide) ?_
  intro T1 h1 b1 k1 X1 g1 E1 A1 B1 O1 G1
  replace A1 : oArr Z h1 b1 k1 (.array .long) [] := A1
  refine o_astoreN K X1 d_of2_17 (pc' := 18) rfl rfl (L' := #[.val (.int (2 : Int32)), .val (.ref b), .val (.int (1024 : Int32)), .val (.ref b1), .unset]) rfl ?_
  refine o_iconst K X1 d_of2_18 (pc' := 19) rfl (z := (0 : Int32)) rfl ?_
  refine o_istore K X1 d_of2_19 (pc' := 21) rfl (L' := #[.val (.int (2 : Int32)), .val (.ref b), .val (.int (1024 : Int32)), .val (.ref b1), .val (.int (0 : Int32))]) rfl ?_
  refine o_iload K X1 d_of2_21 (pc' := 23) rfl rfl ?_
  refine o_aloadN K X1 d_of2_23 (pc' := 24) rfl rfl rfl ?_
  refine o_arraylength K X1 A1 (z := (0 : Int32)) rfl d_of2_24 (pc' := 25) rfl ?_
  refine o_icmp_ge_t K X1 d_of2_25 (by decide) (pc' := 57) (by decide) (by decide) ?_
  refine o_new K X1 (w7 hw) (w8 hw) (w3 hw) d_of2_57 (pc' := 60) rfl (by decide) (by decide) ?_
  intro T2 h2 b2 X2 g2 E2 A2 D2 G2
  have F2_width : Fld Z h2 b2 "com/example/rosterlink/rosterlink/model/IdChunks" "width" "I" (.int (0 : Int32)) := (D2 (Or.inr (w16 hw)) (ty := .int) (by decide))
  have F2_chunks : Fld Z h2 b2 "com/example/rosterlink/rosterlink/model/IdChunks" "chunks" "[[J" .null := (D2 (Or.inr (w18 hw)) (ty := (.array (.array .long))) (by decide))
  have F2_size : Fld Z h2 b2 "com/example/rosterlink/rosterlink/model/IdChunks" "size" "I" (.int (0 : Int32)) := (D2 (Or.inr (w20 hw)) (ty := .int) (by decide))
  refine o_dup K X2 d_of2_60 (pc' := 61) rfl rfl ?_
  refine o_iloadN K X2 d_of2_61 (pc' := 62) rfl rfl ?_
  refine o_aloadN K X2 d_of2_62 (pc' := 63) rfl rfl rfl ?_
  refine o_aloadN K X2 d_of2_63 (pc' := 64) rfl rfl rfl ?_
  refine o_arraylength K X2 ((q0.ext E1).ext E2) (z := (0 : Int32)) rfl d_of2_64 (pc' := 65) rfl ?_
  refine o_iloadN K X2 d_of2_65 (pc' := 66) rfl rfl ?_
  refine o_idiv K X2 d_of2_66 (pc' := 67) rfl (by decide) (z := (0 : Int32)) (by decide) ?_
  refine o_special K X2 (y := (⟨"com/example/rosterlink/rosterlink/model/IdChunks", "<init>", "(I[[JI)V"⟩ : MethodName)) rfl (w9 hw) (w10 hw) (w3 hw) (w11 hw) (by decide) (rm_init l Z a0 hw b2 (2 : Int32) b1 (0 : Int32) h2 A2 F2_width F2_chunks F2_size G2) (by decide) rfl (argsL := [(.int (2 : Int32)), (.ref b1), (.int (0 : Int32))]) rfl (lenOf pd_of2_0 rfl) (W := 1) rfl (by decide) (by decide) (by decide) d_of2_67 (pc' := 70) rfl ?_
  intro v3 T3 h3 X3 U3
  obtain ⟨rfl, u3_0, u3_1, u3_2, u3_3, u3_4⟩ := U3
  show oGoes pp ee bb ss Z T3 (mkF mm 70 #[.val (.int (2 : Int32)), .val (.ref b), .val (.int (1024 : Int32)), .val (.ref b1), .val (.int (0 : Int32))] [(.ref b2)]) _ _ _
  refine o_areturn K X3 (t := (.object "com/example/rosterlink/rosterlink/model/IdChunks")) d_of2_70 rfl rfl rfl ?_ (by decide) (by decide)
  exact ⟨b2, b1, k1, rfl, ((((Keep.refl h0 []).ext E1).ext E2).trans u3_0 (allS (Or.inr (Nat.le_trans E1.1 (Nat.le_of_eq g2.symm))) all0)), (Nat.le_trans E1.1 (Nat.le_of_eq g2.symm)), u3_1, u3_2, u3_3, u3_4, (Nat.le_of_eq g1.symm), ((A1.ext E2).keep u3_0 (ninS (Nat.ne_of_lt (Nat.lt_of_lt_of_le A1.lt (Nat.le_of_eq g2.symm))) nin0)), O1⟩
theorem d_of3_0 : decode prog_25_method_3_code 0 = .ok (.sipush 512, 3) := by decide +kernel
theorem d_of3_3 : decode prog_25_method_3_code 3 = .ok (.iload_n 0, 1) := by decide +kernel
theorem d_of3_4 : decode prog_25_method_3_code 4 = .ok (.imul, 1) := by decide +kernel
theorem d_of3_5 : decode prog_25_method_3_code 5 = .ok (.istore_n 2, 1) := by decide +kernel
theorem d_of3_6 : decode prog_25_method_3_code 6 = .ok (.aload_n 1, 1) := by decide +kernel
theorem d_of3_7 : decode prog_25_method_3_code 7 = .ok (.arraylength, 1) := by decide +kernel
theorem d_of3_8 : decode prog_25_method_3_code 8 = .ok (.iload_n 2, 1) := by decide +kernel
theorem d_of3_9 : decode prog_25_method_3_code 9 = .ok (.iadd, 1) := by decide +kernel
theorem d_of3_10 : decode prog_25_method_3_code 10 = .ok (.iconst 1, 1) := by decide +kernel
theorem d_of3_11 : decode prog_25_method_3_code 11 = .ok (.isub, 1) := by decide +kernel
theorem d_of3_12 : decode prog_25_method_3_code 12 = .ok (.iload_n 2, 1) := by decide +kernel
theorem d_of3_13 : decode prog_25_method_3_code 13 = .ok (.idiv, 1) := by decide +kernel
theorem d_of3_14 : decode prog_25_method_3_code 14 = .ok (.anewarray 20, 3) := by decide +kernel
theorem d_of3_17 : decode prog_25_method_3_code 17 = .ok (.astore_n 3, 1) := by decide +kernel
theorem d_of3_18 : decode prog_25_method_3_code 18 = .ok (.iconst 0, 1) := by decide +kernel
theorem d_of3_19 : decode prog_25_method_3_code 19 = .ok (.istore 4, 2) := by decide +kernel
theorem d_of3_21 : decode prog_25_method_3_code 21 = .ok (.iload 4, 2) := by decide +kernel
theorem d_of3_23 : decode prog_25_method_3_code 23 = .ok (.aload_n 3, 1) := by decide +kernel
theorem d_of3_24 : decode prog_25_method_3_code 24 = .ok (.arraylength, 1) := by decide +kernel
theorem d_of3_25 : decode prog_25_method_3_code 25 = .ok (.if_icmp .ge 32, 3) := by decide +kernel
theorem d_of3_57 : decode prog_25_method_3_code 57 = .ok (.new 8, 3) := by decide +kernel
theorem d_of3_60 : decode prog_25_method_3_code 60 = .ok (.dup, 1) := by decide +kernel
theorem d_of3_61 : decode prog_25_method_3_code 61 = .ok (.iload_n 0, 1) := by decide +kernel
theorem d_of3_62 : decode prog_25_method_3_code 62 = .ok (.aload_n 3, 1) := by decide +kernel
theorem d_of3_63 : decode prog_25_method_3_code 63 = .ok (.aload_n 1, 1) := by decide +kernel
theorem d_of3_64 : decode prog_25_method_3_code 64 = .ok (.arraylength, 1) := by decide +kernel
theorem d_of3_65 : decode prog_25_method_3_code 65 = .ok (.iload_n 0, 1) := by decide +kernel
theorem d_of3_66 : decode prog_25_method_3_code 66 = .ok (.idiv, 1) := by decide +kernel
theorem d_of3_67 : decode prog_25_method_3_code 67 = .ok (.invokespecial 22, 3) := by decide +kernel
theorem d_of3_70 : decode prog_25_method_3_code 70 = .ok (.areturn, 1) := by decide +kernel
theorem pd_of3_0 : parseMethodDescriptor "(I[[JI)V" = some ⟨[.int, (.array (.array .long)), .int], none⟩ := by decide +kernel
def r_of3 : Room := { frames := 2, cells := 2, slots := 3, locals := 28 }
def Q_of3 (Z : State) (b : Addr) (kb : ClassId) (h0 : Heap) (v : Option Value) (h : Heap) : Prop := ∃ r : Addr, ∃ ch : Addr, ∃ k : ClassId, v = some (.ref r) ∧ Keep h0 h [] ∧ h0.size ≤ r ∧ Exa Z h r "com/example/rosterlink/rosterlink/model/IdChunks" ∧ Fld Z h r "com/example/rosterlink/rosterlink/model/IdChunks" "width" "I" (.int (3 : Int32)) ∧ Fld Z h r "com/example/rosterlink/rosterlink/model/IdChunks" "chunks" "[[J" (.ref ch) ∧ Fld Z h r "com/example/rosterlink/rosterlink/model/IdChunks" "size" "I" (.int (0 : Int32)) ∧ h0.size ≤ ch ∧ oArr Z h ch k (.array .long) [] ∧ OvrA Z k .long "[J"
set_option maxRecDepth 65536 in
set_option maxHeartbeats 40000000 in
theorem rm_of3 (l : Launch) (Z : State) (a0 : Array Value) (hw : oHw Z a0) (b : Addr) (kb : ClassId) (h0 : Heap) (q0 : oArr Z h0 b kb .long []) : oMet l Z (⟨"com/example/rosterlink/rosterlink/model/IdChunks", "of", "(I[J)Lcom/example/rosterlink/rosterlink/model/IdChunks;"⟩ : MethodName) prog_25_method_3_code 5 (some (.object "com/example/rosterlink/rosterlink/model/IdChunks")) r_of3 [] #[(.int (3 : Int32)), (.ref b)] h0 (Q_of3 Z b kb h0) := by
  refine oEnter (plainFor_of_name (by first | (simp [plainName, overriddenIn]; done) | decide +kernel)) (own := "com/example/rosterlink/rosterlink/model/IdChunks") (nm := "of") rfl rfl (L := #[.val (.int (3 : Int32)), .val (.ref b), .unset, .unset, .unset]) (fun m => by first | (simp [entryFrame, mkF, argsToLocals, Value.category]; done) | rfl) ?_
  intro pp ee ss mm bb mtd cc T0 K X0
  have E0 := X0.ext0
  refine o_sipush K X0 d_of3_0 (pc' := 3) rfl (z := (512 : Int32)) rfl ?_
  refine o_iloadN K X0 d_of3_3 (pc' := 4) rfl rfl ?_
  refine o_imul K X0 d_of3_4 (pc' := 5) rfl (z := (1536 : Int32)) (by decide) ?_
  refine o_istoreN K X0 d_of3_5 (pc' := 6) rfl (L' := #[.val (.int (3 : Int32)), .val (.ref b), .val (.int (1536 : Int32)), .unset, .unset]) rfl ?_
  refine o_aloadN K X0 d_of3_6 (pc' := 7) rfl rfl rfl ?_
  refine o_arraylength K X0 q0 (z := (0 : Int32)) rfl d_of3_7 (pc' := 8) rfl ?_
  refine o_iloadN K X0 d_of3_8 (pc' := 9) rfl rfl ?_
  refine o_iadd K X0 d_of3_9 (pc' := 10) rfl (z := (1536 : Int32)) (by decide) ?_
  refine o_iconst K X0 d_of3_10 (pc' := 11) rfl (z := (1 : Int32)) rfl ?_
  refine o_isub K X0 d_of3_11 (pc' := 12) rfl (z := (1535 : Int32)) (by decide) ?_
  refine o_iloadN K X0 d_of3_12 (pc' := 13) rfl rfl ?_
  refine o_idiv K X0 d_of3_13 (pc' := 14) rfl (by decide) (z := (0 : Int32)) (by decide) ?_
  refine o_anewarrayA K X0 (ty := .long) 0 (by decide +kernel) (w5 hw) (w6 hw) (ad := "[[J") (by decide +kernel) (by decide) (by decide) (by decide) d_of3_14 (pc' := 17) rfl (by decide) (by decide) ?_
  intro T1 h1 b1 k1 X1 g1 E1 A1 B1 O1 G1
  replace A1 : oArr Z h1 b1 k1 (.array .long) [] := A1
  refine o_astoreN K X1 d_of3_17 (pc' := 18) rfl rfl (L' := #[.val (.int (3 : Int32)), .val (.ref b), .val (.int (1536 : Int32)), .val (.ref b1), .unset]) rfl ?_
  refine o_iconst K X1 d_of3_18 (pc' := 19) rfl (z := (0 : Int32)) rfl ?_
  refine o_istore K X1 d_of3_19 (pc' := 21) rfl (L' := #[.val (.int (3 : Int32)), .val (.ref b), .val (.int (1536 : Int32)), .val (.ref b1), .val (.int (0 : Int32))]) rfl ?_
  refine o_iload K X1 d_of3_21 (pc' := 23) rfl rfl ?_
  refine o_aloadN K X1 d_of3_23 (pc' := 24) rfl rfl rfl ?_
  refine o_arraylength K X1 A1 (z := (0 : Int32)) rfl d_of3_24 (pc' := 25) rfl ?_
  refine o_icmp_ge_t K X1 d_of3_25 (by decide) (pc' := 57) (by decide) (by decide) ?_
  refine o_new K X1 (w7 hw) (w8 hw) (w3 hw) d_of3_57 (pc' := 60) rfl (by decide) (by decide) ?_
  intro T2 h2 b2 X2 g2 E2 A2 D2 G2
  have F2_width : Fld Z h2 b2 "com/example/rosterlink/rosterlink/model/IdChunks" "width" "I" (.int (0 : Int32)) := (D2 (Or.inr (w16 hw)) (ty := .int) (by decide))
  have F2_chunks : Fld Z h2 b2 "com/example/rosterlink/rosterlink/model/IdChunks" "chunks" "[[J" .null := (D2 (Or.inr (w18 hw)) (ty := (.array (.array .long))) (by decide))
  have F2_size : Fld Z h2 b2 "com/example/rosterlink/rosterlink/model/IdChunks" "size" "I" (.int (0 : Int32)) := (D2 (Or.inr (w20 hw)) (ty := .int) (by decide))
  refine o_dup K X2 d_of3_60 (pc' := 61) rfl rfl ?_
  refine o_iloadN K X2 d_of3_61 (pc' := 62) rfl rfl ?_
  refine o_aloadN K X2 d_of3_62 (pc' := 63) rfl rfl rfl ?_
  refine o_aloadN K X2 d_of3_63 (pc' := 64) rfl rfl rfl ?_
  refine o_arraylength K X2 ((q0.ext E1).ext E2) (z := (0 : Int32)) rfl d_of3_64 (pc' := 65) rfl ?_
  refine o_iloadN K X2 d_of3_65 (pc' := 66) rfl rfl ?_
  refine o_idiv K X2 d_of3_66 (pc' := 67) rfl (by decide) (z := (0 : Int32)) (by decide) ?_
  refine o_special K X2 (y := (⟨"com/example/rosterlink/rosterlink/model/IdChunks", "<init>", "(I[[JI)V"⟩ : MethodName)) rfl (w9 hw) (w10 hw) (w3 hw) (w11 hw) (by decide) (rm_init l Z a0 hw b2 (3 : Int32) b1 (0 : Int32) h2 A2 F2_width F2_chunks F2_size G2) (by decide) rfl (argsL := [(.int (3 : Int32)), (.ref b1), (.int (0 : Int32))]) rfl (lenOf pd_of3_0 rfl) (W := 1) rfl (by decide) (by decide) (by decide) d_of3_67 (pc' := 70) rfl ?_
  intro v3 T3 h3 X3 U3
  obtain ⟨rfl, u3_0, u3_1, u3_2, u3_3, u3_4⟩ := U3
  show oGoes pp ee bb ss Z T3 (mkF mm 70 #[.val (.int (3 : Int32)), .val (.ref b), .val (.int (1536 : Int32)), .val (.ref b1), .val (.int (0 : Int32))] [(.ref b2)]) _ _ _
  refine o_areturn K X3 (t := (.object "com/example/rosterlink/rosterlink/model/IdChunks")) d_of3_70 rfl rfl rfl ?_ (by decide) (by decide)
  exact ⟨b2, b1, k1, rfl, ((((Keep.refl h0 []).ext E1).ext E2).trans u3_0 (allS (Or.inr (Nat.le_trans E1.1 (Nat.le_of_eq g2.symm))) all0)), (Nat.le_trans E1.1 (Nat.le_of_eq g2.symm)), u3_1, u3_2, u3_3, u3_4, (Nat.le_of_eq g1.symm), ((A1.ext E2).keep u3_0 (ninS (Nat.ne_of_lt (Nat.lt_of_lt_of_le A1.lt (Nat.le_of_eq g2.symm))) nin0)), O1⟩
theorem d_of4_0 : decode prog_25_method_3_code 0 = .ok (.sipush 512, 3) := by decide +kernel
theorem d_of4_3 : decode prog_25_method_3_code 3 = .ok (.iload_n 0, 1) := by decide +kernel
theorem d_of4_4 : decode prog_25_method_3_code 4 = .ok (.imul, 1) := by decide +kernel
theorem d_of4_5 : decode prog_25_method_3_code 5 = .ok (.istore_n 2, 1) := by decide +kernel
theorem d_of4_6 : decode prog_25_method_3_code 6 = .ok (.aload_n 1, 1) := by decide +kernel
theorem d_of4_7 : decode prog_25_method_3_code 7 = .ok (.arraylength, 1) := by decide +kernel
theorem d_of4_8 : decode prog_25_method_3_code 8 = .ok (.iload_n 2, 1) := by decide +kernel
theorem d_of4_9 : decode prog_25_method_3_code 9 = .ok (.iadd, 1) := by decide +kernel
theorem d_of4_10 : decode prog_25_method_3_code 10 = .ok (.iconst 1, 1) := by decide +kernel
theorem d_of4_11 : decode prog_25_method_3_code 11 = .ok (.isub, 1) := by decide +kernel
theorem d_of4_12 : decode prog_25_method_3_code 12 = .ok (.iload_n 2, 1) := by decide +kernel
theorem d_of4_13 : decode prog_25_method_3_code 13 = .ok (.idiv, 1) := by decide +kernel
theorem d_of4_14 : decode prog_25_method_3_code 14 = .ok (.anewarray 20, 3) := by decide +kernel
theorem d_of4_17 : decode prog_25_method_3_code 17 = .ok (.astore_n 3, 1) := by decide +kernel
theorem d_of4_18 : decode prog_25_method_3_code 18 = .ok (.iconst 0, 1) := by decide +kernel
theorem d_of4_19 : decode prog_25_method_3_code 19 = .ok (.istore 4, 2) := by decide +kernel
theorem d_of4_21 : decode prog_25_method_3_code 21 = .ok (.iload 4, 2) := by decide +kernel
theorem d_of4_23 : decode prog_25_method_3_code 23 = .ok (.aload_n 3, 1) := by decide +kernel
theorem d_of4_24 : decode prog_25_method_3_code 24 = .ok (.arraylength, 1) := by decide +kernel
theorem d_of4_25 : decode prog_25_method_3_code 25 = .ok (.if_icmp .ge 32, 3) := by decide +kernel
theorem d_of4_57 : decode prog_25_method_3_code 57 = .ok (.new 8, 3) := by decide +kernel
theorem d_of4_60 : decode prog_25_method_3_code 60 = .ok (.dup, 1) := by decide +kernel
theorem d_of4_61 : decode prog_25_method_3_code 61 = .ok (.iload_n 0, 1) := by decide +kernel
theorem d_of4_62 : decode prog_25_method_3_code 62 = .ok (.aload_n 3, 1) := by decide +kernel
theorem d_of4_63 : decode prog_25_method_3_code 63 = .ok (.aload_n 1, 1) := by decide +kernel
theorem d_of4_64 : decode prog_25_method_3_code 64 = .ok (.arraylength, 1) := by decide +kernel
theorem d_of4_65 : decode prog_25_method_3_code 65 = .ok (.iload_n 0, 1) := by decide +kernel
theorem d_of4_66 : decode prog_25_method_3_code 66 = .ok (.idiv, 1) := by decide +kernel
theorem d_of4_67 : decode prog_25_method_3_code 67 = .ok (.invokespecial 22, 3) := by decide +kernel
theorem d_of4_70 : decode prog_25_method_3_code 70 = .ok (.areturn, 1) := by decide +kernel
theorem pd_of4_0 : parseMethodDescriptor "(I[[JI)V" = some ⟨[.int, (.array (.array .long)), .int], none⟩ := by decide +kernel
def r_of4 : Room := { frames := 2, cells := 2, slots := 3, locals := 28 }
def Q_of4 (Z : State) (b : Addr) (kb : ClassId) (h0 : Heap) (v : Option Value) (h : Heap) : Prop := ∃ r : Addr, ∃ ch : Addr, ∃ k : ClassId, v = some (.ref r) ∧ Keep h0 h [] ∧ h0.size ≤ r ∧ Exa Z h r "com/example/rosterlink/rosterlink/model/IdChunks" ∧ Fld Z h r "com/example/rosterlink/rosterlink/model/IdChunks" "width" "I" (.int (4 : Int32)) ∧ Fld Z h r "com/example/rosterlink/rosterlink/model/IdChunks" "chunks" "[[J" (.ref ch) ∧ Fld Z h r "com/example/rosterlink/rosterlink/model/IdChunks" "size" "I" (.int (0 : Int32)) ∧ h0.size ≤ ch ∧ oArr Z h ch k (.array .long) [] ∧ OvrA Z k .long "[J"
set_option maxRecDepth 65536 in
set_option maxHeartbeats 40000000 in
theorem rm_of4 (l : Launch) (Z : State) (a0 : Array Value) (hw : oHw Z a0) (b : Addr) (kb : ClassId) (h0 : Heap) (q0 : oArr Z h0 b kb .long []) : oMet l Z (⟨"com/example/rosterlink/rosterlink/model/IdChunks", "of", "(I[J)Lcom/example/rosterlink/rosterlink/model/IdChunks;"⟩ : MethodName) prog_25_method_3_code 5 (some (.object "com/example/rosterlink/rosterlink/model/IdChunks")) r_of4 [] #[(.int (4 : Int32)), (.ref b)] h0 (Q_of4 Z b kb h0) := by
  refine oEnter (plainFor_of_name (by first | (simp [plainName, overriddenIn]; done) | decide +kernel)) (own := "com/example/rosterlink/rosterlink/model/IdChunks") (nm := "of") rfl rfl (L := #[.val (.int (4 : Int32)), .val (.ref b), .unset, .unset, .unset]) (fun m => by first | (simp [entryFrame, mkF, argsToLocals, Value.category]; done) | rfl) ?_
  intro pp ee ss mm bb mtd cc T0 K X0
  have E0 := X0.ext0
  refine o_sipush K X0 d_of4_0 (pc' := 3) rfl (z := (512 : Int32)) rfl ?_
  refine o_iloadN K X0 d_of4_3 (pc' := 4) rfl rfl ?_
  refine o_imul K X0 d_of4_4 (pc' := 5) rfl (z := (2048 : Int32)) (by decide) ?_
  refine o_istoreN K X0 d_of4_5 (pc' := 6) rfl (L' := #[.val (.int (4 : Int32)), .val (.ref b), .val (.int (2048 : Int32)), .unset, .unset]) rfl ?_
  refine o_aloadN K X0 d_of4_6 (pc' := 7) rfl rfl rfl ?_
  refine o_arraylength K X0 q0 (z := (0 : Int32)) rfl d_of4_7 (pc' := 8) rfl ?_
  refine o_iloadN K X0 d_of4_8 (pc' := 9) rfl rfl ?_
  refine o_iadd K X0 d_of4_9 (pc' := 10) rfl (z := (2048 : Int32)) (by decide) ?_
  refine o_iconst K X0 d_of4_10 (pc' := 11) rfl (z := (1 : Int32)) rfl ?_
  refine o_isub K X0 d_of4_11 (pc' := 12) rfl (z := (2047 : Int32)) (by decide) ?_
  refine o_iloadN K X0 d_of4_12 (pc' := 13) rfl rfl ?_
  refine o_idiv K X0 d_of4_13 (pc' := 14) rfl (by decide) (z := (0 : Int32)) (by decide) ?_
  refine o_anewarrayA K X0 (ty := .long) 0 (by decide +kernel) (w5 hw) (w6 hw) (ad := "[[J") (by decide +kernel) (by decide) (by decide) (by decide) d_of4_14 (pc' := 17) rfl (by decide) (by decide) ?_
  intro T1 h1 b1 k1 X1 g1 E1 A1 B1 O1 G1
  replace A1 : oArr Z h1 b1 k1 (.array .long) [] := A1
  refine o_astoreN K X1 d_of4_17 (pc' := 18) rfl rfl (L' := #[.val (.int (4 : Int32)), .val (.ref b), .val (.int (2048 : Int32)), .val (.ref b1), .unset]) rfl ?_
  refine o_iconst K X1 d_of4_18 (pc' := 19) rfl (z := (0 : Int32)) rfl ?_
  refine o_istore K X1 d_of4_19 (pc' := 21) rfl (L' := #[.val (.int (4 : Int32)), .val (.ref b), .val (.int (2048 : Int32)), .val (.ref b1), .val (.int (0 : Int32))]) rfl ?_
  refine o_iload K X1 d_of4_21 (pc' := 23) rfl rfl ?_
  refine o_aloadN K X1 d_of4_23 (pc' := 24) rfl rfl rfl ?_
  refine o_arraylength K X1 A1 (z := (0 : Int32)) rfl d_of4_24 (pc' := 25) rfl ?_
  refine o_icmp_ge_t K X1 d_of4_25 (by decide) (pc' := 57) (by decide) (by decide) ?_
  refine o_new K X1 (w7 hw) (w8 hw) (w3 hw) d_of4_57 (pc' := 60) rfl (by decide) (by decide) ?_
  intro T2 h2 b2 X2 g2 E2 A2 D2 G2
  have F2_width : Fld Z h2 b2 "com/example/rosterlink/rosterlink/model/IdChunks" "width" "I" (.int (0 : Int32)) := (D2 (Or.inr (w16 hw)) (ty := .int) (by decide))
  have F2_chunks : Fld Z h2 b2 "com/example/rosterlink/rosterlink/model/IdChunks" "chunks" "[[J" .null := (D2 (Or.inr (w18 hw)) (ty := (.array (.array .long))) (by decide))
  have F2_size : Fld Z h2 b2 "com/example/rosterlink/rosterlink/model/IdChunks" "size" "I" (.int (0 : Int32)) := (D2 (Or.inr (w20 hw)) (ty := .int) (by decide))
  refine o_dup K X2 d_of4_60 (pc' := 61) rfl rfl ?_
  refine o_iloadN K X2 d_of4_61 (pc' := 62) rfl rfl ?_
  refine o_aloadN K X2 d_of4_62 (pc' := 63) rfl rfl rfl ?_
  refine o_aloadN K X2 d_of4_63 (pc' := 64) rfl rfl rfl ?_
  refine o_arraylength K X2 ((q0.ext E1).ext E2) (z := (0 : Int32)) rfl d_of4_64 (pc' := 65) rfl ?_
  refine o_iloadN K X2 d_of4_65 (pc' := 66) rfl rfl ?_
  refine o_idiv K X2 d_of4_66 (pc' := 67) rfl (by decide) (z := (0 : Int32)) (by decide) ?_
  refine o_special K X2 (y := (⟨"com/example/rosterlink/rosterlink/model/IdChunks", "<init>", "(I[[JI)V"⟩ : MethodName)) rfl (w9 hw) (w10 hw) (w3 hw) (w11 hw) (by decide) (rm_init l Z a0 hw b2 (4 : Int32) b1 (0 : Int32) h2 A2 F2_width F2_chunks F2_size G2) (by decide) rfl (argsL := [(.int (4 : Int32)), (.ref b1), (.int (0 : Int32))]) rfl (lenOf pd_of4_0 rfl) (W := 1) rfl (by decide) (by decide) (by decide) d_of4_67 (pc' := 70) rfl ?_
  intro v3 T3 h3 X3 U3
  obtain ⟨rfl, u3_0, u3_1, u3_2, u3_3, u3_4⟩ := U3
  show oGoes pp ee bb ss Z T3 (mkF mm 70 #[.val (.int (4 : Int32)), .val (.ref b), .val (.int (2048 : Int32)), .val (.ref b1), .val (.int (0 : Int32))] [(.ref b2)]) _ _ _
  refine o_areturn K X3 (t := (.object "com/example/rosterlink/rosterlink/model/IdChunks")) d_of4_70 rfl rfl rfl ?_ (by decide) (by decide)
  exact ⟨b2, b1, k1, rfl, ((((Keep.refl h0 []).ext E1).ext E2).trans u3_0 (allS (Or.inr (Nat.le_trans E1.1 (Nat.le_of_eq g2.symm))) all0)), (Nat.le_trans E1.1 (Nat.le_of_eq g2.symm)), u3_1, u3_2, u3_3, u3_4, (Nat.le_of_eq g1.symm), ((A1.ext E2).keep u3_0 (ninS (Nat.ne_of_lt (Nat.lt_of_lt_of_le A1.lt (Nat.le_of_eq g2.symm))) nin0)), O1⟩
theorem d_empty_0 : decode prog_25_method_2_code 0 = .ok (.new 8, 3) := by decide +kernel
theorem d_empty_3 : decode prog_25_method_2_code 3 = .ok (.dup, 1) := by decide +kernel
theorem d_empty_4 : decode prog_25_method_2_code 4 = .ok (.iload_n 0, 1) := by decide +kernel
theorem d_empty_5 : decode prog_25_method_2_code 5 = .ok (.iconst 0, 1) := by decide +kernel
theorem d_empty_6 : decode prog_25_method_2_code 6 = .ok (.anewarray 20, 3) := by decide +kernel
theorem d_empty_9 : decode prog_25_method_2_code 9 = .ok (.iconst 0, 1) := by decide +kernel
theorem d_empty_10 : decode prog_25_method_2_code 10 = .ok (.invokespecial 22, 3) := by decide +kernel
theorem d_empty_13 : decode prog_25_method_2_code 13 = .ok (.areturn, 1) := by decide +kernel
theorem pd_empty_0 : parseMethodDescriptor "(I[[JI)V" = some ⟨[.int, (.array (.array .long)), .int], none⟩ := by decide +kernel
def r_empty : Room := { frames := 2, cells := 2, slots := 3, locals := 28 }
def Q_empty (Z : State) (w : Int32) (h0 : Heap) (v : Option Value) (h : Heap) : Prop := ∃ r : Addr, ∃ ch : Addr, ∃ k : ClassId, v = some (.ref r) ∧ Keep h0 h [] ∧ h0.size ≤ r ∧ Exa Z h r "com/example/rosterlink/rosterlink/model/IdChunks" ∧ Fld Z h r "com/example/rosterlink/rosterlink/model/IdChunks" "width" "I" (.int w) ∧ Fld Z h r "com/example/rosterlink/rosterlink/model/IdChunks" "chunks" "[[J" (.ref ch) ∧ Fld Z h r "com/example/rosterlink/rosterlink/model/IdChunks" "size" "I" (.int (0 : Int32)) ∧ h0.size ≤ ch ∧ oArr Z h ch k (.array .long) [] ∧ OvrA Z k .long "[J"
set_option maxRecDepth 65536 in
set_option maxHeartbeats 40000000 in
theorem rm_empty (l : Launch) (Z : State) (a0 : Array Value) (hw : oHw Z a0) (w : Int32) (h0 : Heap) : oMet l Z (⟨"com/example/rosterlink/rosterlink/model/IdChunks", "empty", "(I)Lcom/example/rosterlink/rosterlink/model/IdChunks;"⟩ : MethodName) prog_25_method_2_code 1 (some (.object "com/example/rosterlink/rosterlink/model/IdChunks")) r_empty [] #[(.int w)] h0 (Q_empty Z w h0) := by
  refine oEnter (plainFor_of_name (by first | (simp [plainName, overriddenIn]; done) | decide +kernel)) (own := "com/example/rosterlink/rosterlink/model/IdChunks") (nm := "empty") rfl rfl (L := #[.val (.int w)]) (fun m => by first | (simp [entryFrame, mkF, argsToLocals, Value.category]; done) | rfl) ?_
  intro pp ee ss mm bb mtd cc T0 K X0
  have E0 := X0.ext0
  refine o_new K X0 (w7 hw) (w8 hw) (w3 hw) d_empty_0 (pc' := 3) rfl (by decide) (by decide) ?_
  intro T1 h1 b1 X1 g1 E1 A1 D1 G1
  have F1_width : Fld Z h1 b1 "com/example/rosterlink/rosterlink/model/IdChunks" "width" "I" (.int (0 : Int32)) := (D1 (Or.inr (w16 hw)) (ty := .int) (by decide))
  have F1_chunks : Fld Z h1 b1 "com/example/rosterlink/rosterlink/model/IdChunks" "chunks" "[[J" .null := (D1 (Or.inr (w18 hw)) (ty := (.array (.array .long))) (by decide))
  have F1_size : Fld Z h1 b1 "com/example/rosterlink/rosterlink/model/IdChunks" "size" "I" (.int (0 : Int32)) := (D1 (Or.inr (w20 hw)) (ty := .int) (by decide))
  refine o_dup K X1 d_empty_3 (pc' := 4) rfl rfl ?_
  refine o_iloadN K X1 d_empty_4 (pc' := 5) rfl rfl ?_
  refine o_iconst K X1 d_empty_5 (pc' := 6) rfl (z := (0 : Int32)) rfl ?_
  refine o_anewarrayA K X1 (ty := .long) 0 (by decide +kernel) (w5 hw) (w6 hw) (ad := "[[J") (by decide +kernel) (by decide) (by decide) (by decide) d_empty_6 (pc' := 9) rfl (by decide) (by decide) ?_
  intro T2 h2 b2 k2 X2 g2 E2 A2 B2 O2 G2
  replace A2 : oArr Z h2 b2 k2 (.array .long) [] := A2
  refine o_iconst K X2 d_empty_9 (pc' := 10) rfl (z := (0 : Int32)) rfl ?_
  refine o_special K X2 (y := (⟨"com/example/rosterlink/rosterlink/model/IdChunks", "<init>", "(I[[JI)V"⟩ : MethodName)) rfl (w9 hw) (w10 hw) (w3 hw) (w11 hw) (by decide) (rm_init l Z a0 hw b1 w b2 (0 : Int32) h2 (A1.ext E2) (F1_width.ext E2) (F1_chunks.ext E2) (F1_size.ext E2) G1) (by decide) rfl (argsL := [(.int w), (.ref b2), (.int (0 : Int32))]) rfl (lenOf pd_empty_0 rfl) (W := 1) rfl (by decide) (by decide) (by decide) d_empty_10 (pc' := 13) rfl ?_
  intro v3 T3 h3 X3 U3
  obtain ⟨rfl, u3_0, u3_1, u3_2, u3_3, u3_4⟩ := U3
  show oGoes pp ee bb ss Z T3 (mkF mm 13 #[.val (.int w)] [(.ref b1)]) _ _ _
  refine o_areturn K X3 (t := (.object "com/example/rosterlink/rosterlink/model/IdChunks")) d_empty_13 rfl rfl rfl ?_ (by decide) (by decide)
  exact ⟨b1, b2, k2, rfl, ((((Keep.refl h0 []).ext E1).ext E2).trans u3_0 (allS (Or.inr (Nat.le_of_eq g1.symm)) all0)), (Nat.le_of_eq g1.symm), u3_1, u3_2, u3_3, u3_4, (Nat.le_trans E1.1 (Nat.le_of_eq g2.symm)), (A2.keep u3_0 (ninS (Ne.symm (Nat.ne_of_lt (Nat.lt_of_lt_of_le A1.lt (Nat.le_of_eq g2.symm)))) nin0)), O2⟩
theorem d_size_0 : decode prog_25_method_4_code 0 = .ok (.aload_n 0, 1) := by decide +kernel
theorem d_size_1 : decode prog_25_method_4_code 1 = .ok (.getfield 17, 3) := by decide +kernel
theorem d_size_4 : decode prog_25_method_4_code 4 = .ok (.ireturn, 1) := by decide +kernel
def r_size : Room := { frames := 0, cells := 0, slots := 0, locals := 0 }
def Q_size (Z : State) (a : Addr) (s : Int32) (h0 : Heap) (v : Option Value) (h : Heap) : Prop := v = some (.int s) ∧ h0 = h
set_option maxRecDepth 65536 in
set_option maxHeartbeats 40000000 in
theorem rm_size (l : Launch) (Z : State) (a0 : Array Value) (hw : oHw Z a0) (a : Addr) (s : Int32) (h0 : Heap) (q0 : Fld Z h0 a "com/example/rosterlink/rosterlink/model/IdChunks" "size" "I" (.int s)) : oMet l Z (⟨"com/example/rosterlink/rosterlink/model/IdChunks", "size", "()I"⟩ : MethodName) prog_25_method_4_code 1 (some .int) r_size [] #[(.ref a)] h0 (Q_size Z a s h0) := by
  refine oEnter (plainFor_of_name (by first | (simp [plainName, overriddenIn]; done) | decide +kernel)) (own := "com/example/rosterlink/rosterlink/model/IdChunks") (nm := "size") rfl rfl (L := #[.val (.ref a)]) (fun m => by first | (simp [entryFrame, mkF, argsToLocals, Value.category]; done) | rfl) ?_
  intro pp ee ss mm bb mtd cc T0 K X0
  have E0 := X0.ext0
  refine o_aloadN K X0 d_size_0 (pc' := 1) rfl rfl rfl ?_
  refine o_getfield K X0 (host := "") (Or.inl (w19 hw)) Via.refl q0 d_size_1 (pc' := 4) rfl ?_
  intro T1 X1
  refine o_ireturn K X1 d_size_4 rfl ?_ (by decide) (by decide)
  exact ⟨rfl, rfl⟩
theorem d_cf0_0 : decode prog_25_method_17_code 0 = .ok (.iconst 0, 1) := by decide +kernel
theorem d_cf0_1 : decode prog_25_method_17_code 1 = .ok (.istore_n 3, 1) := by decide +kernel
theorem d_cf0_2 : decode prog_25_method_17_code 2 = .ok (.aload_n 0, 1) := by decide +kernel
theorem d_cf0_3 : decode prog_25_method_17_code 3 = .ok (.getfield 13, 3) := by decide +kernel
theorem d_cf0_6 : decode prog_25_method_17_code 6 = .ok (.arraylength, 1) := by decide +kernel
theorem d_cf0_7 : decode prog_25_method_17_code 7 = .ok (.istore 4, 2) := by decide +kernel
theorem d_cf0_9 : decode prog_25_method_17_code 9 = .ok (.iload_n 3, 1) := by decide +kernel
theorem d_cf0_10 : decode prog_25_method_17_code 10 = .ok (.iload 4, 2) := by decide +kernel
theorem d_cf0_12 : decode prog_25_method_17_code 12 = .ok (.if_icmp .ge 51, 3) := by decide +kernel
theorem d_cf0_63 : decode prog_25_method_17_code 63 = .ok (.iload_n 3, 1) := by decide +kernel
theorem d_cf0_64 : decode prog_25_method_17_code 64 = .ok (.ireturn, 1) := by decide +kernel
def r_cf0 : Room := { frames := 0, cells := 0, slots := 0, locals := 0 }
def Q_cf0 (Z : State) (a : Addr) (w : Int32) (c : Addr) (s : Int32) (kc : ClassId) (d : Int64) (h0 : Heap) (v : Option Value) (h : Heap) : Prop := v = some (.int (0 : Int32)) ∧ h0 = h
set_option maxRecDepth 65536 in
set_option maxHeartbeats 40000000 in
theorem rm_cf0 (l : Launch) (Z : State) (a0 : Array Value) (hw : oHw Z a0) (a : Addr) (w : Int32) (c : Addr) (s : Int32) (kc : ClassId) (d : Int64) (h0 : Heap) (q0 : Exa Z h0 a "com/example/rosterlink/rosterlink/model/IdChunks") (q1 : Fld Z h0 a "com/example/rosterlink/rosterlink/model/IdChunks" "width" "I" (.int w)) (q2 : Fld Z h0 a "com/example/rosterlink/rosterlink/model/IdChunks" "chunks" "[[J" (.ref c)) (q3 : Fld Z h0 a "com/example/rosterlink/rosterlink/model/IdChunks" "size" "I" (.int s)) (q4 : oArr Z h0 c kc (.array .long) []) : oMet l Z (⟨"com/example/rosterlink/rosterlink/model/IdChunks", "chunkFor", "(J)I"⟩ : MethodName) prog_25_method_17_code 7 (some .int) r_cf0 [] #[(.ref a), (.long d)] h0 (Q_cf0 Z a w c s kc d h0) := by
  refine oEnter (plainFor_of_name (by first | (simp [plainName, overriddenIn]; done) | decide +kernel)) (own := "com/example/rosterlink/rosterlink/model/IdChunks") (nm := "chunkFor") rfl rfl (L := #[.val (.ref a), .val (.long d), .second, .unset, .unset, .unset, .unset]) (fun m => by first | (simp [entryFrame, mkF, argsToLocals, Value.category]; done) | rfl) ?_
  intro pp ee ss mm bb mtd cc T0 K X0
  have E0 := X0.ext0
  refine o_iconst K X0 d_cf0_0 (pc' := 1) rfl (z := (0 : Int32)) rfl ?_
  refine o_istoreN K X0 d_cf0_1 (pc' := 2) rfl (L' := #[.val (.ref a), .val (.long d), .second, .val (.int (0 : Int32)), .unset, .unset, .unset]) rfl ?_
  refine o_aloadN K X0 d_cf0_2 (pc' := 3) rfl rfl rfl ?_
  refine o_getfield K X0 (host := "") (Or.inl (w17 hw)) Via.refl q2 d_cf0_3 (pc' := 6) rfl ?_
  intro T1 X1
  refine o_arraylength K X1 q4 (z := (0 : Int32)) rfl d_cf0_6 (pc' := 7) rfl ?_
  refine o_istore K X1 d_cf0_7 (pc' := 9) rfl (L' := #[.val (.ref a), .val (.long d), .second, .val (.int (0 : Int32)), .val (.int (0 : Int32)), .unset, .unset]) rfl ?_
  refine o_iloadN K X1 d_cf0_9 (pc' := 10) rfl rfl ?_
  refine o_iload K X1 d_cf0_10 (pc' := 12) rfl rfl ?_
  refine o_icmp_ge_t K X1 d_cf0_12 (by decide) (pc' := 63) (by decide) (by decide) ?_
  refine o_iloadN K X1 d_cf0_63 (pc' := 64) rfl rfl ?_
  refine o_ireturn K X1 d_cf0_64 rfl ?_ (by decide) (by decide)
  exact ⟨rfl, rfl⟩
theorem d_con0_0 : decode prog_25_method_5_code 0 = .ok (.aload_n 0, 1) := by decide +kernel
theorem d_con0_1 : decode prog_25_method_5_code 1 = .ok (.lload_n 1, 1) := by decide +kernel
theorem d_con0_2 : decode prog_25_method_5_code 2 = .ok (.invokevirtual 37, 3) := by decide +kernel
theorem d_con0_5 : decode prog_25_method_5_code 5 = .ok (.istore_n 3, 1) := by decide +kernel
theorem d_con0_6 : decode prog_25_method_5_code 6 = .ok (.iload_n 3, 1) := by decide +kernel
theorem d_con0_7 : decode prog_25_method_5_code 7 = .ok (.aload_n 0, 1) := by decide +kernel
theorem d_con0_8 : decode prog_25_method_5_code 8 = .ok (.getfield 13, 3) := by decide +kernel
theorem d_con0_11 : decode prog_25_method_5_code 11 = .ok (.arraylength, 1) := by decide +kernel
theorem d_con0_12 : decode prog_25_method_5_code 12 = .ok (.if_icmp .ge 21, 3) := by decide +kernel
theorem d_con0_33 : decode prog_25_method_5_code 33 = .ok (.iconst 0, 1) := by decide +kernel
theorem d_con0_34 : decode prog_25_method_5_code 34 = .ok (.ireturn, 1) := by decide +kernel
theorem pd_con0_0 : parseMethodDescriptor "(J)I" = some ⟨[.long], some .int⟩ := by decide +kernel
def r_con0 : Room := { frames := 1, cells := 0, slots := 0, locals := 18 }
def Q_con0 (Z : State) (a : Addr) (w : Int32) (c : Addr) (s : Int32) (kc : ClassId) (d : Int64) (h0 : Heap) (v : Option Value) (h : Heap) : Prop := v = some (.int (0 : Int32)) ∧ h0 = h
set_option maxRecDepth 65536 in
set_option maxHeartbeats 40000000 in
theorem rm_con0 (l : Launch) (Z : State) (a0 : Array Value) (hw : oHw Z a0) (a : Addr) (w : Int32) (c : Addr) (s : Int32) (kc : ClassId) (d : Int64) (h0 : Heap) (q0 : Exa Z h0 a "com/example/rosterlink/rosterlink/model/IdChunks") (q1 : Fld Z h0 a "com/example/rosterlink/rosterlink/model/IdChunks" "width" "I" (.int w)) (q2 : Fld Z h0 a "com/example/rosterlink/rosterlink/model/IdChunks" "chunks" "[[J" (.ref c)) (q3 : Fld Z h0 a "com/example/rosterlink/rosterlink/model/IdChunks" "size" "I" (.int s)) (q4 : oArr Z h0 c kc (.array .long) []) : oMet l Z (⟨"com/example/rosterlink/rosterlink/model/IdChunks", "contains", "(J)Z"⟩ : MethodName) prog_25_method_5_code 4 (some .boolean) r_con0 [] #[(.ref a), (.long d)] h0 (Q_con0 Z a w c s kc d h0) := by
  refine oEnter (plainFor_of_name (by first | (simp [plainName, overriddenIn]; done) | decide +kernel)) (own := "com/example/rosterlink/rosterlink/model/IdChunks") (nm := "contains") rfl rfl (L := #[.val (.ref a), .val (.long d), .second, .unset]) (fun m => by first | (simp [entryFrame, mkF, argsToLocals, Value.category]; done) | rfl) ?_
  intro pp ee ss mm bb mtd cc T0 K X0
  have E0 := X0.ext0
  refine o_aloadN K X0 d_con0_0 (pc' := 1) rfl rfl rfl ?_
  refine o_lloadN K X0 d_con0_1 (pc' := 2) rfl rfl ?_
  refine o_private K X0 (y := (⟨"com/example/rosterlink/rosterlink/model/IdChunks", "chunkFor", "(J)I"⟩ : MethodName)) (w34 hw) (w35 hw) (oSelects (w8 hw) (w35 hw) (w36 hw) (by decide)) (w36 hw) (w3 hw) (w37 hw) (by decide) q0 (rm_cf0 l Z a0 hw a w c s kc d h0 q0 q1 q2 q3 q4) (by decide) rfl (argsL := [(.long d)]) rfl (lenOf pd_con0_0 rfl) (W := 0) rfl (by decide) (by decide) (by decide) d_con0_2 (pc' := 5) rfl ?_
  intro v1 T1 h1 X1 U1
  obtain ⟨rfl, rfl⟩ := U1
  show oGoes pp ee bb ss Z T1 (mkF mm 5 #[.val (.ref a), .val (.long d), .second, .unset] [(.int (0 : Int32))]) _ _ _
  refine o_istoreN K X1 d_con0_5 (pc' := 6) rfl (L' := #[.val (.ref a), .val (.long d), .second, .val (.int (0 : Int32))]) rfl ?_
  refine o_iloadN K X1 d_con0_6 (pc' := 7) rfl rfl ?_
  refine o_aloadN K X1 d_con0_7 (pc' := 8) rfl rfl rfl ?_
  refine o_getfield K X1 (host := "") (Or.inl (w17 hw)) Via.refl q2 d_con0_8 (pc' := 11) rfl ?_
  intro T2 X2
  refine o_arraylength K X2 q4 (z := (0 : Int32)) rfl d_con0_11 (pc' := 12) rfl ?_
  refine o_icmp_ge_t K X2 d_con0_12 (by decide) (pc' := 33) (by decide) (by decide) ?_
  refine o_iconst K X2 d_con0_33 (pc' := 34) rfl (z := (0 : Int32)) rfl ?_
  refine o_ireturnN K X2 .boolean d_con0_34 rfl (by simp) (z' := (0 : Int32)) (by decide) ?_ (by decide) (by decide)
  exact ⟨rfl, rfl⟩
theorem d_get0_0 : decode prog_25_method_6_code 0 = .ok (.aload_n 0, 1) := by decide +kernel
theorem d_get0_1 : decode prog_25_method_6_code 1 = .ok (.lload_n 1, 1) := by decide +kernel
theorem d_get0_2 : decode prog_25_method_6_code 2 = .ok (.invokevirtual 37, 3) := by decide +kernel
theorem d_get0_5 : decode prog_25_method_6_code 5 = .ok (.istore_n 3, 1) := by decide +kernel
theorem d_get0_6 : decode prog_25_method_6_code 6 = .ok (.iload_n 3, 1) := by decide +kernel
theorem d_get0_7 : decode prog_25_method_6_code 7 = .ok (.aload_n 0, 1) := by decide +kernel
theorem d_get0_8 : decode prog_25_method_6_code 8 = .ok (.getfield 13, 3) := by decide +kernel
theorem d_get0_11 : decode prog_25_method_6_code 11 = .ok (.arraylength, 1) := by decide +kernel
theorem d_get0_12 : decode prog_25_method_6_code 12 = .ok (.if_icmp .ne 5, 3) := by decide +kernel
theorem d_get0_15 : decode prog_25_method_6_code 15 = .ok (.aconst_null, 1) := by decide +kernel
theorem d_get0_16 : decode prog_25_method_6_code 16 = .ok (.areturn, 1) := by decide +kernel
theorem pd_get0_0 : parseMethodDescriptor "(J)I" = some ⟨[.long], some .int⟩ := by decide +kernel
def r_get0 : Room := { frames := 1, cells := 0, slots := 0, locals := 18 }
def Q_get0 (Z : State) (a : Addr) (w : Int32) (c : Addr) (s : Int32) (kc : ClassId) (d : Int64) (h0 : Heap) (v : Option Value) (h : Heap) : Prop := v = some .null ∧ h0 = h
set_option maxRecDepth 65536 in
set_option maxHeartbeats 40000000 in
theorem rm_get0 (l : Launch) (Z : State) (a0 : Array Value) (hw : oHw Z a0) (a : Addr) (w : Int32) (c : Addr) (s : Int32) (kc : ClassId) (d : Int64) (h0 : Heap) (q0 : Exa Z h0 a "com/example/rosterlink/rosterlink/model/IdChunks") (q1 : Fld Z h0 a "com/example/rosterlink/rosterlink/model/IdChunks" "width" "I" (.int w)) (q2 : Fld Z h0 a "com/example/rosterlink/rosterlink/model/IdChunks" "chunks" "[[J" (.ref c)) (q3 : Fld Z h0 a "com/example/rosterlink/rosterlink/model/IdChunks" "size" "I" (.int s)) (q4 : oArr Z h0 c kc (.array .long) []) : oMet l Z (⟨"com/example/rosterlink/rosterlink/model/IdChunks", "get", "(J)[J"⟩ : MethodName) prog_25_method_6_code 5 (some (.array .long)) r_get0 [] #[(.ref a), (.long d)] h0 (Q_get0 Z a w c s kc d h0) := by
  refine oEnter (plainFor_of_name (by first | (simp [plainName, overriddenIn]; done) | decide +kernel)) (own := "com/example/rosterlink/rosterlink/model/IdChunks") (nm := "get") rfl rfl (L := #[.val (.ref a), .val (.long d), .second, .unset, .unset]) (fun m => by first | (simp [entryFrame, mkF, argsToLocals, Value.category]; done) | rfl) ?_
  intro pp ee ss mm bb mtd cc T0 K X0
  have E0 := X0.ext0
  refine o_aloadN K X0 d_get0_0 (pc' := 1) rfl rfl rfl ?_
  refine o_lloadN K X0 d_get0_1 (pc' := 2) rfl rfl ?_
  refine o_private K X0 (y := (⟨"com/example/rosterlink/rosterlink/model/IdChunks", "chunkFor", "(J)I"⟩ : MethodName)) (w34 hw) (w35 hw) (oSelects (w8 hw) (w35 hw) (w36 hw) (by decide)) (w36 hw) (w3 hw) (w37 hw) (by decide) q0 (rm_cf0 l Z a0 hw a w c s kc d h0 q0 q1 q2 q3 q4) (by decide) rfl (argsL := [(.long d)]) rfl (lenOf pd_get0_0 rfl) (W := 0) rfl (by decide) (by decide) (by decide) d_get0_2 (pc' := 5) rfl ?_
  intro v1 T1 h1 X1 U1
  obtain ⟨rfl, rfl⟩ := U1
  show oGoes pp ee bb ss Z T1 (mkF mm 5 #[.val (.ref a), .val (.long d), .second, .unset, .unset] [(.int (0 : Int32))]) _ _ _
  refine o_istoreN K X1 d_get0_5 (pc' := 6) rfl (L' := #[.val (.ref a), .val (.long d), .second, .val (.int (0 : Int32)), .unset]) rfl ?_
  refine o_iloadN K X1 d_get0_6 (pc' := 7) rfl rfl ?_
  refine o_aloadN K X1 d_get0_7 (pc' := 8) rfl rfl rfl ?_
  refine o_getfield K X1 (host := "") (Or.inl (w17 hw)) Via.refl q2 d_get0_8 (pc' := 11) rfl ?_
  intro T2 X2
  refine o_arraylength K X2 q4 (z := (0 : Int32)) rfl d_get0_11 (pc' := 12) rfl ?_
  refine o_icmp_ne_f K X2 d_get0_12 (pc' := 15) rfl (by decide) ?_
  refine o_aconst_null K X2 d_get0_15 (pc' := 16) rfl ?_
  refine o_areturn K X2 (t := (.array .long)) d_get0_16 rfl rfl rfl ?_ (by decide) (by decide)
  exact ⟨rfl, rfl⟩
theorem d_wo0_0 : decode prog_25_method_8_code 0 = .ok (.aload_n 0, 1) := by decide +kernel
theorem d_wo0_1 : decode prog_25_method_8_code 1 = .ok (.lload_n 1, 1) := by decide +kernel
theorem d_wo0_2 : decode prog_25_method_8_code 2 = .ok (.invokevirtual 37, 3) := by decide +kernel
theorem d_wo0_5 : decode prog_25_method_8_code 5 = .ok (.istore_n 3, 1) := by decide +kernel
theorem d_wo0_6 : decode prog_25_method_8_code 6 = .ok (.iload_n 3, 1) := by decide +kernel
theorem d_wo0_7 : decode prog_25_method_8_code 7 = .ok (.aload_n 0, 1) := by decide +kernel
theorem d_wo0_8 : decode prog_25_method_8_code 8 = .ok (.getfield 13, 3) := by decide +kernel
theorem d_wo0_11 : decode prog_25_method_8_code 11 = .ok (.arraylength, 1) := by decide +kernel
theorem d_wo0_12 : decode prog_25_method_8_code 12 = .ok (.if_icmp .ne 5, 3) := by decide +kernel
theorem d_wo0_15 : decode prog_25_method_8_code 15 = .ok (.aload_n 0, 1) := by decide +kernel
theorem d_wo0_16 : decode prog_25_method_8_code 16 = .ok (.areturn, 1) := by decide +kernel
theorem pd_wo0_0 : parseMethodDescriptor "(J)I" = some ⟨[.long], some .int⟩ := by decide +kernel
def r_wo0 : Room := { frames := 1, cells := 0, slots := 0, locals := 18 }
def Q_wo0 (Z : State) (a : Addr) (w : Int32) (c : Addr) (s : Int32) (kc : ClassId) (d : Int64) (h0 : Heap) (v : Option Value) (h : Heap) : Prop := v = some (.ref a) ∧ h0 = h
set_option maxRecDepth 65536 in
set_option maxHeartbeats 40000000 in
theorem rm_wo0 (l : Launch) (Z : State) (a0 : Array Value) (hw : oHw Z a0) (a : Addr) (w : Int32) (c : Addr) (s : Int32) (kc : ClassId) (d : Int64) (h0 : Heap) (q0 : Exa Z h0 a "com/example/rosterlink/rosterlink/model/IdChunks") (q1 : Fld Z h0 a "com/example/rosterlink/rosterlink/model/IdChunks" "width" "I" (.int w)) (q2 : Fld Z h0 a "com/example/rosterlink/rosterlink/model/IdChunks" "chunks" "[[J" (.ref c)) (q3 : Fld Z h0 a "com/example/rosterlink/rosterlink/model/IdChunks" "size" "I" (.int s)) (q4 : oArr Z h0 c kc (.array .long) []) : oMet l Z (⟨"com/example/rosterlink/rosterlink/model/IdChunks", "without", "(J)Lcom/example/rosterlink/rosterlink/model/IdChunks;"⟩ : MethodName) prog_25_method_8_code 10 (some (.object "com/example/rosterlink/rosterlink/model/IdChunks")) r_wo0 [] #[(.ref a), (.long d)] h0 (Q_wo0 Z a w c s kc d h0) := by
  refine oEnter (plainFor_of_name (by first | (simp [plainName, overriddenIn]; done) | decide +kernel)) (own := "com/example/rosterlink/rosterlink/model/IdChunks") (nm := "without") rfl rfl (L := #[.val (.ref a), .val (.long d), .second, .unset, .unset, .unset, .unset, .unset, .unset, .unset]) (fun m => by first | (simp [entryFrame, mkF, argsToLocals, Value.category]; done) | rfl) ?_
  intro pp ee ss mm bb mtd cc T0 K X0
  have E0 := X0.ext0
  refine o_aloadN K X0 d_wo0_0 (pc' := 1) rfl rfl rfl ?_
  refine o_lloadN K X0 d_wo0_1 (pc' := 2) rfl rfl ?_
  refine o_private K X0 (y := (⟨"com/example/rosterlink/rosterlink/model/IdChunks", "chunkFor", "(J)I"⟩ : MethodName)) (w34 hw) (w35 hw) (oSelects (w8 hw) (w35 hw) (w36 hw) (by decide)) (w36 hw) (w3 hw) (w37 hw) (by decide) q0 (rm_cf0 l Z a0 hw a w c s kc d h0 q0 q1 q2 q3 q4) (by decide) rfl (argsL := [(.long d)]) rfl (lenOf pd_wo0_0 rfl) (W := 0) rfl (by decide) (by decide) (by decide) d_wo0_2 (pc' := 5) rfl ?_
  intro v1 T1 h1 X1 U1
  obtain ⟨rfl, rfl⟩ := U1
  show oGoes pp ee bb ss Z T1 (mkF mm 5 #[.val (.ref a), .val (.long d), .second, .unset, .unset, .unset, .unset, .unset, .unset, .unset] [(.int (0 : Int32))]) _ _ _
  refine o_istoreN K X1 d_wo0_5 (pc' := 6) rfl (L' := #[.val (.ref a), .val (.long d), .second, .val (.int (0 : Int32)), .unset, .unset, .unset, .unset, .unset, .unset]) rfl ?_
  refine o_iloadN K X1 d_wo0_6 (pc' := 7) rfl rfl ?_
  refine o_aloadN K X1 d_wo0_7 (pc' := 8) rfl rfl rfl ?_
  refine o_getfield K X1 (host := "") (Or.inl (w17 hw)) Via.refl q2 d_wo0_8 (pc' := 11) rfl ?_
  intro T2 X2
  refine o_arraylength K X2 q4 (z := (0 : Int32)) rfl d_wo0_11 (pc' := 12) rfl ?_
  refine o_icmp_ne_f K X2 d_wo0_12 (pc' := 15) rfl (by decide) ?_
  refine o_aloadN K X2 d_wo0_15 (pc' := 16) rfl rfl rfl ?_
  refine o_areturn K X2 (t := (.object "com/example/rosterlink/rosterlink/model/IdChunks")) d_wo0_16 rfl rfl rfl ?_ (by decide) (by decide)
  exact ⟨rfl, rfl⟩
theorem d_lay0_0 : decode prog_25_method_16_code 0 = .ok (.aload_n 1, 1) := by decide +kernel
theorem d_lay0_1 : decode prog_25_method_16_code 1 = .ok (.getfield 13, 3) := by decide +kernel
theorem d_lay0_4 : decode prog_25_method_16_code 4 = .ok (.arraylength, 1) := by decide +kernel
theorem d_lay0_5 : decode prog_25_method_16_code 5 = .ok (.aload_n 0, 1) := by decide +kernel
theorem d_lay0_6 : decode prog_25_method_16_code 6 = .ok (.getfield 13, 3) := by decide +kernel
theorem d_lay0_9 : decode prog_25_method_16_code 9 = .ok (.arraylength, 1) := by decide +kernel
theorem d_lay0_10 : decode prog_25_method_16_code 10 = .ok (.if_icmp .eq 5, 3) := by decide +kernel
theorem d_lay0_15 : decode prog_25_method_16_code 15 = .ok (.iconst 0, 1) := by decide +kernel
theorem d_lay0_16 : decode prog_25_method_16_code 16 = .ok (.istore_n 2, 1) := by decide +kernel
theorem d_lay0_17 : decode prog_25_method_16_code 17 = .ok (.iload_n 2, 1) := by decide +kernel
theorem d_lay0_18 : decode prog_25_method_16_code 18 = .ok (.aload_n 0, 1) := by decide +kernel
theorem d_lay0_19 : decode prog_25_method_16_code 19 = .ok (.getfield 13, 3) := by decide +kernel
theorem d_lay0_22 : decode prog_25_method_16_code 22 = .ok (.arraylength, 1) := by decide +kernel
theorem d_lay0_23 : decode prog_25_method_16_code 23 = .ok (.if_icmp .ge 28, 3) := by decide +kernel
theorem d_lay0_51 : decode prog_25_method_16_code 51 = .ok (.iconst 1, 1) := by decide +kernel
theorem d_lay0_52 : decode prog_25_method_16_code 52 = .ok (.ireturn, 1) := by decide +kernel
def r_lay0 : Room := { frames := 0, cells := 0, slots := 0, locals := 0 }
def Q_lay0 (Z : State) (a : Addr) (w : Int32) (c : Addr) (s : Int32) (kc : ClassId) (b : Addr) (c2 : Addr) (kc2 : ClassId) (h0 : Heap) (v : Option Value) (h : Heap) : Prop := v = some (.int (1 : Int32)) ∧ h0 = h
set_option maxRecDepth 65536 in
set_option maxHeartbeats 40000000 in
theorem rm_lay0 (l : Launch) (Z : State) (a0 : Array Value) (hw : oHw Z a0) (a : Addr) (w : Int32) (c : Addr) (s : Int32) (kc : ClassId) (b : Addr) (c2 : Addr) (kc2 : ClassId) (h0 : Heap) (q0 : Exa Z h0 a "com/example/rosterlink/rosterlink/model/IdChunks") (q1 : Fld Z h0 a "com/example/rosterlink/rosterlink/model/IdChunks" "width" "I" (.int w)) (q2 : Fld Z h0 a "com/example/rosterlink/rosterlink/model/IdChunks" "chunks" "[[J" (.ref c)) (q3 : Fld Z h0 a "com/example/rosterlink/rosterlink/model/IdChunks" "size" "I" (.int s)) (q4 : oArr Z h0 c kc (.array .long) []) (q5 : Exa Z h0 b "com/example/rosterlink/rosterlink/model/IdChunks") (q6 : Fld Z h0 b "com/example/rosterlink/rosterlink/model/IdChunks" "width" "I" (.int w)) (q7 : Fld Z h0 b "com/example/rosterlink/rosterlink/model/IdChunks" "chunks" "[[J" (.ref c2)) (q8 : Fld Z h0 b "com/example/rosterlink/rosterlink/model/IdChunks" "size" "I" (.int s)) (q9 : oArr Z h0 c2 kc2 (.array .long) []) : oMet l Z (⟨"com/example/rosterlink/rosterlink/model/IdChunks", "sameLayout", "(Lcom/example/rosterlink/rosterlink/model/IdChunks;)Z"⟩ : MethodName) prog_25_method_16_code 3 (some .boolean) r_lay0 [] #[(.ref a), (.ref b)] h0 (Q_lay0 Z a w c s kc b c2 kc2 h0) := by
  refine oEnter (plainFor_of_name (by first | (simp [plainName, overriddenIn]; done) | decide +kernel)) (own := "com/example/rosterlink/rosterlink/model/IdChunks") (nm := "sameLayout") rfl rfl (L := #[.val (.ref a), .val (.ref b), .unset]) (fun m => by first | (simp [entryFrame, mkF, argsToLocals, Value.category]; done) | rfl) ?_
  intro pp ee ss mm bb mtd cc T0 K X0
  have E0 := X0.ext0
  refine o_aloadN K X0 d_lay0_0 (pc' := 1) rfl rfl rfl ?_
  refine o_getfield K X0 (host := "") (Or.inl (w17 hw)) Via.refl q7 d_lay0_1 (pc' := 4) rfl ?_
  intro T1 X1
  refine o_arraylength K X1 q9 (z := (0 : Int32)) rfl d_lay0_4 (pc' := 5) rfl ?_
  refine o_aloadN K X1 d_lay0_5 (pc' := 6) rfl rfl rfl ?_
  refine o_getfield K X1 (host := "") (Or.inl (w17 hw)) Via.refl q2 d_lay0_6 (pc' := 9) rfl ?_
  intro T2 X2
  refine o_arraylength K X2 q4 (z := (0 : Int32)) rfl d_lay0_9 (pc' := 10) rfl ?_
  refine o_icmp_eq_t K X2 d_lay0_10 (by decide) (pc' := 15) (by decide) (by decide) ?_
  refine o_iconst K X2 d_lay0_15 (pc' := 16) rfl (z := (0 : Int32)) rfl ?_
  refine o_istoreN K X2 d_lay0_16 (pc' := 17) rfl (L' := #[.val (.ref a), .val (.ref b), .val (.int (0 : Int32))]) rfl ?_
  refine o_iloadN K X2 d_lay0_17 (pc' := 18) rfl rfl ?_
  refine o_aloadN K X2 d_lay0_18 (pc' := 19) rfl rfl rfl ?_
  refine o_getfield K X2 (host := "") (Or.inl (w17 hw)) Via.refl q2 d_lay0_19 (pc' := 22) rfl ?_
  intro T3 X3
  refine o_arraylength K X3 q4 (z := (0 : Int32)) rfl d_lay0_22 (pc' := 23) rfl ?_
  refine o_icmp_ge_t K X3 d_lay0_23 (by decide) (pc' := 51) (by decide) (by decide) ?_
  refine o_iconst K X3 d_lay0_51 (pc' := 52) rfl (z := (1 : Int32)) rfl ?_
  refine o_ireturnN K X3 .boolean d_lay0_52 rfl (by simp) (z' := (1 : Int32)) (by decide) ?_ (by decide) (by decide)
  exact ⟨rfl, rfl⟩
theorem d_eq0_0 : decode prog_25_method_13_code 0 = .ok (.aload_n 0, 1) := by decide +kernel
theorem d_eq0_1 : decode prog_25_method_13_code 1 = .ok (.aload_n 1, 1) := by decide +kernel
theorem d_eq0_2 : decode prog_25_method_13_code 2 = .ok (.if_acmp .ne 5, 3) := by decide +kernel
theorem d_eq0_7 : decode prog_25_method_13_code 7 = .ok (.aload_n 1, 1) := by decide +kernel
theorem d_eq0_8 : decode prog_25_method_13_code 8 = .ok (.instanceof 8, 3) := by decide +kernel
theorem d_eq0_11 : decode prog_25_method_13_code 11 = .ok (.ifCond .eq 30, 3) := by decide +kernel
theorem d_eq0_14 : decode prog_25_method_13_code 14 = .ok (.aload_n 1, 1) := by decide +kernel
theorem d_eq0_15 : decode prog_25_method_13_code 15 = .ok (.checkcast 8, 3) := by decide +kernel
theorem d_eq0_18 : decode prog_25_method_13_code 18 = .ok (.astore_n 2, 1) := by decide +kernel
theorem d_eq0_19 : decode prog_25_method_13_code 19 = .ok (.aload_n 2, 1) := by decide +kernel
theorem d_eq0_20 : decode prog_25_method_13_code 20 = .ok (.getfield 7, 3) := by decide +kernel
theorem d_eq0_23 : decode prog_25_method_13_code 23 = .ok (.aload_n 0, 1) := by decide +kernel
theorem d_eq0_24 : decode prog_25_method_13_code 24 = .ok (.getfield 7, 3) := by decide +kernel
theorem d_eq0_27 : decode prog_25_method_13_code 27 = .ok (.if_icmp .ne 14, 3) := by decide +kernel
theorem d_eq0_30 : decode prog_25_method_13_code 30 = .ok (.aload_n 2, 1) := by decide +kernel
theorem d_eq0_31 : decode prog_25_method_13_code 31 = .ok (.getfield 17, 3) := by decide +kernel
theorem d_eq0_34 : decode prog_25_method_13_code 34 = .ok (.aload_n 0, 1) := by decide +kernel
theorem d_eq0_35 : decode prog_25_method_13_code 35 = .ok (.getfield 17, 3) := by decide +kernel
theorem d_eq0_38 : decode prog_25_method_13_code 38 = .ok (.if_icmp .eq 5, 3) := by decide +kernel
theorem d_eq0_43 : decode prog_25_method_13_code 43 = .ok (.aload_n 0, 1) := by decide +kernel
theorem d_eq0_44 : decode prog_25_method_13_code 44 = .ok (.aload_n 2, 1) := by decide +kernel
theorem d_eq0_45 : decode prog_25_method_13_code 45 = .ok (.invokevirtual 97, 3) := by decide +kernel
theorem d_eq0_48 : decode prog_25_method_13_code 48 = .ok (.ifCond .eq 42, 3) := by decide +kernel
theorem d_eq0_51 : decode prog_25_method_13_code 51 = .ok (.iconst 0, 1) := by decide +kernel
theorem d_eq0_52 : decode prog_25_method_13_code 52 = .ok (.istore_n 3, 1) := by decide +kernel
theorem d_eq0_53 : decode prog_25_method_13_code 53 = .ok (.iload_n 3, 1) := by decide +kernel
theorem d_eq0_54 : decode prog_25_method_13_code 54 = .ok (.aload_n 0, 1) := by decide +kernel
theorem d_eq0_55 : decode prog_25_method_13_code 55 = .ok (.getfield 13, 3) := by decide +kernel
theorem d_eq0_58 : decode prog_25_method_13_code 58 = .ok (.arraylength, 1) := by decide +kernel
theorem d_eq0_59 : decode prog_25_method_13_code 59 = .ok (.if_icmp .ge 29, 3) := by decide +kernel
theorem d_eq0_88 : decode prog_25_method_13_code 88 = .ok (.iconst 1, 1) := by decide +kernel
theorem d_eq0_89 : decode prog_25_method_13_code 89 = .ok (.ireturn, 1) := by decide +kernel
theorem pd_eq0_0 : parseMethodDescriptor "(Lcom/example/rosterlink/rosterlink/model/IdChunks;)Z" = some ⟨[(.object "com/example/rosterlink/rosterlink/model/IdChunks")], some .boolean⟩ := by decide +kernel
def r_eq0 : Room := { frames := 1, cells := 0, slots := 0, locals := 14 }
def Q_eq0 (Z : State) (a : Addr) (w : Int32) (c : Addr) (s : Int32) (kc : ClassId) (b : Addr) (c2 : Addr) (kc2 : ClassId) (h0 : Heap) (v : Option Value) (h : Heap) : Prop := v = some (.int (1 : Int32)) ∧ h0 = h
set_option maxRecDepth 65536 in
set_option maxHeartbeats 40000000 in
theorem rm_eq0 (l : Launch) (Z : State) (a0 : Array Value) (hw : oHw Z a0) (a : Addr) (w : Int32) (c : Addr) (s : Int32) (kc : ClassId) (b : Addr) (c2 : Addr) (kc2 : ClassId) (h0 : Heap) (q0 : Exa Z h0 a "com/example/rosterlink/rosterlink/model/IdChunks") (q1 : Fld Z h0 a "com/example/rosterlink/rosterlink/model/IdChunks" "width" "I" (.int w)) (q2 : Fld Z h0 a "com/example/rosterlink/rosterlink/model/IdChunks" "chunks" "[[J" (.ref c)) (q3 : Fld Z h0 a "com/example/rosterlink/rosterlink/model/IdChunks" "size" "I" (.int s)) (q4 : oArr Z h0 c kc (.array .long) []) (q5 : Exa Z h0 b "com/example/rosterlink/rosterlink/model/IdChunks") (q6 : Fld Z h0 b "com/example/rosterlink/rosterlink/model/IdChunks" "width" "I" (.int w)) (q7 : Fld Z h0 b "com/example/rosterlink/rosterlink/model/IdChunks" "chunks" "[[J" (.ref c2)) (q8 : Fld Z h0 b "com/example/rosterlink/rosterlink/model/IdChunks" "size" "I" (.int s)) (q9 : oArr Z h0 c2 kc2 (.array .long) []) (q10 : a ≠ b) : oMet l Z (⟨"com/example/rosterlink/rosterlink/model/IdChunks", "equals", "(Ljava/lang/Object;)Z"⟩ : MethodName) prog_25_method_13_code 4 (some .boolean) r_eq0 [] #[(.ref a), (.ref b)] h0 (Q_eq0 Z a w c s kc b c2 kc2 h0) := by
  refine oEnter (plainFor_of_name (by first | (simp [plainName, overriddenIn]; done) | decide +kernel)) (own := "com/example/rosterlink/rosterlink/model/IdChunks") (nm := "equals") rfl rfl (L := #[.val (.ref a), .val (.ref b), .unset, .unset]) (fun m => by first | (simp [entryFrame, mkF, argsToLocals, Value.category]; done) | rfl) ?_
  intro pp ee ss mm bb mtd cc T0 K X0
  have E0 := X0.ext0
  refine o_aloadN K X0 d_eq0_0 (pc' := 1) rfl rfl rfl ?_
  refine o_aloadN K X0 d_eq0_1 (pc' := 2) rfl rfl rfl ?_
  refine o_acmp K X0 false d_eq0_2 (by decide) rfl rfl (decide_eq_false fun q => q10 (Value.ref.inj q)) (pc' := 7) (by decide) ?_
  refine o_aloadN K X0 d_eq0_7 (pc' := 8) rfl rfl rfl ?_
  refine o_instanceof K X0 (w7 hw) (Ins.self q5) d_eq0_8 (pc' := 11) rfl ?_
  intro T1 X1
  refine o_if_eq_f K X1 d_eq0_11 (pc' := 14) rfl (by decide) ?_
  refine o_aloadN K X1 d_eq0_14 (pc' := 15) rfl rfl rfl ?_
  refine o_checkcast K X1 (w7 hw) (Ins.self q5) d_eq0_15 (pc' := 18) rfl ?_
  intro T2 X2
  refine o_astoreN K X2 d_eq0_18 (pc' := 19) rfl rfl (L' := #[.val (.ref a), .val (.ref b), .val (.ref b), .unset]) rfl ?_
  refine o_aloadN K X2 d_eq0_19 (pc' := 20) rfl rfl rfl ?_
  refine o_getfield K X2 (host := "") (Or.inl (w15 hw)) Via.refl q6 d_eq0_20 (pc' := 23) rfl ?_
  intro T3 X3
  refine o_aloadN K X3 d_eq0_23 (pc' := 24) rfl rfl rfl ?_
  refine o_getfield K X3 (host := "") (Or.inl (w15 hw)) Via.refl q1 d_eq0_24 (pc' := 27) rfl ?_
  intro T4 X4
  refine o_icmp_ne_f K X4 d_eq0_27 (pc' := 30) rfl rfl ?_
  refine o_aloadN K X4 d_eq0_30 (pc' := 31) rfl rfl rfl ?_
  refine o_getfield K X4 (host := "") (Or.inl (w19 hw)) Via.refl q8 d_eq0_31 (pc' := 34) rfl ?_
  intro T5 X5
  refine o_aloadN K X5 d_eq0_34 (pc' := 35) rfl rfl rfl ?_
  refine o_getfield K X5 (host := "") (Or.inl (w19 hw)) Via.refl q3 d_eq0_35 (pc' := 38) rfl ?_
  intro T6 X6
  refine o_icmp_eq_t K X6 d_eq0_38 (by decide) (pc' := 43) (by decide) rfl ?_
  refine o_aloadN K X6 d_eq0_43 (pc' := 44) rfl rfl rfl ?_
  refine o_aloadN K X6 d_eq0_44 (pc' := 45) rfl rfl rfl ?_
  refine o_private K X6 (y := (⟨"com/example/rosterlink/rosterlink/model/IdChunks", "sameLayout", "(Lcom/example/rosterlink/rosterlink/model/IdChunks;)Z"⟩ : MethodName)) (w54 hw) (w55 hw) (oSelects (w8 hw) (w55 hw) (w56 hw) (by decide)) (w56 hw) (w3 hw) (w57 hw) (by decide) q0 (rm_lay0 l Z a0 hw a w c s kc b c2 kc2 h0 q0 q1 q2 q3 q4 q5 q6 q7 q8 q9) (by decide) rfl (argsL := [(.ref b)]) rfl (lenOf pd_eq0_0 rfl) (W := 0) rfl (by decide) (by decide) (by decide) d_eq0_45 (pc' := 48) rfl ?_
  intro v7 T7 h7 X7 U7
  obtain ⟨rfl, rfl⟩ := U7
  show oGoes pp ee bb ss Z T7 (mkF mm 48 #[.val (.ref a), .val (.ref b), .val (.ref b), .unset] [(.int (1 : Int32))]) _ _ _
  refine o_if_eq_f K X7 d_eq0_48 (pc' := 51) rfl (by decide) ?_
  refine o_iconst K X7 d_eq0_51 (pc' := 52) rfl (z := (0 : Int32)) rfl ?_
  refine o_istoreN K X7 d_eq0_52 (pc' := 53) rfl (L' := #[.val (.ref a), .val (.ref b), .val (.ref b), .val (.int (0 : Int32))]) rfl ?_
  refine o_iloadN K X7 d_eq0_53 (pc' := 54) rfl rfl ?_
  refine o_aloadN K X7 d_eq0_54 (pc' := 55) rfl rfl rfl ?_
  refine o_getfield K X7 (host := "") (Or.inl (w17 hw)) Via.refl q2 d_eq0_55 (pc' := 58) rfl ?_
  intro T8 X8
  refine o_arraylength K X8 q4 (z := (0 : Int32)) rfl d_eq0_58 (pc' := 59) rfl ?_
  refine o_icmp_ge_t K X8 d_eq0_59 (by decide) (pc' := 88) (by decide) (by decide) ?_
  refine o_iconst K X8 d_eq0_88 (pc' := 89) rfl (z := (1 : Int32)) rfl ?_
  refine o_ireturnN K X8 .boolean d_eq0_89 rfl (by simp) (z' := (1 : Int32)) (by decide) ?_ (by decide) (by decide)
  exact ⟨rfl, rfl⟩
theorem d_with1_0 : decode prog_25_method_7_code 0 = .ok (.aload_n 0, 1) := by decide +kernel
theorem d_with1_1 : decode prog_25_method_7_code 1 = .ok (.getfield 13, 3) := by decide +kernel
theorem d_with1_4 : decode prog_25_method_7_code 4 = .ok (.arraylength, 1) := by decide +kernel
theorem d_with1_5 : decode prog_25_method_7_code 5 = .ok (.ifCond .ne 30, 3) := by decide +kernel
theorem d_with1_8 : decode prog_25_method_7_code 8 = .ok (.new 8, 3) := by decide +kernel
theorem d_with1_11 : decode prog_25_method_7_code 11 = .ok (.dup, 1) := by decide +kernel
theorem d_with1_12 : decode prog_25_method_7_code 12 = .ok (.aload_n 0, 1) := by decide +kernel
theorem d_with1_13 : decode prog_25_method_7_code 13 = .ok (.getfield 7, 3) := by decide +kernel
theorem d_with1_16 : decode prog_25_method_7_code 16 = .ok (.iconst 1, 1) := by decide +kernel
theorem d_with1_17 : decode prog_25_method_7_code 17 = .ok (.anewarray 20, 3) := by decide +kernel
theorem d_with1_20 : decode prog_25_method_7_code 20 = .ok (.dup, 1) := by decide +kernel
theorem d_with1_21 : decode prog_25_method_7_code 21 = .ok (.iconst 0, 1) := by decide +kernel
theorem d_with1_22 : decode prog_25_method_7_code 22 = .ok (.aload_n 1, 1) := by decide +kernel
theorem d_with1_23 : decode prog_25_method_7_code 23 = .ok (.invokevirtual 45, 3) := by decide +kernel
theorem d_with1_26 : decode prog_25_method_7_code 26 = .ok (.checkcast 20, 3) := by decide +kernel
theorem d_with1_29 : decode prog_25_method_7_code 29 = .ok (.aastore, 1) := by decide +kernel
theorem d_with1_30 : decode prog_25_method_7_code 30 = .ok (.iconst 1, 1) := by decide +kernel
theorem d_with1_31 : decode prog_25_method_7_code 31 = .ok (.invokespecial 22, 3) := by decide +kernel
theorem d_with1_34 : decode prog_25_method_7_code 34 = .ok (.areturn, 1) := by decide +kernel
theorem pd_with1_0 : parseMethodDescriptor "(I[[JI)V" = some ⟨[.int, (.array (.array .long)), .int], none⟩ := by decide +kernel
def r_with1 : Room := { frames := 2, cells := 3, slots := 5, locals := 28 }
def Q_with1 (Z : State) (a : Addr) (c : Addr) (s : Int32) (kc : ClassId) (b : Addr) (kb : ClassId) (d0 : Int64) (h0 : Heap) (v : Option Value) (h : Heap) : Prop := ∃ r : Addr, ∃ ch : Addr, ∃ k : ClassId, ∃ x : Addr, ∃ kx : ClassId, v = some (.ref r) ∧ Keep h0 h [] ∧ h0.size ≤ r ∧ Exa Z h r "com/example/rosterlink/rosterlink/model/IdChunks" ∧ Fld Z h r "com/example/rosterlink/rosterlink/model/IdChunks" "width" "I" (.int (1 : Int32)) ∧ Fld Z h r "com/example/rosterlink/rosterlink/model/IdChunks" "chunks" "[[J" (.ref ch) ∧ Fld Z h r "com/example/rosterlink/rosterlink/model/IdChunks" "size" "I" (.int (1 : Int32)) ∧ h0.size ≤ ch ∧ oArr Z h ch k (.array .long) [(.ref x)] ∧ h0.size ≤ x ∧ oArr Z h x kx .long [(.long d0)] ∧ Exa Z h x "[J"
set_option maxRecDepth 65536 in
set_option maxHeartbeats 40000000 in
theorem rm_with1 (l : Launch) (Z : State) (a0 : Array Value) (hw : oHw Z a0) (a : Addr) (c : Addr) (s : Int32) (kc : ClassId) (b : Addr) (kb : ClassId) (d0 : Int64) (h0 : Heap) (q0 : Exa Z h0 a "com/example/rosterlink/rosterlink/model/IdChunks") (q1 : Fld Z h0 a "com/example/rosterlink/rosterlink/model/IdChunks" "width" "I" (.int (1 : Int32))) (q2 : Fld Z h0 a "com/example/rosterlink/rosterlink/model/IdChunks" "chunks" "[[J" (.ref c)) (q3 : Fld Z h0 a "com/example/rosterlink/rosterlink/model/IdChunks" "size" "I" (.int s)) (q4 : oArr Z h0 c kc (.array .long) []) (q5 : oArr Z h0 b kb .long [(.long d0)]) (q6 : Exa Z h0 b "[J") : oMet l Z (⟨"com/example/rosterlink/rosterlink/model/IdChunks", "with", "([J)Lcom/example/rosterlink/rosterlink/model/IdChunks;"⟩ : MethodName) prog_25_method_7_code 10 (some (.object "com/example/rosterlink/rosterlink/model/IdChunks")) r_with1 [] #[(.ref a), (.ref b)] h0 (Q_with1 Z a c s kc b kb d0 h0) := by
  refine oEnter (plainFor_of_name (by first | (simp [plainName, overriddenIn]; done) | decide +kernel)) (own := "com/example/rosterlink/rosterlink/model/IdChunks") (nm := "with") rfl rfl (L := #[.val (.ref a), .val (.ref b), .unset, .unset, .unset, .unset, .unset, .unset, .unset, .unset]) (fun m => by first | (simp [entryFrame, mkF, argsToLocals, Value.category]; done) | rfl) ?_
  intro pp ee ss mm bb mtd cc T0 K X0
  have E0 := X0.ext0
  refine o_aloadN K X0 d_with1_0 (pc' := 1) rfl rfl rfl ?_
  refine o_getfield K X0 (host := "") (Or.inl (w17 hw)) Via.refl q2 d_with1_1 (pc' := 4) rfl ?_
  intro T1 X1
  refine o_arraylength K X1 q4 (z := (0 : Int32)) rfl d_with1_4 (pc' := 5) rfl ?_
  refine o_if_ne_f K X1 d_with1_5 (pc' := 8) rfl (by decide) ?_
  refine o_new K X1 (w7 hw) (w8 hw) (w3 hw) d_with1_8 (pc' := 11) rfl (by decide) (by decide) ?_
  intro T2 h2 b2 X2 g2 E2 A2 D2 G2
  have F2_width : Fld Z h2 b2 "com/example/rosterlink/rosterlink/model/IdChunks" "width" "I" (.int (0 : Int32)) := (D2 (Or.inr (w16 hw)) (ty := .int) (by decide))
  have F2_chunks : Fld Z h2 b2 "com/example/rosterlink/rosterlink/model/IdChunks" "chunks" "[[J" .null := (D2 (Or.inr (w18 hw)) (ty := (.array (.array .long))) (by decide))
  have F2_size : Fld Z h2 b2 "com/example/rosterlink/rosterlink/model/IdChunks" "size" "I" (.int (0 : Int32)) := (D2 (Or.inr (w20 hw)) (ty := .int) (by decide))
  refine o_dup K X2 d_with1_11 (pc' := 12) rfl rfl ?_
  refine o_aloadN K X2 d_with1_12 (pc' := 13) rfl rfl rfl ?_
  refine o_getfield K X2 (host := "") (Or.inl (w15 hw)) Via.refl (q1.ext E2) d_with1_13 (pc' := 16) rfl ?_
  intro T3 X3
  refine o_iconst K X3 d_with1_16 (pc' := 17) rfl (z := (1 : Int32)) rfl ?_
  refine o_anewarrayA K X3 (ty := .long) 1 (by decide +kernel) (w5 hw) (w6 hw) (ad := "[[J") (by decide +kernel) (by decide) (by decide) (by decide) d_with1_17 (pc' := 20) rfl (by decide) (by decide) ?_
  intro T4 h4 b4 k4 X4 g4 E4 A4 B4 O4 G4
  replace A4 : oArr Z h4 b4 k4 (.array .long) [.null] := A4
  refine o_dup K X4 d_with1_20 (pc' := 21) rfl rfl ?_
  refine o_iconst K X4 d_with1_21 (pc' := 22) rfl (z := (0 : Int32)) rfl ?_
  refine o_aloadN K X4 d_with1_22 (pc' := 23) rfl rfl rfl ?_
  refine o_clone K X4 1 (w63 hw) (w64 hw) (w68 hw) (w66 hw) (w67 hw) (w69 hw) ((q5.ext E2).ext E4) rfl ((q6.ext E2).ext E4) d_with1_23 (pc' := 26) rfl rfl (by decide) (W := 6) rfl (by decide) (by decide) (by decide) ?_
  intro T5 h5 b5 X5 g5 E5 A5 B5 G5
  refine o_checkcast K X5 (w5 hw) (Ins.self B5) d_with1_26 (pc' := 29) rfl ?_
  intro T6 X6
  refine o_aastore K X6 rfl (A4.ext E5) (by decide) (show (0 : Int32).toNatClampNeg < 1 from (by decide)) G4 (oStoA (A4.ext E5) O4 (Ins.self B5)) rfl d_with1_29 (pc' := 30) rfl ?_
  intro T7 h7 X7 W7 A7
  replace A7 : oArr Z h7 b4 k4 (.array .long) [(.ref b5)] := A7
  refine o_iconst K X7 d_with1_30 (pc' := 31) rfl (z := (1 : Int32)) rfl ?_
  refine o_special K X7 (y := (⟨"com/example/rosterlink/rosterlink/model/IdChunks", "<init>", "(I[[JI)V"⟩ : MethodName)) rfl (w9 hw) (w10 hw) (w3 hw) (w11 hw) (by decide) (rm_init l Z a0 hw b2 (1 : Int32) b4 (1 : Int32) h7 (Exa.wr W7 ((A2.ext E4).ext E5)) (Fld.other W7 ((F2_width.ext E4).ext E5) (Or.inl (Nat.ne_of_lt (Nat.lt_of_lt_of_le A2.lt (Nat.le_of_eq g4.symm))))) (Fld.other W7 ((F2_chunks.ext E4).ext E5) (Or.inl (Nat.ne_of_lt (Nat.lt_of_lt_of_le A2.lt (Nat.le_of_eq g4.symm))))) (Fld.other W7 ((F2_size.ext E4).ext E5) (Or.inl (Nat.ne_of_lt (Nat.lt_of_lt_of_le A2.lt (Nat.le_of_eq g4.symm))))) G2) (by decide) rfl (argsL := [(.int (1 : Int32)), (.ref b4), (.int (1 : Int32))]) rfl (lenOf pd_with1_0 rfl) (W := 1) rfl (by decide) (by decide) (by decide) d_with1_31 (pc' := 34) rfl ?_
  intro v8 T8 h8 X8 U8
  obtain ⟨rfl, u8_0, u8_1, u8_2, u8_3, u8_4⟩ := U8
  show oGoes pp ee bb ss Z T8 (mkF mm 34 #[.val (.ref a), .val (.ref b), .unset, .unset, .unset, .unset, .unset, .unset, .unset, .unset] [(.ref b2)]) _ _ _
  refine o_areturn K X8 (t := (.object "com/example/rosterlink/rosterlink/model/IdChunks")) d_with1_34 rfl rfl rfl ?_ (by decide) (by decide)
  exact ⟨b2, b4, k4, b5, kb, rfl, ((((((Keep.refl h0 []).ext E2).ext E4).ext E5).wr W7 (Or.inr (Nat.le_trans E2.1 (Nat.le_of_eq g4.symm)))).trans u8_0 (allS (Or.inr (Nat.le_of_eq g2.symm)) all0)), (Nat.le_of_eq g2.symm), u8_1, u8_2, u8_3, u8_4, (Nat.le_trans E2.1 (Nat.le_of_eq g4.symm)), (A7.keep u8_0 (ninS (Ne.symm (Nat.ne_of_lt (Nat.lt_of_lt_of_le A2.lt (Nat.le_of_eq g4.symm)))) nin0)), (Nat.le_trans (Nat.le_trans E2.1 E4.1) (Nat.le_of_eq g5.symm)), ((A5.other W7 (Ne.symm (Nat.ne_of_lt (Nat.lt_of_lt_of_le A4.lt (Nat.le_of_eq g5.symm))))).keep u8_0 (ninS (Ne.symm (Nat.ne_of_lt (Nat.lt_of_lt_of_le (Nat.lt_of_lt_of_le A2.lt E4.1) (Nat.le_of_eq g5.symm)))) nin0)), ((Exa.wr W7 B5).keep u8_0)⟩
theorem d_cf1_1_0 : decode prog_25_method_17_code 0 = .ok (.iconst 0, 1) := by decide +kernel
theorem d_cf1_1_1 : decode prog_25_method_17_code 1 = .ok (.istore_n 3, 1) := by decide +kernel
theorem d_cf1_1_2 : decode prog_25_method_17_code 2 = .ok (.aload_n 0, 1) := by decide +kernel
theorem d_cf1_1_3 : decode prog_25_method_17_code 3 = .ok (.getfield 13, 3) := by decide +kernel
theorem d_cf1_1_6 : decode prog_25_method_17_code 6 = .ok (.arraylength, 1) := by decide +kernel
theorem d_cf1_1_7 : decode prog_25_method_17_code 7 = .ok (.istore 4, 2) := by decide +kernel
theorem d_cf1_1_9 : decode prog_25_method_17_code 9 = .ok (.iload_n 3, 1) := by decide +kernel
theorem d_cf1_1_10 : decode prog_25_method_17_code 10 = .ok (.iload 4, 2) := by decide +kernel
theorem d_cf1_1_12 : decode prog_25_method_17_code 12 = .ok (.if_icmp .ge 51, 3) := by decide +kernel
theorem d_cf1_1_15 : decode prog_25_method_17_code 15 = .ok (.iload_n 3, 1) := by decide +kernel
theorem d_cf1_1_16 : decode prog_25_method_17_code 16 = .ok (.iload 4, 2) := by decide +kernel
theorem d_cf1_1_18 : decode prog_25_method_17_code 18 = .ok (.iadd, 1) := by decide +kernel
theorem d_cf1_1_19 : decode prog_25_method_17_code 19 = .ok (.iconst 1, 1) := by decide +kernel
theorem d_cf1_1_20 : decode prog_25_method_17_code 20 = .ok (.iushr, 1) := by decide +kernel
theorem d_cf1_1_21 : decode prog_25_method_17_code 21 = .ok (.istore 5, 2) := by decide +kernel
theorem d_cf1_1_23 : decode prog_25_method_17_code 23 = .ok (.aload_n 0, 1) := by decide +kernel
theorem d_cf1_1_24 : decode prog_25_method_17_code 24 = .ok (.getfield 13, 3) := by decide +kernel
theorem d_cf1_1_27 : decode prog_25_method_17_code 27 = .ok (.iload 5, 2) := by decide +kernel
theorem d_cf1_1_29 : decode prog_25_method_17_code 29 = .ok (.aaload, 1) := by decide +kernel
theorem d_cf1_1_30 : decode prog_25_method_17_code 30 = .ok (.astore 6, 2) := by decide +kernel
theorem d_cf1_1_32 : decode prog_25_method_17_code 32 = .ok (.aload 6, 2) := by decide +kernel
theorem d_cf1_1_34 : decode prog_25_method_17_code 34 = .ok (.aload 6, 2) := by decide +kernel
theorem d_cf1_1_36 : decode prog_25_method_17_code 36 = .ok (.arraylength, 1) := by decide +kernel
theorem d_cf1_1_37 : decode prog_25_method_17_code 37 = .ok (.aload_n 0, 1) := by decide +kernel
theorem d_cf1_1_38 : decode prog_25_method_17_code 38 = .ok (.getfield 7, 3) := by decide +kernel
theorem d_cf1_1_41 : decode prog_25_method_17_code 41 = .ok (.isub, 1) := by decide +kernel
theorem d_cf1_1_42 : decode prog_25_method_17_code 42 = .ok (.laload, 1) := by decide +kernel
theorem d_cf1_1_43 : decode prog_25_method_17_code 43 = .ok (.lload_n 1, 1) := by decide +kernel
theorem d_cf1_1_44 : decode prog_25_method_17_code 44 = .ok (.lcmp, 1) := by decide +kernel
theorem d_cf1_1_45 : decode prog_25_method_17_code 45 = .ok (.ifCond .ge 11, 3) := by decide +kernel
theorem d_cf1_1_56 : decode prog_25_method_17_code 56 = .ok (.iload 5, 2) := by decide +kernel
theorem d_cf1_1_58 : decode prog_25_method_17_code 58 = .ok (.istore 4, 2) := by decide +kernel
theorem d_cf1_1_60 : decode prog_25_method_17_code 60 = .ok (.goto (-51), 3) := by decide +kernel
theorem d_cf1_1_63 : decode prog_25_method_17_code 63 = .ok (.iload_n 3, 1) := by decide +kernel
theorem d_cf1_1_64 : decode prog_25_method_17_code 64 = .ok (.ireturn, 1) := by decide +kernel
def r_cf1_1 : Room := { frames := 0, cells := 0, slots := 0, locals := 0 }
def Q_cf1_1 (Z : State) (a : Addr) (c : Addr) (kc : ClassId) (x : Addr) (kx : ClassId) (d0 : Int64) (h0 : Heap) (v : Option Value) (h : Heap) : Prop := v = some (.int (0 : Int32)) ∧ h0 = h
set_option maxRecDepth 65536 in
set_option maxHeartbeats 40000000 in
theorem rm_cf1_1 (l : Launch) (Z : State) (a0 : Array Value) (hw : oHw Z a0) (a : Addr) (c : Addr) (kc : ClassId) (x : Addr) (kx : ClassId) (d0 : Int64) (h0 : Heap) (q0 : Exa Z h0 a "com/example/rosterlink/rosterlink/model/IdChunks") (q1 : Fld Z h0 a "com/example/rosterlink/rosterlink/model/IdChunks" "width" "I" (.int (1 : Int32))) (q2 : Fld Z h0 a "com/example/rosterlink/rosterlink/model/IdChunks" "chunks" "[[J" (.ref c)) (q3 : Fld Z h0 a "com/example/rosterlink/rosterlink/model/IdChunks" "size" "I" (.int (1 : Int32))) (q4 : oArr Z h0 c kc (.array .long) [(.ref x)]) (q5 : oArr Z h0 x kx .long [(.long d0)]) (q6 : Exa Z h0 x "[J") : oMet l Z (⟨"com/example/rosterlink/rosterlink/model/IdChunks", "chunkFor", "(J)I"⟩ : MethodName) prog_25_method_17_code 7 (some .int) r_cf1_1 [] #[(.ref a), (.long d0)] h0 (Q_cf1_1 Z a c kc x kx d0 h0) := by
  refine oEnter (plainFor_of_name (by first | (simp [plainName, overriddenIn]; done) | decide +kernel)) (own := "com/example/rosterlink/rosterlink/model/IdChunks") (nm := "chunkFor") rfl rfl (L := #[.val (.ref a), .val (.long d0), .second, .unset, .unset, .unset, .unset]) (fun m => by first | (simp [entryFrame, mkF, argsToLocals, Value.category]; done) | rfl) ?_
  intro pp ee ss mm bb mtd cc T0 K X0
  have E0 := X0.ext0
  refine o_iconst K X0 d_cf1_1_0 (pc' := 1) rfl (z := (0 : Int32)) rfl ?_
  refine o_istoreN K X0 d_cf1_1_1 (pc' := 2) rfl (L' := #[.val (.ref a), .val (.long d0), .second, .val (.int (0 : Int32)), .unset, .unset, .unset]) rfl ?_
  refine o_aloadN K X0 d_cf1_1_2 (pc' := 3) rfl rfl rfl ?_
  refine o_getfield K X0 (host := "") (Or.inl (w17 hw)) Via.refl q2 d_cf1_1_3 (pc' := 6) rfl ?_
  intro T1 X1
  refine o_arraylength K X1 q4 (z := (1 : Int32)) rfl d_cf1_1_6 (pc' := 7) rfl ?_
  refine o_istore K X1 d_cf1_1_7 (pc' := 9) rfl (L' := #[.val (.ref a), .val (.long d0), .second, .val (.int (0 : Int32)), .val (.int (1 : Int32)), .unset, .unset]) rfl ?_
  refine o_iloadN K X1 d_cf1_1_9 (pc' := 10) rfl rfl ?_
  refine o_iload K X1 d_cf1_1_10 (pc' := 12) rfl rfl ?_
  refine o_icmp_ge_f K X1 d_cf1_1_12 (pc' := 15) rfl (by decide) ?_
  refine o_iloadN K X1 d_cf1_1_15 (pc' := 16) rfl rfl ?_
  refine o_iload K X1 d_cf1_1_16 (pc' := 18) rfl rfl ?_
  refine o_iadd K X1 d_cf1_1_18 (pc' := 19) rfl (z := (1 : Int32)) (by decide) ?_
  refine o_iconst K X1 d_cf1_1_19 (pc' := 20) rfl (z := (1 : Int32)) rfl ?_
  refine o_iushr K X1 d_cf1_1_20 (pc' := 21) rfl (z := (0 : Int32)) (by decide) ?_
  refine o_istore K X1 d_cf1_1_21 (pc' := 23) rfl (L' := #[.val (.ref a), .val (.long d0), .second, .val (.int (0 : Int32)), .val (.int (1 : Int32)), .val (.int (0 : Int32)), .unset]) rfl ?_
  refine o_aloadN K X1 d_cf1_1_23 (pc' := 24) rfl rfl rfl ?_
  refine o_getfield K X1 (host := "") (Or.inl (w17 hw)) Via.refl q2 d_cf1_1_24 (pc' := 27) rfl ?_
  intro T2 X2
  refine o_iload K X2 d_cf1_1_27 (pc' := 29) rfl rfl ?_
  refine o_aaload K X2 rfl q4 (by decide) (v := (.ref x)) rfl d_cf1_1_29 (pc' := 30) rfl ?_
  refine o_astore K X2 d_cf1_1_30 (pc' := 32) rfl rfl (L' := #[.val (.ref a), .val (.long d0), .second, .val (.int (0 : Int32)), .val (.int (1 : Int32)), .val (.int (0 : Int32)), .val (.ref x)]) rfl ?_
  refine o_aload K X2 d_cf1_1_32 (pc' := 34) rfl rfl rfl ?_
  refine o_aload K X2 d_cf1_1_34 (pc' := 36) rfl rfl rfl ?_
  refine o_arraylength K X2 q5 (z := (1 : Int32)) rfl d_cf1_1_36 (pc' := 37) rfl ?_
  refine o_aloadN K X2 d_cf1_1_37 (pc' := 38) rfl rfl rfl ?_
  refine o_getfield K X2 (host := "") (Or.inl (w15 hw)) Via.refl q1 d_cf1_1_38 (pc' := 41) rfl ?_
  intro T3 X3
  refine o_isub K X3 d_cf1_1_41 (pc' := 42) rfl (z := (0 : Int32)) (by decide) ?_
  refine o_laload K X3 q5 (by decide) (v := (.long d0)) rfl d_cf1_1_42 (pc' := 43) rfl ?_
  refine o_lloadN K X3 d_cf1_1_43 (pc' := 44) rfl rfl ?_
  refine o_lcmp K X3 d_cf1_1_44 (pc' := 45) rfl (z := (0 : Int32)) (oLcmp _) ?_
  refine o_if_ge_t K X3 d_cf1_1_45 (by decide) (pc' := 56) (by decide) (by decide) ?_
  refine o_iload K X3 d_cf1_1_56 (pc' := 58) rfl rfl ?_
  refine o_istore K X3 d_cf1_1_58 (pc' := 60) rfl (L' := #[.val (.ref a), .val (.long d0), .second, .val (.int (0 : Int32)), .val (.int (0 : Int32)), .val (.int (0 : Int32)), .val (.ref x)]) rfl ?_
  refine o_goto K X3 d_cf1_1_60 (by decide) (pc' := 9) (by decide) ?_
  refine o_iloadN K X3 d_cf1_1_9 (pc' := 10) rfl rfl ?_
  refine o_iload K X3 d_cf1_1_10 (pc' := 12) rfl rfl ?_
  refine o_icmp_ge_t K X3 d_cf1_1_12 (by decide) (pc' := 63) (by decide) (by decide) ?_
  refine o_iloadN K X3 d_cf1_1_63 (pc' := 64) rfl rfl ?_
  refine o_ireturn K X3 d_cf1_1_64 rfl ?_ (by decide) (by decide)
  exact ⟨rfl, rfl⟩
theorem d_find1_0 : decode prog_25_method_18_code 0 = .ok (.iconst 0, 1) := by decide +kernel
theorem d_find1_1 : decode prog_25_method_18_code 1 = .ok (.istore 4, 2) := by decide +kernel
theorem d_find1_3 : decode prog_25_method_18_code 3 = .ok (.aload_n 1, 1) := by decide +kernel
theorem d_find1_4 : decode prog_25_method_18_code 4 = .ok (.arraylength, 1) := by decide +kernel
theorem d_find1_5 : decode prog_25_method_18_code 5 = .ok (.aload_n 0, 1) := by decide +kernel
theorem d_find1_6 : decode prog_25_method_18_code 6 = .ok (.getfield 7, 3) := by decide +kernel
theorem d_find1_9 : decode prog_25_method_18_code 9 = .ok (.idiv, 1) := by decide +kernel
theorem d_find1_10 : decode prog_25_method_18_code 10 = .ok (.iconst 1, 1) := by decide +kernel
theorem d_find1_11 : decode prog_25_method_18_code 11 = .ok (.isub, 1) := by decide +kernel
theorem d_find1_12 : decode prog_25_method_18_code 12 = .ok (.istore 5, 2) := by decide +kernel
theorem d_find1_14 : decode prog_25_method_18_code 14 = .ok (.iload 4, 2) := by decide +kernel
theorem d_find1_16 : decode prog_25_method_18_code 16 = .ok (.iload 5, 2) := by decide +kernel
theorem d_find1_18 : decode prog_25_method_18_code 18 = .ok (.if_icmp .gt 61, 3) := by decide +kernel
theorem d_find1_21 : decode prog_25_method_18_code 21 = .ok (.iload 4, 2) := by decide +kernel
theorem d_find1_23 : decode prog_25_method_18_code 23 = .ok (.iload 5, 2) := by decide +kernel
theorem d_find1_25 : decode prog_25_method_18_code 25 = .ok (.iadd, 1) := by decide +kernel
theorem d_find1_26 : decode prog_25_method_18_code 26 = .ok (.iconst 1, 1) := by decide +kernel
theorem d_find1_27 : decode prog_25_method_18_code 27 = .ok (.iushr, 1) := by decide +kernel
theorem d_find1_28 : decode prog_25_method_18_code 28 = .ok (.istore 6, 2) := by decide +kernel
theorem d_find1_30 : decode prog_25_method_18_code 30 = .ok (.aload_n 1, 1) := by decide +kernel
theorem d_find1_31 : decode prog_25_method_18_code 31 = .ok (.iload 6, 2) := by decide +kernel
theorem d_find1_33 : decode prog_25_method_18_code 33 = .ok (.aload_n 0, 1) := by decide +kernel
theorem d_find1_34 : decode prog_25_method_18_code 34 = .ok (.getfield 7, 3) := by decide +kernel
theorem d_find1_37 : decode prog_25_method_18_code 37 = .ok (.imul, 1) := by decide +kernel
theorem d_find1_38 : decode prog_25_method_18_code 38 = .ok (.laload, 1) := by decide +kernel
theorem d_find1_39 : decode prog_25_method_18_code 39 = .ok (.lstore 7, 2) := by decide +kernel
theorem d_find1_41 : decode prog_25_method_18_code 41 = .ok (.lload 7, 2) := by decide +kernel
theorem d_find1_43 : decode prog_25_method_18_code 43 = .ok (.lload_n 2, 1) := by decide +kernel
theorem d_find1_44 : decode prog_25_method_18_code 44 = .ok (.lcmp, 1) := by decide +kernel
theorem d_find1_45 : decode prog_25_method_18_code 45 = .ok (.ifCond .ge 12, 3) := by decide +kernel
theorem d_find1_57 : decode prog_25_method_18_code 57 = .ok (.lload 7, 2) := by decide +kernel
theorem d_find1_59 : decode prog_25_method_18_code 59 = .ok (.lload_n 2, 1) := by decide +kernel
theorem d_find1_60 : decode prog_25_method_18_code 60 = .ok (.lcmp, 1) := by decide +kernel
theorem d_find1_61 : decode prog_25_method_18_code 61 = .ok (.ifCond .le 12, 3) := by decide +kernel
theorem d_find1_73 : decode prog_25_method_18_code 73 = .ok (.iload 6, 2) := by decide +kernel
theorem d_find1_75 : decode prog_25_method_18_code 75 = .ok (.ireturn, 1) := by decide +kernel
def r_find1 : Room := { frames := 0, cells := 0, slots := 0, locals := 0 }
def Q_find1 (Z : State) (a : Addr) (c : Addr) (kc : ClassId) (x : Addr) (kx : ClassId) (d0 : Int64) (h0 : Heap) (v : Option Value) (h : Heap) : Prop := v = some (.int (0 : Int32)) ∧ h0 = h
set_option maxRecDepth 65536 in
set_option maxHeartbeats 40000000 in
theorem rm_find1 (l : Launch) (Z : State) (a0 : Array Value) (hw : oHw Z a0) (a : Addr) (c : Addr) (kc : ClassId) (x : Addr) (kx : ClassId) (d0 : Int64) (h0 : Heap) (q0 : Exa Z h0 a "com/example/rosterlink/rosterlink/model/IdChunks") (q1 : Fld Z h0 a "com/example/rosterlink/rosterlink/model/IdChunks" "width" "I" (.int (1 : Int32))) (q2 : Fld Z h0 a "com/example/rosterlink/rosterlink/model/IdChunks" "chunks" "[[J" (.ref c)) (q3 : Fld Z h0 a "com/example/rosterlink/rosterlink/model/IdChunks" "size" "I" (.int (1 : Int32))) (q4 : oArr Z h0 c kc (.array .long) [(.ref x)]) (q5 : oArr Z h0 x kx .long [(.long d0)]) (q6 : Exa Z h0 x "[J") : oMet l Z (⟨"com/example/rosterlink/rosterlink/model/IdChunks", "find", "([JJ)I"⟩ : MethodName) prog_25_method_18_code 9 (some .int) r_find1 [] #[(.ref a), (.ref x), (.long d0)] h0 (Q_find1 Z a c kc x kx d0 h0) := by
  refine oEnter (plainFor_of_name (by first | (simp [plainName, overriddenIn]; done) | decide +kernel)) (own := "com/example/rosterlink/rosterlink/model/IdChunks") (nm := "find") rfl rfl (L := #[.val (.ref a), .val (.ref x), .val (.long d0), .second, .unset, .unset, .unset, .unset, .unset]) (fun m => by first | (simp [entryFrame, mkF, argsToLocals, Value.category]; done) | rfl) ?_
  intro pp ee ss mm bb mtd cc T0 K X0
  have E0 := X0.ext0
  refine o_iconst K X0 d_find1_0 (pc' := 1) rfl (z := (0 : Int32)) rfl ?_
  refine o_istore K X0 d_find1_1 (pc' := 3) rfl (L' := #[.val (.ref a), .val (.ref x), .val (.long d0), .second, .val (.int (0 : Int32)), .unset, .unset, .unset, .unset]) rfl ?_
  refine o_aloadN K X0 d_find1_3 (pc' := 4) rfl rfl rfl ?_
  refine o_arraylength K X0 q5 (z := (1 : Int32)) rfl d_find1_4 (pc' := 5) rfl ?_
  refine o_aloadN K X0 d_find1_5 (pc' := 6) rfl rfl rfl ?_
  refine o_getfield K X0 (host := "") (Or.inl (w15 hw)) Via.refl q1 d_find1_6 (pc' := 9) rfl ?_
  intro T1 X1
  refine o_idiv K X1 d_find1_9 (pc' := 10) rfl (by decide) (z := (1 : Int32)) (by decide) ?_
  refine o_iconst K X1 d_find1_10 (pc' := 11) rfl (z := (1 : Int32)) rfl ?_
  refine o_isub K X1 d_find1_11 (pc' := 12) rfl (z := (0 : Int32)) (by decide) ?_
  refine o_istore K X1 d_find1_12 (pc' := 14) rfl (L' := #[.val (.ref a), .val (.ref x), .val (.long d0), .second, .val (.int (0 : Int32)), .val (.int (0 : Int32)), .unset, .unset, .unset]) rfl ?_
  refine o_iload K X1 d_find1_14 (pc' := 16) rfl rfl ?_
  refine o_iload K X1 d_find1_16 (pc' := 18) rfl rfl ?_
  refine o_icmp_gt_f K X1 d_find1_18 (pc' := 21) rfl (by decide) ?_
  refine o_iload K X1 d_find1_21 (pc' := 23) rfl rfl ?_
  refine o_iload K X1 d_find1_23 (pc' := 25) rfl rfl ?_
  refine o_iadd K X1 d_find1_25 (pc' := 26) rfl (z := (0 : Int32)) (by decide) ?_
  refine o_iconst K X1 d_find1_26 (pc' := 27) rfl (z := (1 : Int32)) rfl ?_
  refine o_iushr K X1 d_find1_27 (pc' := 28) rfl (z := (0 : Int32)) (by decide) ?_
  refine o_istore K X1 d_find1_28 (pc' := 30) rfl (L' := #[.val (.ref a), .val (.ref x), .val (.long d0), .second, .val (.int (0 : Int32)), .val (.int (0 : Int32)), .val (.int (0 : Int32)), .unset, .unset]) rfl ?_
  refine o_aloadN K X1 d_find1_30 (pc' := 31) rfl rfl rfl ?_
  refine o_iload K X1 d_find1_31 (pc' := 33) rfl rfl ?_
  refine o_aloadN K X1 d_find1_33 (pc' := 34) rfl rfl rfl ?_
  refine o_getfield K X1 (host := "") (Or.inl (w15 hw)) Via.refl q1 d_find1_34 (pc' := 37) rfl ?_
  intro T2 X2
  refine o_imul K X2 d_find1_37 (pc' := 38) rfl (z := (0 : Int32)) (by decide) ?_
  refine o_laload K X2 q5 (by decide) (v := (.long d0)) rfl d_find1_38 (pc' := 39) rfl ?_
  refine o_lstore K X2 d_find1_39 (pc' := 41) rfl (L' := #[.val (.ref a), .val (.ref x), .val (.long d0), .second, .val (.int (0 : Int32)), .val (.int (0 : Int32)), .val (.int (0 : Int32)), .val (.long d0), .second]) rfl ?_
  refine o_lload K X2 d_find1_41 (pc' := 43) rfl rfl ?_
  refine o_lloadN K X2 d_find1_43 (pc' := 44) rfl rfl ?_
  refine o_lcmp K X2 d_find1_44 (pc' := 45) rfl (z := (0 : Int32)) (oLcmp _) ?_
  refine o_if_ge_t K X2 d_find1_45 (by decide) (pc' := 57) (by decide) (by decide) ?_
  refine o_lload K X2 d_find1_57 (pc' := 59) rfl rfl ?_
  refine o_lloadN K X2 d_find1_59 (pc' := 60) rfl rfl ?_
  refine o_lcmp K X2 d_find1_60 (pc' := 61) rfl (z := (0 : Int32)) (oLcmp _) ?_
  refine o_if_le_t K X2 d_find1_61 (by decide) (pc' := 73) (by decide) (by decide) ?_
  refine o_iload K X2 d_find1_73 (pc' := 75) rfl rfl ?_
  refine o_ireturn K X2 d_find1_75 rfl ?_ (by decide) (by decide)
  exact ⟨rfl, rfl⟩
theorem d_cor1_0 : decode jdk_65_method_138_code 0 = .ok (.iload_n 1, 1) := by decide +kernel
theorem d_cor1_1 : decode jdk_65_method_138_code 1 = .ok (.ifCond .ne 9, 3) := by decide +kernel
theorem d_cor1_4 : decode jdk_65_method_138_code 4 = .ok (.iload_n 2, 1) := by decide +kernel
theorem d_cor1_5 : decode jdk_65_method_138_code 5 = .ok (.aload_n 0, 1) := by decide +kernel
theorem d_cor1_6 : decode jdk_65_method_138_code 6 = .ok (.arraylength, 1) := by decide +kernel
theorem d_cor1_7 : decode jdk_65_method_138_code 7 = .ok (.if_icmp .eq 10, 3) := by decide +kernel
theorem d_cor1_17 : decode jdk_65_method_138_code 17 = .ok (.aload_n 0, 1) := by decide +kernel
theorem d_cor1_18 : decode jdk_65_method_138_code 18 = .ok (.invokevirtual 319, 3) := by decide +kernel
theorem d_cor1_21 : decode jdk_65_method_138_code 21 = .ok (.checkcast 320, 3) := by decide +kernel
theorem d_cor1_24 : decode jdk_65_method_138_code 24 = .ok (.areturn, 1) := by decide +kernel
def r_cor1 : Room := { frames := 1, cells := 1, slots := 1, locals := 14 }
def Q_cor1 (Z : State) (b : Addr) (kb : ClassId) (d0 : Int64) (h0 : Heap) (v : Option Value) (h : Heap) : Prop := ∃ r : Addr, ∃ k : ClassId, v = some (.ref r) ∧ Keep h0 h [] ∧ h0.size ≤ r ∧ oArr Z h r k .long [(.long d0)] ∧ Exa Z h r "[J"
set_option maxRecDepth 65536 in
set_option maxHeartbeats 40000000 in
theorem rm_cor1 (l : Launch) (Z : State) (a0 : Array Value) (hw : oHw Z a0) (b : Addr) (kb : ClassId) (d0 : Int64) (h0 : Heap) (q0 : oArr Z h0 b kb .long [(.long d0)]) (q1 : Exa Z h0 b "[J") : oMet l Z (⟨"java/util/Arrays", "copyOfRange", "([JII)[J"⟩ : MethodName) jdk_65_method_138_code 3 (some (.array .long)) r_cor1 [] #[(.ref b), (.int (0 : Int32)), (.int (1 : Int32))] h0 (Q_cor1 Z b kb d0 h0) := by
  refine oEnter (plainFor_of_name (by first | (simp [plainName, overriddenIn]; done) | decide +kernel)) (own := "java/util/Arrays") (nm := "copyOfRange") rfl rfl (L := #[.val (.ref b), .val (.int (0 : Int32)), .val (.int (1 : Int32))]) (fun m => by first | (simp [entryFrame, mkF, argsToLocals, Value.category]; done) | rfl) ?_
  intro pp ee ss mm bb mtd cc T0 K X0
  have E0 := X0.ext0
  refine o_iloadN K X0 d_cor1_0 (pc' := 1) rfl rfl ?_
  refine o_if_ne_f K X0 d_cor1_1 (pc' := 4) rfl (by decide) ?_
  refine o_iloadN K X0 d_cor1_4 (pc' := 5) rfl rfl ?_
  refine o_aloadN K X0 d_cor1_5 (pc' := 6) rfl rfl rfl ?_
  refine o_arraylength K X0 q0 (z := (1 : Int32)) rfl d_cor1_6 (pc' := 7) rfl ?_
  refine o_icmp_eq_t K X0 d_cor1_7 (by decide) (pc' := 17) (by decide) (by decide) ?_
  refine o_aloadN K X0 d_cor1_17 (pc' := 18) rfl rfl rfl ?_
  refine o_clone K X0 1 (w79 hw) (w64 hw) (w68 hw) (w66 hw) (w67 hw) (w69 hw) q0 rfl q1 d_cor1_18 (pc' := 21) rfl rfl (by decide) (W := 0) rfl (by decide) (by decide) (by decide) ?_
  intro T1 h1 b1 X1 g1 E1 A1 B1 G1
  refine o_checkcast K X1 (w80 hw) (Ins.self B1) d_cor1_21 (pc' := 24) rfl ?_
  intro T2 X2
  refine o_areturn K X2 (t := (.array .long)) d_cor1_24 rfl rfl rfl ?_ (by decide) (by decide)
  exact ⟨b1, kb, rfl, ((Keep.refl h0 []).ext E1), (Nat.le_of_eq g1.symm), A1, B1⟩
theorem d_get1_1_0 : decode prog_25_method_6_code 0 = .ok (.aload_n 0, 1) := by decide +kernel
theorem d_get1_1_1 : decode prog_25_method_6_code 1 = .ok (.lload_n 1, 1) := by decide +kernel
theorem d_get1_1_2 : decode prog_25_method_6_code 2 = .ok (.invokevirtual 37, 3) := by decide +kernel
theorem d_get1_1_5 : decode prog_25_method_6_code 5 = .ok (.istore_n 3, 1) := by decide +kernel
theorem d_get1_1_6 : decode prog_25_method_6_code 6 = .ok (.iload_n 3, 1) := by decide +kernel
theorem d_get1_1_7 : decode prog_25_method_6_code 7 = .ok (.aload_n 0, 1) := by decide +kernel
theorem d_get1_1_8 : decode prog_25_method_6_code 8 = .ok (.getfield 13, 3) := by decide +kernel
theorem d_get1_1_11 : decode prog_25_method_6_code 11 = .ok (.arraylength, 1) := by decide +kernel
theorem d_get1_1_12 : decode prog_25_method_6_code 12 = .ok (.if_icmp .ne 5, 3) := by decide +kernel
theorem d_get1_1_17 : decode prog_25_method_6_code 17 = .ok (.aload_n 0, 1) := by decide +kernel
theorem d_get1_1_18 : decode prog_25_method_6_code 18 = .ok (.aload_n 0, 1) := by decide +kernel
theorem d_get1_1_19 : decode prog_25_method_6_code 19 = .ok (.getfield 13, 3) := by decide +kernel
theorem d_get1_1_22 : decode prog_25_method_6_code 22 = .ok (.iload_n 3, 1) := by decide +kernel
theorem d_get1_1_23 : decode prog_25_method_6_code 23 = .ok (.aaload, 1) := by decide +kernel
theorem d_get1_1_24 : decode prog_25_method_6_code 24 = .ok (.lload_n 1, 1) := by decide +kernel
theorem d_get1_1_25 : decode prog_25_method_6_code 25 = .ok (.invokevirtual 41, 3) := by decide +kernel
theorem d_get1_1_28 : decode prog_25_method_6_code 28 = .ok (.istore 4, 2) := by decide +kernel
theorem d_get1_1_30 : decode prog_25_method_6_code 30 = .ok (.iload 4, 2) := by decide +kernel
theorem d_get1_1_32 : decode prog_25_method_6_code 32 = .ok (.ifCond .ge 7, 3) := by decide +kernel
theorem d_get1_1_39 : decode prog_25_method_6_code 39 = .ok (.aload_n 0, 1) := by decide +kernel
theorem d_get1_1_40 : decode prog_25_method_6_code 40 = .ok (.getfield 13, 3) := by decide +kernel
theorem d_get1_1_43 : decode prog_25_method_6_code 43 = .ok (.iload_n 3, 1) := by decide +kernel
theorem d_get1_1_44 : decode prog_25_method_6_code 44 = .ok (.aaload, 1) := by decide +kernel
theorem d_get1_1_45 : decode prog_25_method_6_code 45 = .ok (.iload 4, 2) := by decide +kernel
theorem d_get1_1_47 : decode prog_25_method_6_code 47 = .ok (.aload_n 0, 1) := by decide +kernel
theorem d_get1_1_48 : decode prog_25_method_6_code 48 = .ok (.getfield 7, 3) := by decide +kernel
theorem d_get1_1_51 : decode prog_25_method_6_code 51 = .ok (.imul, 1) := by decide +kernel
theorem d_get1_1_52 : decode prog_25_method_6_code 52 = .ok (.iload 4, 2) := by decide +kernel
theorem d_get1_1_54 : decode prog_25_method_6_code 54 = .ok (.iconst 1, 1) := by decide +kernel
theorem d_get1_1_55 : decode prog_25_method_6_code 55 = .ok (.iadd, 1) := by decide +kernel
theorem d_get1_1_56 : decode prog_25_method_6_code 56 = .ok (.aload_n 0, 1) := by decide +kernel
theorem d_get1_1_57 : decode prog_25_method_6_code 57 = .ok (.getfield 7, 3) := by decide +kernel
theorem d_get1_1_60 : decode prog_25_method_6_code 60 = .ok (.imul, 1) := by decide +kernel
theorem d_get1_1_61 : decode prog_25_method_6_code 61 = .ok (.invokestatic 31, 3) := by decide +kernel
theorem d_get1_1_64 : decode prog_25_method_6_code 64 = .ok (.areturn, 1) := by decide +kernel
theorem pd_get1_1_0 : parseMethodDescriptor "(J)I" = some ⟨[.long], some .int⟩ := by decide +kernel
theorem pd_get1_1_1 : parseMethodDescriptor "([JJ)I" = some ⟨[(.array .long), .long], some .int⟩ := by decide +kernel
theorem pd_get1_1_2 : parseMethodDescriptor "([JII)[J" = some ⟨[(.array .long), .int, .int], some (.array .long)⟩ := by decide +kernel
def r_get1_1 : Room := { frames := 2, cells := 1, slots := 1, locals := 28 }
def Q_get1_1 (Z : State) (a : Addr) (c : Addr) (kc : ClassId) (x : Addr) (kx : ClassId) (d0 : Int64) (h0 : Heap) (v : Option Value) (h : Heap) : Prop := ∃ r : Addr, ∃ k : ClassId, v = some (.ref r) ∧ Keep h0 h [] ∧ h0.size ≤ r ∧ oArr Z h r k .long [(.long d0)] ∧ Exa Z h r "[J"
set_option maxRecDepth 65536 in
set_option maxHeartbeats 40000000 in
theorem rm_get1_1 (l : Launch) (Z : State) (a0 : Array Value) (hw : oHw Z a0) (a : Addr) (c : Addr) (kc : ClassId) (x : Addr) (kx : ClassId) (d0 : Int64) (h0 : Heap) (q0 : Exa Z h0 a "com/example/rosterlink/rosterlink/model/IdChunks") (q1 : Fld Z h0 a "com/example/rosterlink/rosterlink/model/IdChunks" "width" "I" (.int (1 : Int32))) (q2 : Fld Z h0 a "com/example/rosterlink/rosterlink/model/IdChunks" "chunks" "[[J" (.ref c)) (q3 : Fld Z h0 a "com/example/rosterlink/rosterlink/model/IdChunks" "size" "I" (.int (1 : Int32))) (q4 : oArr Z h0 c kc (.array .long) [(.ref x)]) (q5 : oArr Z h0 x kx .long [(.long d0)]) (q6 : Exa Z h0 x "[J") : oMet l Z (⟨"com/example/rosterlink/rosterlink/model/IdChunks", "get", "(J)[J"⟩ : MethodName) prog_25_method_6_code 5 (some (.array .long)) r_get1_1 [] #[(.ref a), (.long d0)] h0 (Q_get1_1 Z a c kc x kx d0 h0) := by
  refine oEnter (plainFor_of_name (by first | (simp [plainName, overriddenIn]; done) | decide +kernel)) (own := "com/example/rosterlink/rosterlink/model/IdChunks") (nm := "get") rfl rfl (L := #[.val (.ref a), .val (.long d0), .second, .unset, .unset]) (fun m => by first | (simp [entryFrame, mkF, argsToLocals, Value.category]; done) | rfl) ?_
  intro pp ee ss mm bb mtd cc T0 K X0
  have E0 := X0.ext0
  refine o_aloadN K X0 d_get1_1_0 (pc' := 1) rfl rfl rfl ?_
  refine o_lloadN K X0 d_get1_1_1 (pc' := 2) rfl rfl ?_
  refine o_private K X0 (y := (⟨"com/example/rosterlink/rosterlink/model/IdChunks", "chunkFor", "(J)I"⟩ : MethodName)) (w34 hw) (w35 hw) (oSelects (w8 hw) (w35 hw) (w36 hw) (by decide)) (w36 hw) (w3 hw) (w37 hw) (by decide) q0 (rm_cf1_1 l Z a0 hw a c kc x kx d0 h0 q0 q1 q2 q3 q4 q5 q6) (by decide) rfl (argsL := [(.long d0)]) rfl (lenOf pd_get1_1_0 rfl) (W := 0) rfl (by decide) (by decide) (by decide) d_get1_1_2 (pc' := 5) rfl ?_
  intro v1 T1 h1 X1 U1
  obtain ⟨rfl, rfl⟩ := U1
  show oGoes pp ee bb ss Z T1 (mkF mm 5 #[.val (.ref a), .val (.long d0), .second, .unset, .unset] [(.int (0 : Int32))]) _ _ _
  refine o_istoreN K X1 d_get1_1_5 (pc' := 6) rfl (L' := #[.val (.ref a), .val (.long d0), .second, .val (.int (0 : Int32)), .unset]) rfl ?_
  refine o_iloadN K X1 d_get1_1_6 (pc' := 7) rfl rfl ?_
  refine o_aloadN K X1 d_get1_1_7 (pc' := 8) rfl rfl rfl ?_
  refine o_getfield K X1 (host := "") (Or.inl (w17 hw)) Via.refl q2 d_get1_1_8 (pc' := 11) rfl ?_
  intro T2 X2
  refine o_arraylength K X2 q4 (z := (1 : Int32)) rfl d_get1_1_11 (pc' := 12) rfl ?_
  refine o_icmp_ne_t K X2 d_get1_1_12 (by decide) (pc' := 17) (by decide) (by decide) ?_
  refine o_aloadN K X2 d_get1_1_17 (pc' := 18) rfl rfl rfl ?_
  refine o_aloadN K X2 d_get1_1_18 (pc' := 19) rfl rfl rfl ?_
  refine o_getfield K X2 (host := "") (Or.inl (w17 hw)) Via.refl q2 d_get1_1_19 (pc' := 22) rfl ?_
  intro T3 X3
  refine o_iloadN K X3 d_get1_1_22 (pc' := 23) rfl rfl ?_
  refine o_aaload K X3 rfl q4 (by decide) (v := (.ref x)) rfl d_get1_1_23 (pc' := 24) rfl ?_
  refine o_lloadN K X3 d_get1_1_24 (pc' := 25) rfl rfl ?_
  refine o_private K X3 (y := (⟨"com/example/rosterlink/rosterlink/model/IdChunks", "find", "([JJ)I"⟩ : MethodName)) (w71 hw) (w72 hw) (oSelects (w8 hw) (w72 hw) (w73 hw) (by decide)) (w73 hw) (w3 hw) (w74 hw) (by decide) q0 (rm_find1 l Z a0 hw a c kc x kx d0 h0 q0 q1 q2 q3 q4 q5 q6) (by decide) rfl (argsL := [(.ref x), (.long d0)]) rfl (lenOf pd_get1_1_1 rfl) (W := 0) rfl (by decide) (by decide) (by decide) d_get1_1_25 (pc' := 28) rfl ?_
  intro v4 T4 h4 X4 U4
  obtain ⟨rfl, rfl⟩ := U4
  show oGoes pp ee bb ss Z T4 (mkF mm 28 #[.val (.ref a), .val (.long d0), .second, .val (.int (0 : Int32)), .unset] [(.int (0 : Int32))]) _ _ _
  refine o_istore K X4 d_get1_1_28 (pc' := 30) rfl (L' := #[.val (.ref a), .val (.long d0), .second, .val (.int (0 : Int32)), .val (.int (0 : Int32))]) rfl ?_
  refine o_iload K X4 d_get1_1_30 (pc' := 32) rfl rfl ?_
  refine o_if_ge_t K X4 d_get1_1_32 (by decide) (pc' := 39) (by decide) (by decide) ?_
  refine o_aloadN K X4 d_get1_1_39 (pc' := 40) rfl rfl rfl ?_
  refine o_getfield K X4 (host := "") (Or.inl (w17 hw)) Via.refl q2 d_get1_1_40 (pc' := 43) rfl ?_
  intro T5 X5
  refine o_iloadN K X5 d_get1_1_43 (pc' := 44) rfl rfl ?_
  refine o_aaload K X5 rfl q4 (by decide) (v := (.ref x)) rfl d_get1_1_44 (pc' := 45) rfl ?_
  refine o_iload K X5 d_get1_1_45 (pc' := 47) rfl rfl ?_
  refine o_aloadN K X5 d_get1_1_47 (pc' := 48) rfl rfl rfl ?_
  refine o_getfield K X5 (host := "") (Or.inl (w15 hw)) Via.refl q1 d_get1_1_48 (pc' := 51) rfl ?_
  intro T6 X6
  refine o_imul K X6 d_get1_1_51 (pc' := 52) rfl (z := (0 : Int32)) (by decide) ?_
  refine o_iload K X6 d_get1_1_52 (pc' := 54) rfl rfl ?_
  refine o_iconst K X6 d_get1_1_54 (pc' := 55) rfl (z := (1 : Int32)) rfl ?_
  refine o_iadd K X6 d_get1_1_55 (pc' := 56) rfl (z := (1 : Int32)) (by decide) ?_
  refine o_aloadN K X6 d_get1_1_56 (pc' := 57) rfl rfl rfl ?_
  refine o_getfield K X6 (host := "") (Or.inl (w15 hw)) Via.refl q1 d_get1_1_57 (pc' := 60) rfl ?_
  intro T7 X7
  refine o_imul K X7 d_get1_1_60 (pc' := 61) rfl (z := (1 : Int32)) (by decide) ?_
  refine o_static K X7 (y := (⟨"java/util/Arrays", "copyOfRange", "([JII)[J"⟩ : MethodName)) (w75 hw) (w76 hw) (w77 hw) (w78 hw) (by decide) (rm_cor1 l Z a0 hw x kx d0 h0 q5 q6) (by decide) rfl (argsL := [(.ref x), (.int (0 : Int32)), (.int (1 : Int32))]) rfl (lenOf pd_get1_1_2 rfl) (W := 0) rfl (by decide) (by decide) (by decide) d_get1_1_61 (pc' := 64) rfl ?_
  intro v8 T8 h8 X8 U8
  obtain ⟨r_8, k_8, rfl, u8_0, u8_1, u8_2, u8_3⟩ := U8
  have G8_r : Z.heap.size ≤ r_8 := Nat.le_trans (Nat.le_trans E0.1 (Nat.le_refl _)) u8_1
  show oGoes pp ee bb ss Z T8 (mkF mm 64 #[.val (.ref a), .val (.long d0), .second, .val (.int (0 : Int32)), .val (.int (0 : Int32))] [(.ref r_8)]) _ _ _
  refine o_areturn K X8 (t := (.array .long)) d_get1_1_64 rfl rfl rfl ?_ (by decide) (by decide)
  exact ⟨r_8, k_8, rfl, ((Keep.refl h0 []).trans u8_0 all0), u8_1, u8_2, u8_3⟩
theorem d_ents1_0 : decode prog_25_method_12_code 0 = .ok (.aload_n 0, 1) := by decide +kernel
theorem d_ents1_1 : decode prog_25_method_12_code 1 = .ok (.getfield 17, 3) := by decide +kernel
theorem d_ents1_4 : decode prog_25_method_12_code 4 = .ok (.aload_n 0, 1) := by decide +kernel
theorem d_ents1_5 : decode prog_25_method_12_code 5 = .ok (.getfield 7, 3) := by decide +kernel
theorem d_ents1_8 : decode prog_25_method_12_code 8 = .ok (.imul, 1) := by decide +kernel
theorem d_ents1_9 : decode prog_25_method_12_code 9 = .ok (.newarray .long, 2) := by decide +kernel
theorem d_ents1_11 : decode prog_25_method_12_code 11 = .ok (.astore_n 1, 1) := by decide +kernel
theorem d_ents1_12 : decode prog_25_method_12_code 12 = .ok (.iconst 0, 1) := by decide +kernel
theorem d_ents1_13 : decode prog_25_method_12_code 13 = .ok (.istore_n 2, 1) := by decide +kernel
theorem d_ents1_14 : decode prog_25_method_12_code 14 = .ok (.aload_n 0, 1) := by decide +kernel
theorem d_ents1_15 : decode prog_25_method_12_code 15 = .ok (.getfield 13, 3) := by decide +kernel
theorem d_ents1_18 : decode prog_25_method_12_code 18 = .ok (.astore_n 3, 1) := by decide +kernel
theorem d_ents1_19 : decode prog_25_method_12_code 19 = .ok (.aload_n 3, 1) := by decide +kernel
theorem d_ents1_20 : decode prog_25_method_12_code 20 = .ok (.arraylength, 1) := by decide +kernel
theorem d_ents1_21 : decode prog_25_method_12_code 21 = .ok (.istore 4, 2) := by decide +kernel
theorem d_ents1_23 : decode prog_25_method_12_code 23 = .ok (.iconst 0, 1) := by decide +kernel
theorem d_ents1_24 : decode prog_25_method_12_code 24 = .ok (.istore 5, 2) := by decide +kernel
theorem d_ents1_26 : decode prog_25_method_12_code 26 = .ok (.iload 5, 2) := by decide +kernel
theorem d_ents1_28 : decode prog_25_method_12_code 28 = .ok (.iload 4, 2) := by decide +kernel
theorem d_ents1_30 : decode prog_25_method_12_code 30 = .ok (.if_icmp .ge 32, 3) := by decide +kernel
theorem d_ents1_33 : decode prog_25_method_12_code 33 = .ok (.aload_n 3, 1) := by decide +kernel
theorem d_ents1_34 : decode prog_25_method_12_code 34 = .ok (.iload 5, 2) := by decide +kernel
theorem d_ents1_36 : decode prog_25_method_12_code 36 = .ok (.aaload, 1) := by decide +kernel
theorem d_ents1_37 : decode prog_25_method_12_code 37 = .ok (.astore 6, 2) := by decide +kernel
theorem d_ents1_39 : decode prog_25_method_12_code 39 = .ok (.aload 6, 2) := by decide +kernel
theorem d_ents1_41 : decode prog_25_method_12_code 41 = .ok (.iconst 0, 1) := by decide +kernel
theorem d_ents1_42 : decode prog_25_method_12_code 42 = .ok (.aload_n 1, 1) := by decide +kernel
theorem d_ents1_43 : decode prog_25_method_12_code 43 = .ok (.iload_n 2, 1) := by decide +kernel
theorem d_ents1_44 : decode prog_25_method_12_code 44 = .ok (.aload 6, 2) := by decide +kernel
theorem d_ents1_46 : decode prog_25_method_12_code 46 = .ok (.arraylength, 1) := by decide +kernel
theorem d_ents1_47 : decode prog_25_method_12_code 47 = .ok (.invokestatic 53, 3) := by decide +kernel
theorem d_ents1_50 : decode prog_25_method_12_code 50 = .ok (.iload_n 2, 1) := by decide +kernel
theorem d_ents1_51 : decode prog_25_method_12_code 51 = .ok (.aload 6, 2) := by decide +kernel
theorem d_ents1_53 : decode prog_25_method_12_code 53 = .ok (.arraylength, 1) := by decide +kernel
theorem d_ents1_54 : decode prog_25_method_12_code 54 = .ok (.iadd, 1) := by decide +kernel
theorem d_ents1_55 : decode prog_25_method_12_code 55 = .ok (.istore_n 2, 1) := by decide +kernel
theorem d_ents1_56 : decode prog_25_method_12_code 56 = .ok (.iinc 5 1, 3) := by decide +kernel
theorem d_ents1_59 : decode prog_25_method_12_code 59 = .ok (.goto (-33), 3) := by decide +kernel
theorem d_ents1_62 : decode prog_25_method_12_code 62 = .ok (.aload_n 1, 1) := by decide +kernel
theorem d_ents1_63 : decode prog_25_method_12_code 63 = .ok (.areturn, 1) := by decide +kernel
def r_ents1 : Room := { frames := 1, cells := 1, slots := 1, locals := 18 }
def Q_ents1 (Z : State) (a : Addr) (c : Addr) (kc : ClassId) (x : Addr) (kx : ClassId) (d0 : Int64) (h0 : Heap) (v : Option Value) (h : Heap) : Prop := ∃ r : Addr, ∃ k : ClassId, v = some (.ref r) ∧ Keep h0 h [] ∧ h0.size ≤ r ∧ oArr Z h r k .long [(.long d0)]
set_option maxRecDepth 65536 in
set_option maxHeartbeats 40000000 in
theorem rm_ents1 (l : Launch) (Z : State) (a0 : Array Value) (hw : oHw Z a0) (a : Addr) (c : Addr) (kc : ClassId) (x : Addr) (kx : ClassId) (d0 : Int64) (h0 : Heap) (q0 : Exa Z h0 a "com/example/rosterlink/rosterlink/model/IdChunks") (q1 : Fld Z h0 a "com/example/rosterlink/rosterlink/model/IdChunks" "width" "I" (.int (1 : Int32))) (q2 : Fld Z h0 a "com/example/rosterlink/rosterlink/model/IdChunks" "chunks" "[[J" (.ref c)) (q3 : Fld Z h0 a "com/example/rosterlink/rosterlink/model/IdChunks" "size" "I" (.int (1 : Int32))) (q4 : oArr Z h0 c kc (.array .long) [(.ref x)]) (q5 : oArr Z h0 x kx .long [(.long d0)]) (q6 : Exa Z h0 x "[J") : oMet l Z (⟨"com/example/rosterlink/rosterlink/model/IdChunks", "entries", "()[J"⟩ : MethodName) prog_25_method_12_code 7 (some (.array .long)) r_ents1 [] #[(.ref a)] h0 (Q_ents1 Z a c kc x kx d0 h0) := by
  refine oEnter (plainFor_of_name (by first | (simp [plainName, overriddenIn]; done) | decide +kernel)) (own := "com/example/rosterlink/rosterlink/model/IdChunks") (nm := "entries") rfl rfl (L := #[.val (.ref a), .unset, .unset, .unset, .unset, .unset, .unset]) (fun m => by first | (simp [entryFrame, mkF, argsToLocals, Value.category]; done) | rfl) ?_
  intro pp ee ss mm bb mtd cc T0 K X0
  have E0 := X0.ext0
  refine o_aloadN K X0 d_ents1_0 (pc' := 1) rfl rfl rfl ?_
  refine o_getfield K X0 (host := "") (Or.inl (w19 hw)) Via.refl q3 d_ents1_1 (pc' := 4) rfl ?_
  intro T1 X1
  refine o_aloadN K X1 d_ents1_4 (pc' := 5) rfl rfl rfl ?_
  refine o_getfield K X1 (host := "") (Or.inl (w15 hw)) Via.refl q1 d_ents1_5 (pc' := 8) rfl ?_
  intro T2 X2
  refine o_imul K X2 d_ents1_8 (pc' := 9) rfl (z := (1 : Int32)) (by decide) ?_
  refine o_newarray K X2 (aty := .long) 1 (w0 hw) (ad := "[J") (by decide +kernel) (by decide) (by decide) (by decide) rfl d_ents1_9 (pc' := 11) rfl (by decide) (by decide) ?_
  intro T3 h3 b3 k3 X3 g3 E3 A3 B3 G3
  replace A3 : oArr Z h3 b3 k3 .long [(.long (0 : Int64))] := A3
  refine o_astoreN K X3 d_ents1_11 (pc' := 12) rfl rfl (L' := #[.val (.ref a), .val (.ref b3), .unset, .unset, .unset, .unset, .unset]) rfl ?_
  refine o_iconst K X3 d_ents1_12 (pc' := 13) rfl (z := (0 : Int32)) rfl ?_
  refine o_istoreN K X3 d_ents1_13 (pc' := 14) rfl (L' := #[.val (.ref a), .val (.ref b3), .val (.int (0 : Int32)), .unset, .unset, .unset, .unset]) rfl ?_
  refine o_aloadN K X3 d_ents1_14 (pc' := 15) rfl rfl rfl ?_
  refine o_getfield K X3 (host := "") (Or.inl (w17 hw)) Via.refl (q2.ext E3) d_ents1_15 (pc' := 18) rfl ?_
  intro T4 X4
  refine o_astoreN K X4 d_ents1_18 (pc' := 19) rfl rfl (L' := #[.val (.ref a), .val (.ref b3), .val (.int (0 : Int32)), .val (.ref c), .unset, .unset, .unset]) rfl ?_
  refine o_aloadN K X4 d_ents1_19 (pc' := 20) rfl rfl rfl ?_
  refine o_arraylength K X4 (q4.ext E3) (z := (1 : Int32)) rfl d_ents1_20 (pc' := 21) rfl ?_
  refine o_istore K X4 d_ents1_21 (pc' := 23) rfl (L' := #[.val (.ref a), .val (.ref b3), .val (.int (0 : Int32)), .val (.ref c), .val (.int (1 : Int32)), .unset, .unset]) rfl ?_
  refine o_iconst K X4 d_ents1_23 (pc' := 24) rfl (z := (0 : Int32)) rfl ?_
  refine o_istore K X4 d_ents1_24 (pc' := 26) rfl (L' := #[.val (.ref a), .val (.ref b3), .val (.int (0 : Int32)), .val (.ref c), .val (.int (1 : Int32)), .val (.int (0 : Int32)), .unset]) rfl ?_
  refine o_iload K X4 d_ents1_26 (pc' := 28) rfl rfl ?_
  refine o_iload K X4 d_ents1_28 (pc' := 30) rfl rfl ?_
  refine o_icmp_ge_f K X4 d_ents1_30 (pc' := 33) rfl (by decide) ?_
  refine o_aloadN K X4 d_ents1_33 (pc' := 34) rfl rfl rfl ?_
  refine o_iload K X4 d_ents1_34 (pc' := 36) rfl rfl ?_
  refine o_aaload K X4 rfl (q4.ext E3) (by decide) (v := (.ref x)) rfl d_ents1_36 (pc' := 37) rfl ?_
  refine o_astore K X4 d_ents1_37 (pc' := 39) rfl rfl (L' := #[.val (.ref a), .val (.ref b3), .val (.int (0 : Int32)), .val (.ref c), .val (.int (1 : Int32)), .val (.int (0 : Int32)), .val (.ref x)]) rfl ?_
  refine o_aload K X4 d_ents1_39 (pc' := 41) rfl rfl rfl ?_
  refine o_iconst K X4 d_ents1_41 (pc' := 42) rfl (z := (0 : Int32)) rfl ?_
  refine o_aloadN K X4 d_ents1_42 (pc' := 43) rfl rfl rfl ?_
  refine o_iloadN K X4 d_ents1_43 (pc' := 44) rfl rfl ?_
  refine o_aload K X4 d_ents1_44 (pc' := 46) rfl rfl rfl ?_
  refine o_arraylength K X4 (q5.ext E3) (z := (1 : Int32)) rfl d_ents1_46 (pc' := 47) rfl ?_
  refine o_arraycopy K X4 [(.long d0)] [(.long d0)] (w90 hw) (w93 hw) (w91 hw) (w92 hw) (q5.ext E3) A3 (Or.inl ⟨rfl, rfl⟩) (by decide) (by decide) (by decide) (show (0 : Int32).toNatClampNeg + (1 : Int32).toNatClampNeg ≤ 1 from (by decide)) (show (0 : Int32).toNatClampNeg + (1 : Int32).toNatClampNeg ≤ 1 from (by decide)) rfl rfl rfl G3 d_ents1_47 (pc' := 50) rfl rfl (by decide) (W := 0) rfl (by decide) ?_
  intro T5 h5 X5 K5 A5
  refine o_iloadN K X5 d_ents1_50 (pc' := 51) rfl rfl ?_
  refine o_aload K X5 d_ents1_51 (pc' := 53) rfl rfl rfl ?_
  refine o_arraylength K X5 ((q5.ext E3).keep K5 (ninS (Nat.ne_of_lt (Nat.lt_of_lt_of_le q5.lt (Nat.le_of_eq g3.symm))) nin0)) (z := (1 : Int32)) rfl d_ents1_53 (pc' := 54) rfl ?_
  refine o_iadd K X5 d_ents1_54 (pc' := 55) rfl (z := (1 : Int32)) (by decide) ?_
  refine o_istoreN K X5 d_ents1_55 (pc' := 56) rfl (L' := #[.val (.ref a), .val (.ref b3), .val (.int (1 : Int32)), .val (.ref c), .val (.int (1 : Int32)), .val (.int (0 : Int32)), .val (.ref x)]) rfl ?_
  refine o_iinc K X5 d_ents1_56 (pc' := 59) rfl rfl (L' := #[.val (.ref a), .val (.ref b3), .val (.int (1 : Int32)), .val (.ref c), .val (.int (1 : Int32)), .val (.int (1 : Int32)), .val (.ref x)]) (by rw [show (0 : Int32) + Int32.ofInt 1 = (1 : Int32) from (by decide)]; rfl) ?_
  refine o_goto K X5 d_ents1_59 (by decide) (pc' := 26) (by decide) ?_
  refine o_iload K X5 d_ents1_26 (pc' := 28) rfl rfl ?_
  refine o_iload K X5 d_ents1_28 (pc' := 30) rfl rfl ?_
  refine o_icmp_ge_t K X5 d_ents1_30 (by decide) (pc' := 62) (by decide) (by decide) ?_
  refine o_aloadN K X5 d_ents1_62 (pc' := 63) rfl rfl rfl ?_
  refine o_areturn K X5 (t := (.array .long)) d_ents1_63 rfl rfl rfl ?_ (by decide) (by decide)
  exact ⟨b3, k3, rfl, (((Keep.refl h0 []).ext E3).trans K5 (allS (Or.inr (Nat.le_of_eq g3.symm)) all0)), (Nat.le_of_eq g3.symm), A5⟩
theorem d_same1_0 : decode method_3_code 0 = .ok (.aload_n 0, 1) := by decide +kernel
theorem d_same1_1 : decode method_3_code 1 = .ok (.arraylength, 1) := by decide +kernel
theorem d_same1_2 : decode method_3_code 2 = .ok (.aload_n 1, 1) := by decide +kernel
theorem d_same1_3 : decode method_3_code 3 = .ok (.arraylength, 1) := by decide +kernel
theorem d_same1_4 : decode method_3_code 4 = .ok (.if_icmp .eq 5, 3) := by decide +kernel
theorem d_same1_9 : decode method_3_code 9 = .ok (.aload_n 0, 1) := by decide +kernel
theorem d_same1_10 : decode method_3_code 10 = .ok (.arraylength, 1) := by decide +kernel
theorem d_same1_11 : decode method_3_code 11 = .ok (.istore_n 2, 1) := by decide +kernel
theorem d_same1_12 : decode method_3_code 12 = .ok (.iload_n 2, 1) := by decide +kernel
theorem d_same1_13 : decode method_3_code 13 = .ok (.iconst 4, 1) := by decide +kernel
theorem d_same1_14 : decode method_3_code 14 = .ok (.if_icmp .le 5, 3) := by decide +kernel
theorem d_same1_19 : decode method_3_code 19 = .ok (.iload_n 2, 1) := by decide +kernel
theorem d_same1_20 : decode method_3_code 20 = .ok (.iconst 1, 1) := by decide +kernel
theorem d_same1_21 : decode method_3_code 21 = .ok (.if_icmp .lt 15, 3) := by decide +kernel
theorem d_same1_24 : decode method_3_code 24 = .ok (.aload_n 0, 1) := by decide +kernel
theorem d_same1_25 : decode method_3_code 25 = .ok (.iconst 0, 1) := by decide +kernel
theorem d_same1_26 : decode method_3_code 26 = .ok (.laload, 1) := by decide +kernel
theorem d_same1_27 : decode method_3_code 27 = .ok (.aload_n 1, 1) := by decide +kernel
theorem d_same1_28 : decode method_3_code 28 = .ok (.iconst 0, 1) := by decide +kernel
theorem d_same1_29 : decode method_3_code 29 = .ok (.laload, 1) := by decide +kernel
theorem d_same1_30 : decode method_3_code 30 = .ok (.lcmp, 1) := by decide +kernel
theorem d_same1_31 : decode method_3_code 31 = .ok (.ifCond .eq 5, 3) := by decide +kernel
theorem d_same1_36 : decode method_3_code 36 = .ok (.iload_n 2, 1) := by decide +kernel
theorem d_same1_37 : decode method_3_code 37 = .ok (.iconst 2, 1) := by decide +kernel
theorem d_same1_38 : decode method_3_code 38 = .ok (.if_icmp .lt 15, 3) := by decide +kernel
theorem d_same1_53 : decode method_3_code 53 = .ok (.iload_n 2, 1) := by decide +kernel
theorem d_same1_54 : decode method_3_code 54 = .ok (.iconst 3, 1) := by decide +kernel
theorem d_same1_55 : decode method_3_code 55 = .ok (.if_icmp .lt 15, 3) := by decide +kernel
theorem d_same1_70 : decode method_3_code 70 = .ok (.iload_n 2, 1) := by decide +kernel
theorem d_same1_71 : decode method_3_code 71 = .ok (.iconst 4, 1) := by decide +kernel
theorem d_same1_72 : decode method_3_code 72 = .ok (.if_icmp .lt 15, 3) := by decide +kernel
theorem d_same1_87 : decode method_3_code 87 = .ok (.iconst 1, 1) := by decide +kernel
theorem d_same1_88 : decode method_3_code 88 = .ok (.ireturn, 1) := by decide +kernel
def r_same1 : Room := { frames := 0, cells := 0, slots := 0, locals := 0 }
def Q_same1 (Z : State) (a : Addr) (ka : ClassId) (b : Addr) (kb : ClassId) (d0 : Int64) (h0 : Heap) (v : Option Value) (h : Heap) : Prop := v = some (.int (1 : Int32)) ∧ h0 = h
set_option maxRecDepth 65536 in
set_option maxHeartbeats 40000000 in
theorem rm_same1 (l : Launch) (Z : State) (a0 : Array Value) (hw : oHw Z a0) (a : Addr) (ka : ClassId) (b : Addr) (kb : ClassId) (d0 : Int64) (h0 : Heap) (q0 : oArr Z h0 a ka .long [(.long d0)]) (q1 : oArr Z h0 b kb .long [(.long d0)]) : oMet l Z (⟨"com/example/rosterlink/rosterlink/model/IdChunksEmptyPinLaw", "same", "([J[J)Z"⟩ : MethodName) method_3_code 3 (some .boolean) r_same1 [] #[(.ref a), (.ref b)] h0 (Q_same1 Z a ka b kb d0 h0) := by
  refine oEnter (plainFor_of_name (by first | (simp [plainName, overriddenIn]; done) | decide +kernel)) (own := "com/example/rosterlink/rosterlink/model/IdChunksEmptyPinLaw") (nm := "same") rfl rfl (L := #[.val (.ref a), .val (.ref b), .unset]) (fun m => by first | (simp [entryFrame, mkF, argsToLocals, Value.category]; done) | rfl) ?_
  intro pp ee ss mm bb mtd cc T0 K X0
  have E0 := X0.ext0
  refine o_aloadN K X0 d_same1_0 (pc' := 1) rfl rfl rfl ?_
  refine o_arraylength K X0 q0 (z := (1 : Int32)) rfl d_same1_1 (pc' := 2) rfl ?_
  refine o_aloadN K X0 d_same1_2 (pc' := 3) rfl rfl rfl ?_
  refine o_arraylength K X0 q1 (z := (1 : Int32)) rfl d_same1_3 (pc' := 4) rfl ?_
  refine o_icmp_eq_t K X0 d_same1_4 (by decide) (pc' := 9) (by decide) (by decide) ?_
  refine o_aloadN K X0 d_same1_9 (pc' := 10) rfl rfl rfl ?_
  refine o_arraylength K X0 q0 (z := (1 : Int32)) rfl d_same1_10 (pc' := 11) rfl ?_
  refine o_istoreN K X0 d_same1_11 (pc' := 12) rfl (L' := #[.val (.ref a), .val (.ref b), .val (.int (1 : Int32))]) rfl ?_
  refine o_iloadN K X0 d_same1_12 (pc' := 13) rfl rfl ?_
  refine o_iconst K X0 d_same1_13 (pc' := 14) rfl (z := (4 : Int32)) rfl ?_
  refine o_icmp_le_t K X0 d_same1_14 (by decide) (pc' := 19) (by decide) (by decide) ?_
  refine o_iloadN K X0 d_same1_19 (pc' := 20) rfl rfl ?_
  refine o_iconst K X0 d_same1_20 (pc' := 21) rfl (z := (1 : Int32)) rfl ?_
  refine o_icmp_lt_f K X0 d_same1_21 (pc' := 24) rfl (by decide) ?_
  refine o_aloadN K X0 d_same1_24 (pc' := 25) rfl rfl rfl ?_
  refine o_iconst K X0 d_same1_25 (pc' := 26) rfl (z := (0 : Int32)) rfl ?_
  refine o_laload K X0 q0 (by decide) (v := (.long d0)) rfl d_same1_26 (pc' := 27) rfl ?_
  refine o_aloadN K X0 d_same1_27 (pc' := 28) rfl rfl rfl ?_
  refine o_iconst K X0 d_same1_28 (pc' := 29) rfl (z := (0 : Int32)) rfl ?_
  refine o_laload K X0 q1 (by decide) (v := (.long d0)) rfl d_same1_29 (pc' := 30) rfl ?_
  refine o_lcmp K X0 d_same1_30 (pc' := 31) rfl (z := (0 : Int32)) (oLcmp _) ?_
  refine o_if_eq_t K X0 d_same1_31 (by decide) (pc' := 36) (by decide) (by decide) ?_
  refine o_iloadN K X0 d_same1_36 (pc' := 37) rfl rfl ?_
  refine o_iconst K X0 d_same1_37 (pc' := 38) rfl (z := (2 : Int32)) rfl ?_
  refine o_icmp_lt_t K X0 d_same1_38 (by decide) (pc' := 53) (by decide) (by decide) ?_
  refine o_iloadN K X0 d_same1_53 (pc' := 54) rfl rfl ?_
  refine o_iconst K X0 d_same1_54 (pc' := 55) rfl (z := (3 : Int32)) rfl ?_
  refine o_icmp_lt_t K X0 d_same1_55 (by decide) (pc' := 70) (by decide) (by decide) ?_
  refine o_iloadN K X0 d_same1_70 (pc' := 71) rfl rfl ?_
  refine o_iconst K X0 d_same1_71 (pc' := 72) rfl (z := (4 : Int32)) rfl ?_
  refine o_icmp_lt_t K X0 d_same1_72 (by decide) (pc' := 87) (by decide) (by decide) ?_
  refine o_iconst K X0 d_same1_87 (pc' := 88) rfl (z := (1 : Int32)) rfl ?_
  refine o_ireturnN K X0 .boolean d_same1_88 rfl (by simp) (z' := (1 : Int32)) (by decide) ?_ (by decide) (by decide)
  exact ⟨rfl, rfl⟩
theorem d_with2_0 : decode prog_25_method_7_code 0 = .ok (.aload_n 0, 1) := by decide +kernel
theorem d_with2_1 : decode prog_25_method_7_code 1 = .ok (.getfield 13, 3) := by decide +kernel
theorem d_with2_4 : decode prog_25_method_7_code 4 = .ok (.arraylength, 1) := by decide +kernel
theorem d_with2_5 : decode prog_25_method_7_code 5 = .ok (.ifCond .ne 30, 3) := by decide +kernel
theorem d_with2_8 : decode prog_25_method_7_code 8 = .ok (.new 8, 3) := by decide +kernel
theorem d_with2_11 : decode prog_25_method_7_code 11 = .ok (.dup, 1) := by decide +kernel
theorem d_with2_12 : decode prog_25_method_7_code 12 = .ok (.aload_n 0, 1) := by decide +kernel
theorem d_with2_13 : decode prog_25_method_7_code 13 = .ok (.getfield 7, 3) := by decide +kernel
theorem d_with2_16 : decode prog_25_method_7_code 16 = .ok (.iconst 1, 1) := by decide +kernel
theorem d_with2_17 : decode prog_25_method_7_code 17 = .ok (.anewarray 20, 3) := by decide +kernel
theorem d_with2_20 : decode prog_25_method_7_code 20 = .ok (.dup, 1) := by decide +kernel
theorem d_with2_21 : decode prog_25_method_7_code 21 = .ok (.iconst 0, 1) := by decide +kernel
theorem d_with2_22 : decode prog_25_method_7_code 22 = .ok (.aload_n 1, 1) := by decide +kernel
theorem d_with2_23 : decode prog_25_method_7_code 23 = .ok (.invokevirtual 45, 3) := by decide +kernel
theorem d_with2_26 : decode prog_25_method_7_code 26 = .ok (.checkcast 20, 3) := by decide +kernel
theorem d_with2_29 : decode prog_25_method_7_code 29 = .ok (.aastore, 1) := by decide +kernel
theorem d_with2_30 : decode prog_25_method_7_code 30 = .ok (.iconst 1, 1) := by decide +kernel
theorem d_with2_31 : decode prog_25_method_7_code 31 = .ok (.invokespecial 22, 3) := by decide +kernel
theorem d_with2_34 : decode prog_25_method_7_code 34 = .ok (.areturn, 1) := by decide +kernel
theorem pd_with2_0 : parseMethodDescriptor "(I[[JI)V" = some ⟨[.int, (.array (.array .long)), .int], none⟩ := by decide +kernel
def r_with2 : Room := { frames := 2, cells := 3, slots := 6, locals := 28 }
def Q_with2 (Z : State) (a : Addr) (c : Addr) (s : Int32) (kc : ClassId) (b : Addr) (kb : ClassId) (d0 : Int64) (d1 : Int64) (h0 : Heap) (v : Option Value) (h : Heap) : Prop := ∃ r : Addr, ∃ ch : Addr, ∃ k : ClassId, ∃ x : Addr, ∃ kx : ClassId, v = some (.ref r) ∧ Keep h0 h [] ∧ h0.size ≤ r ∧ Exa Z h r "com/example/rosterlink/rosterlink/model/IdChunks" ∧ Fld Z h r "com/example/rosterlink/rosterlink/model/IdChunks" "width" "I" (.int (2 : Int32)) ∧ Fld Z h r "com/example/rosterlink/rosterlink/model/IdChunks" "chunks" "[[J" (.ref ch) ∧ Fld Z h r "com/example/rosterlink/rosterlink/model/IdChunks" "size" "I" (.int (1 : Int32)) ∧ h0.size ≤ ch ∧ oArr Z h ch k (.array .long) [(.ref x)] ∧ h0.size ≤ x ∧ oArr Z h x kx .long [(.long d0), (.long d1)] ∧ Exa Z h x "[J"
set_option maxRecDepth 65536 in
set_option maxHeartbeats 40000000 in
theorem rm_with2 (l : Launch) (Z : State) (a0 : Array Value) (hw : oHw Z a0) (a : Addr) (c : Addr) (s : Int32) (kc : ClassId) (b : Addr) (kb : ClassId) (d0 : Int64) (d1 : Int64) (h0 : Heap) (q0 : Exa Z h0 a "com/example/rosterlink/rosterlink/model/IdChunks") (q1 : Fld Z h0 a "com/example/rosterlink/rosterlink/model/IdChunks" "width" "I" (.int (2 : Int32))) (q2 : Fld Z h0 a "com/example/rosterlink/rosterlink/model/IdChunks" "chunks" "[[J" (.ref c)) (q3 : Fld Z h0 a "com/example/rosterlink/rosterlink/model/IdChunks" "size" "I" (.int s)) (q4 : oArr Z h0 c kc (.array .long) []) (q5 : oArr Z h0 b kb .long [(.long d0), (.long d1)]) (q6 : Exa Z h0 b "[J") : oMet l Z (⟨"com/example/rosterlink/rosterlink/model/IdChunks", "with", "([J)Lcom/example/rosterlink/rosterlink/model/IdChunks;"⟩ : MethodName) prog_25_method_7_code 10 (some (.object "com/example/rosterlink/rosterlink/model/IdChunks")) r_with2 [] #[(.ref a), (.ref b)] h0 (Q_with2 Z a c s kc b kb d0 d1 h0) := by
  refine oEnter (plainFor_of_name (by first | (simp [plainName, overriddenIn]; done) | decide +kernel)) (own := "com/example/rosterlink/rosterlink/model/IdChunks") (nm := "with") rfl rfl (L := #[.val (.ref a), .val (.ref b), .unset, .unset, .unset, .unset, .unset, .unset, .unset, .unset]) (fun m => by first | (simp [entryFrame, mkF, argsToLocals, Value.category]; done) | rfl) ?_
  intro pp ee ss mm bb mtd cc T0 K X0
  have E0 := X0.ext0
  refine o_aloadN K X0 d_with2_0 (pc' := 1) rfl rfl rfl ?_
  refine o_getfield K X0 (host := "") (Or.inl (w17 hw)) Via.refl q2 d_with2_1 (pc' := 4) rfl ?_
  intro T1 X1
  refine o_arraylength K X1 q4 (z := (0 : Int32)) rfl d_with2_4 (pc' := 5) rfl ?_
  refine o_if_ne_f K X1 d_with2_5 (pc' := 8) rfl (by decide) ?_
  refine o_new K X1 (w7 hw) (w8 hw) (w3 hw) d_with2_8 (pc' := 11) rfl (by decide) (by decide) ?_
  intro T2 h2 b2 X2 g2 E2 A2 D2 G2
  have F2_width : Fld Z h2 b2 "com/example/rosterlink/rosterlink/model/IdChunks" "width" "I" (.int (0 : Int32)) := (D2 (Or.inr (w16 hw)) (ty := .int) (by decide))
  have F2_chunks : Fld Z h2 b2 "com/example/rosterlink/rosterlink/model/IdChunks" "chunks" "[[J" .null := (D2 (Or.inr (w18 hw)) (ty := (.array (.array .long))) (by decide))
  have F2_size : Fld Z h2 b2 "com/example/rosterlink/rosterlink/model/IdChunks" "size" "I" (.int (0 : Int32)) := (D2 (Or.inr (w20 hw)) (ty := .int) (by decide))
  refine o_dup K X2 d_with2_11 (pc' := 12) rfl rfl ?_
  refine o_aloadN K X2 d_with2_12 (pc' := 13) rfl rfl rfl ?_
  refine o_getfield K X2 (host := "") (Or.inl (w15 hw)) Via.refl (q1.ext E2) d_with2_13 (pc' := 16) rfl ?_
  intro T3 X3
  refine o_iconst K X3 d_with2_16 (pc' := 17) rfl (z := (1 : Int32)) rfl ?_
  refine o_anewarrayA K X3 (ty := .long) 1 (by decide +kernel) (w5 hw) (w6 hw) (ad := "[[J") (by decide +kernel) (by decide) (by decide) (by decide) d_with2_17 (pc' := 20) rfl (by decide) (by decide) ?_
  intro T4 h4 b4 k4 X4 g4 E4 A4 B4 O4 G4
  replace A4 : oArr Z h4 b4 k4 (.array .long) [.null] := A4
  refine o_dup K X4 d_with2_20 (pc' := 21) rfl rfl ?_
  refine o_iconst K X4 d_with2_21 (pc' := 22) rfl (z := (0 : Int32)) rfl ?_
  refine o_aloadN K X4 d_with2_22 (pc' := 23) rfl rfl rfl ?_
  refine o_clone K X4 2 (w63 hw) (w64 hw) (w68 hw) (w66 hw) (w67 hw) (w69 hw) ((q5.ext E2).ext E4) rfl ((q6.ext E2).ext E4) d_with2_23 (pc' := 26) rfl rfl (by decide) (W := 6) rfl (by decide) (by decide) (by decide) ?_
  intro T5 h5 b5 X5 g5 E5 A5 B5 G5
  refine o_checkcast K X5 (w5 hw) (Ins.self B5) d_with2_26 (pc' := 29) rfl ?_
  intro T6 X6
  refine o_aastore K X6 rfl (A4.ext E5) (by decide) (show (0 : Int32).toNatClampNeg < 1 from (by decide)) G4 (oStoA (A4.ext E5) O4 (Ins.self B5)) rfl d_with2_29 (pc' := 30) rfl ?_
  intro T7 h7 X7 W7 A7
  replace A7 : oArr Z h7 b4 k4 (.array .long) [(.ref b5)] := A7
  refine o_iconst K X7 d_with2_30 (pc' := 31) rfl (z := (1 : Int32)) rfl ?_
  refine o_special K X7 (y := (⟨"com/example/rosterlink/rosterlink/model/IdChunks", "<init>", "(I[[JI)V"⟩ : MethodName)) rfl (w9 hw) (w10 hw) (w3 hw) (w11 hw) (by decide) (rm_init l Z a0 hw b2 (2 : Int32) b4 (1 : Int32) h7 (Exa.wr W7 ((A2.ext E4).ext E5)) (Fld.other W7 ((F2_width.ext E4).ext E5) (Or.inl (Nat.ne_of_lt (Nat.lt_of_lt_of_le A2.lt (Nat.le_of_eq g4.symm))))) (Fld.other W7 ((F2_chunks.ext E4).ext E5) (Or.inl (Nat.ne_of_lt (Nat.lt_of_lt_of_le A2.lt (Nat.le_of_eq g4.symm))))) (Fld.other W7 ((F2_size.ext E4).ext E5) (Or.inl (Nat.ne_of_lt (Nat.lt_of_lt_of_le A2.lt (Nat.le_of_eq g4.symm))))) G2) (by decide) rfl (argsL := [(.int (2 : Int32)), (.ref b4), (.int (1 : Int32))]) rfl (lenOf pd_with2_0 rfl) (W := 1) rfl (by decide) (by decide) (by decide) d_with2_31 (pc' := 34) rfl ?_
  intro v8 T8 h8 X8 U8
  obtain ⟨rfl, u8_0, u8_1, u8_2, u8_3, u8_4⟩ := U8
  show oGoes pp ee bb ss Z T8 (mkF mm 34 #[.val (.ref a), .val (.ref b), .unset, .unset, .unset, .unset, .unset, .unset, .unset, .unset] [(.ref b2)]) _ _ _
  refine o_areturn K X8 (t := (.object "com/example/rosterlink/rosterlink/model/IdChunks")) d_with2_34 rfl rfl rfl ?_ (by decide) (by decide)
  exact ⟨b2, b4, k4, b5, kb, rfl, ((((((Keep.refl h0 []).ext E2).ext E4).ext E5).wr W7 (Or.inr (Nat.le_trans E2.1 (Nat.le_of_eq g4.symm)))).trans u8_0 (allS (Or.inr (Nat.le_of_eq g2.symm)) all0)), (Nat.le_of_eq g2.symm), u8_1, u8_2, u8_3, u8_4, (Nat.le_trans E2.1 (Nat.le_of_eq g4.symm)), (A7.keep u8_0 (ninS (Ne.symm (Nat.ne_of_lt (Nat.lt_of_lt_of_le A2.lt (Nat.le_of_eq g4.symm)))) nin0)), (Nat.le_trans (Nat.le_trans E2.1 E4.1) (Nat.le_of_eq g5.symm)), ((A5.other W7 (Ne.symm (Nat.ne_of_lt (Nat.lt_of_lt_of_le A4.lt (Nat.le_of_eq g5.symm))))).keep u8_0 (ninS (Ne.symm (Nat.ne_of_lt (Nat.lt_of_lt_of_le (Nat.lt_of_lt_of_le A2.lt E4.1) (Nat.le_of_eq g5.symm)))) nin0)), ((Exa.wr W7 B5).keep u8_0)⟩
theorem d_cf1_2_0 : decode prog_25_method_17_code 0 = .ok (.iconst 0, 1) := by decide +kernel
theorem d_cf1_2_1 : decode prog_25_method_17_code 1 = .ok (.istore_n 3, 1) := by decide +kernel
theorem d_cf1_2_2 : decode prog_25_method_17_code 2 = .ok (.aload_n 0, 1) := by decide +kernel
theorem d_cf1_2_3 : decode prog_25_method_17_code 3 = .ok (.getfield 13, 3) := by decide +kernel
theorem d_cf1_2_6 : decode prog_25_method_17_code 6 = .ok (.arraylength, 1) := by decide +kernel
theorem d_cf1_2_7 : decode prog_25_method_17_code 7 = .ok (.istore 4, 2) := by decide +kernel
theorem d_cf1_2_9 : decode prog_25_method_17_code 9 = .ok (.iload_n 3, 1) := by decide +kernel
theorem d_cf1_2_10 : decode prog_25_method_17_code 10 = .ok (.iload 4, 2) := by decide +kernel
theorem d_cf1_2_12 : decode prog_25_method_17_code 12 = .ok (.if_icmp .ge 51, 3) := by decide +kernel
theorem d_cf1_2_15 : decode prog_25_method_17_code 15 = .ok (.iload_n 3, 1) := by decide +kernel
theorem d_cf1_2_16 : decode prog_25_method_17_code 16 = .ok (.iload 4, 2) := by decide +kernel
theorem d_cf1_2_18 : decode prog_25_method_17_code 18 = .ok (.iadd, 1) := by decide +kernel
theorem d_cf1_2_19 : decode prog_25_method_17_code 19 = .ok (.iconst 1, 1) := by decide +kernel
theorem d_cf1_2_20 : decode prog_25_method_17_code 20 = .ok (.iushr, 1) := by decide +kernel
theorem d_cf1_2_21 : decode prog_25_method_17_code 21 = .ok (.istore 5, 2) := by decide +kernel
theorem d_cf1_2_23 : decode prog_25_method_17_code 23 = .ok (.aload_n 0, 1) := by decide +kernel
theorem d_cf1_2_24 : decode prog_25_method_17_code 24 = .ok (.getfield 13, 3) := by decide +kernel
theorem d_cf1_2_27 : decode prog_25_method_17_code 27 = .ok (.iload 5, 2) := by decide +kernel
theorem d_cf1_2_29 : decode prog_25_method_17_code 29 = .ok (.aaload, 1) := by decide +kernel
theorem d_cf1_2_30 : decode prog_25_method_17_code 30 = .ok (.astore 6, 2) := by decide +kernel
theorem d_cf1_2_32 : decode prog_25_method_17_code 32 = .ok (.aload 6, 2) := by decide +kernel
theorem d_cf1_2_34 : decode prog_25_method_17_code 34 = .ok (.aload 6, 2) := by decide +kernel
theorem d_cf1_2_36 : decode prog_25_method_17_code 36 = .ok (.arraylength, 1) := by decide +kernel
theorem d_cf1_2_37 : decode prog_25_method_17_code 37 = .ok (.aload_n 0, 1) := by decide +kernel
theorem d_cf1_2_38 : decode prog_25_method_17_code 38 = .ok (.getfield 7, 3) := by decide +kernel
theorem d_cf1_2_41 : decode prog_25_method_17_code 41 = .ok (.isub, 1) := by decide +kernel
theorem d_cf1_2_42 : decode prog_25_method_17_code 42 = .ok (.laload, 1) := by decide +kernel
theorem d_cf1_2_43 : decode prog_25_method_17_code 43 = .ok (.lload_n 1, 1) := by decide +kernel
theorem d_cf1_2_44 : decode prog_25_method_17_code 44 = .ok (.lcmp, 1) := by decide +kernel
theorem d_cf1_2_45 : decode prog_25_method_17_code 45 = .ok (.ifCond .ge 11, 3) := by decide +kernel
theorem d_cf1_2_56 : decode prog_25_method_17_code 56 = .ok (.iload 5, 2) := by decide +kernel
theorem d_cf1_2_58 : decode prog_25_method_17_code 58 = .ok (.istore 4, 2) := by decide +kernel
theorem d_cf1_2_60 : decode prog_25_method_17_code 60 = .ok (.goto (-51), 3) := by decide +kernel
theorem d_cf1_2_63 : decode prog_25_method_17_code 63 = .ok (.iload_n 3, 1) := by decide +kernel
theorem d_cf1_2_64 : decode prog_25_method_17_code 64 = .ok (.ireturn, 1) := by decide +kernel
def r_cf1_2 : Room := { frames := 0, cells := 0, slots := 0, locals := 0 }
def Q_cf1_2 (Z : State) (a : Addr) (c : Addr) (kc : ClassId) (x : Addr) (kx : ClassId) (d0 : Int64) (d1 : Int64) (h0 : Heap) (v : Option Value) (h : Heap) : Prop := v = some (.int (0 : Int32)) ∧ h0 = h
set_option maxRecDepth 65536 in
set_option maxHeartbeats 40000000 in
theorem rm_cf1_2 (l : Launch) (Z : State) (a0 : Array Value) (hw : oHw Z a0) (a : Addr) (c : Addr) (kc : ClassId) (x : Addr) (kx : ClassId) (d0 : Int64) (d1 : Int64) (h0 : Heap) (q0 : Exa Z h0 a "com/example/rosterlink/rosterlink/model/IdChunks") (q1 : Fld Z h0 a "com/example/rosterlink/rosterlink/model/IdChunks" "width" "I" (.int (2 : Int32))) (q2 : Fld Z h0 a "com/example/rosterlink/rosterlink/model/IdChunks" "chunks" "[[J" (.ref c)) (q3 : Fld Z h0 a "com/example/rosterlink/rosterlink/model/IdChunks" "size" "I" (.int (1 : Int32))) (q4 : oArr Z h0 c kc (.array .long) [(.ref x)]) (q5 : oArr Z h0 x kx .long [(.long d0), (.long d1)]) (q6 : Exa Z h0 x "[J") : oMet l Z (⟨"com/example/rosterlink/rosterlink/model/IdChunks", "chunkFor", "(J)I"⟩ : MethodName) prog_25_method_17_code 7 (some .int) r_cf1_2 [] #[(.ref a), (.long d0)] h0 (Q_cf1_2 Z a c kc x kx d0 d1 h0) := by
  refine oEnter (plainFor_of_name (by first | (simp [plainName, overriddenIn]; done) | decide +kernel)) (own := "com/example/rosterlink/rosterlink/model/IdChunks") (nm := "chunkFor") rfl rfl (L := #[.val (.ref a), .val (.long d0), .second, .unset, .unset, .unset, .unset]) (fun m => by first | (simp [entryFrame, mkF, argsToLocals, Value.category]; done) | rfl) ?_
  intro pp ee ss mm bb mtd cc T0 K X0
  have E0 := X0.ext0
  refine o_iconst K X0 d_cf1_2_0 (pc' := 1) rfl (z := (0 : Int32)) rfl ?_
  refine o_istoreN K X0 d_cf1_2_1 (pc' := 2) rfl (L' := #[.val (.ref a), .val (.long d0), .second, .val (.int (0 : Int32)), .unset, .unset, .unset]) rfl ?_
  refine o_aloadN K X0 d_cf1_2_2 (pc' := 3) rfl rfl rfl ?_
  refine o_getfield K X0 (host := "") (Or.inl (w17 hw)) Via.refl q2 d_cf1_2_3 (pc' := 6) rfl ?_
  intro T1 X1
  refine o_arraylength K X1 q4 (z := (1 : Int32)) rfl d_cf1_2_6 (pc' := 7) rfl ?_
  refine o_istore K X1 d_cf1_2_7 (pc' := 9) rfl (L' := #[.val (.ref a), .val (.long d0), .second, .val (.int (0 : Int32)), .val (.int (1 : Int32)), .unset, .unset]) rfl ?_
  refine o_iloadN K X1 d_cf1_2_9 (pc' := 10) rfl rfl ?_
  refine o_iload K X1 d_cf1_2_10 (pc' := 12) rfl rfl ?_
  refine o_icmp_ge_f K X1 d_cf1_2_12 (pc' := 15) rfl (by decide) ?_
  refine o_iloadN K X1 d_cf1_2_15 (pc' := 16) rfl rfl ?_
  refine o_iload K X1 d_cf1_2_16 (pc' := 18) rfl rfl ?_
  refine o_iadd K X1 d_cf1_2_18 (pc' := 19) rfl (z := (1 : Int32)) (by decide) ?_
  refine o_iconst K X1 d_cf1_2_19 (pc' := 20) rfl (z := (1 : Int32)) rfl ?_
  refine o_iushr K X1 d_cf1_2_20 (pc' := 21) rfl (z := (0 : Int32)) (by decide) ?_
  refine o_istore K X1 d_cf1_2_21 (pc' := 23) rfl (L' := #[.val (.ref a), .val (.long d0), .second, .val (.int (0 : Int32)), .val (.int (1 : Int32)), .val (.int (0 : Int32)), .unset]) rfl ?_
  refine o_aloadN K X1 d_cf1_2_23 (pc' := 24) rfl rfl rfl ?_
  refine o_getfield K X1 (host := "") (Or.inl (w17 hw)) Via.refl q2 d_cf1_2_24 (pc' := 27) rfl ?_
  intro T2 X2
  refine o_iload K X2 d_cf1_2_27 (pc' := 29) rfl rfl ?_
  refine o_aaload K X2 rfl q4 (by decide) (v := (.ref x)) rfl d_cf1_2_29 (pc' := 30) rfl ?_
  refine o_astore K X2 d_cf1_2_30 (pc' := 32) rfl rfl (L' := #[.val (.ref a), .val (.long d0), .second, .val (.int (0 : Int32)), .val (.int (1 : Int32)), .val (.int (0 : Int32)), .val (.ref x)]) rfl ?_
  refine o_aload K X2 d_cf1_2_32 (pc' := 34) rfl rfl rfl ?_
  refine o_aload K X2 d_cf1_2_34 (pc' := 36) rfl rfl rfl ?_
  refine o_arraylength K X2 q5 (z := (2 : Int32)) rfl d_cf1_2_36 (pc' := 37) rfl ?_
  refine o_aloadN K X2 d_cf1_2_37 (pc' := 38) rfl rfl rfl ?_
  refine o_getfield K X2 (host := "") (Or.inl (w15 hw)) Via.refl q1 d_cf1_2_38 (pc' := 41) rfl ?_
  intro T3 X3
  refine o_isub K X3 d_cf1_2_41 (pc' := 42) rfl (z := (0 : Int32)) (by decide) ?_
  refine o_laload K X3 q5 (by decide) (v := (.long d0)) rfl d_cf1_2_42 (pc' := 43) rfl ?_
  refine o_lloadN K X3 d_cf1_2_43 (pc' := 44) rfl rfl ?_
  refine o_lcmp K X3 d_cf1_2_44 (pc' := 45) rfl (z := (0 : Int32)) (oLcmp _) ?_
  refine o_if_ge_t K X3 d_cf1_2_45 (by decide) (pc' := 56) (by decide) (by decide) ?_
  refine o_iload K X3 d_cf1_2_56 (pc' := 58) rfl rfl ?_
  refine o_istore K X3 d_cf1_2_58 (pc' := 60) rfl (L' := #[.val (.ref a), .val (.long d0), .second, .val (.int (0 : Int32)), .val (.int (0 : Int32)), .val (.int (0 : Int32)), .val (.ref x)]) rfl ?_
  refine o_goto K X3 d_cf1_2_60 (by decide) (pc' := 9) (by decide) ?_
  refine o_iloadN K X3 d_cf1_2_9 (pc' := 10) rfl rfl ?_
  refine o_iload K X3 d_cf1_2_10 (pc' := 12) rfl rfl ?_
  refine o_icmp_ge_t K X3 d_cf1_2_12 (by decide) (pc' := 63) (by decide) (by decide) ?_
  refine o_iloadN K X3 d_cf1_2_63 (pc' := 64) rfl rfl ?_
  refine o_ireturn K X3 d_cf1_2_64 rfl ?_ (by decide) (by decide)
  exact ⟨rfl, rfl⟩
theorem d_find2_0 : decode prog_25_method_18_code 0 = .ok (.iconst 0, 1) := by decide +kernel
theorem d_find2_1 : decode prog_25_method_18_code 1 = .ok (.istore 4, 2) := by decide +kernel
theorem d_find2_3 : decode prog_25_method_18_code 3 = .ok (.aload_n 1, 1) := by decide +kernel
theorem d_find2_4 : decode prog_25_method_18_code 4 = .ok (.arraylength, 1) := by decide +kernel
theorem d_find2_5 : decode prog_25_method_18_code 5 = .ok (.aload_n 0, 1) := by decide +kernel
theorem d_find2_6 : decode prog_25_method_18_code 6 = .ok (.getfield 7, 3) := by decide +kernel
theorem d_find2_9 : decode prog_25_method_18_code 9 = .ok (.idiv, 1) := by decide +kernel
theorem d_find2_10 : decode prog_25_method_18_code 10 = .ok (.iconst 1, 1) := by decide +kernel
theorem d_find2_11 : decode prog_25_method_18_code 11 = .ok (.isub, 1) := by decide +kernel
theorem d_find2_12 : decode prog_25_method_18_code 12 = .ok (.istore 5, 2) := by decide +kernel
theorem d_find2_14 : decode prog_25_method_18_code 14 = .ok (.iload 4, 2) := by decide +kernel
theorem d_find2_16 : decode prog_25_method_18_code 16 = .ok (.iload 5, 2) := by decide +kernel
theorem d_find2_18 : decode prog_25_method_18_code 18 = .ok (.if_icmp .gt 61, 3) := by decide +kernel
theorem d_find2_21 : decode prog_25_method_18_code 21 = .ok (.iload 4, 2) := by decide +kernel
theorem d_find2_23 : decode prog_25_method_18_code 23 = .ok (.iload 5, 2) := by decide +kernel
theorem d_find2_25 : decode prog_25_method_18_code 25 = .ok (.iadd, 1) := by decide +kernel
theorem d_find2_26 : decode prog_25_method_18_code 26 = .ok (.iconst 1, 1) := by decide +kernel
theorem d_find2_27 : decode prog_25_method_18_code 27 = .ok (.iushr, 1) := by decide +kernel
theorem d_find2_28 : decode prog_25_method_18_code 28 = .ok (.istore 6, 2) := by decide +kernel
theorem d_find2_30 : decode prog_25_method_18_code 30 = .ok (.aload_n 1, 1) := by decide +kernel
theorem d_find2_31 : decode prog_25_method_18_code 31 = .ok (.iload 6, 2) := by decide +kernel
theorem d_find2_33 : decode prog_25_method_18_code 33 = .ok (.aload_n 0, 1) := by decide +kernel
theorem d_find2_34 : decode prog_25_method_18_code 34 = .ok (.getfield 7, 3) := by decide +kernel
theorem d_find2_37 : decode prog_25_method_18_code 37 = .ok (.imul, 1) := by decide +kernel
theorem d_find2_38 : decode prog_25_method_18_code 38 = .ok (.laload, 1) := by decide +kernel
theorem d_find2_39 : decode prog_25_method_18_code 39 = .ok (.lstore 7, 2) := by decide +kernel
theorem d_find2_41 : decode prog_25_method_18_code 41 = .ok (.lload 7, 2) := by decide +kernel
theorem d_find2_43 : decode prog_25_method_18_code 43 = .ok (.lload_n 2, 1) := by decide +kernel
theorem d_find2_44 : decode prog_25_method_18_code 44 = .ok (.lcmp, 1) := by decide +kernel
theorem d_find2_45 : decode prog_25_method_18_code 45 = .ok (.ifCond .ge 12, 3) := by decide +kernel
theorem d_find2_57 : decode prog_25_method_18_code 57 = .ok (.lload 7, 2) := by decide +kernel
theorem d_find2_59 : decode prog_25_method_18_code 59 = .ok (.lload_n 2, 1) := by decide +kernel
theorem d_find2_60 : decode prog_25_method_18_code 60 = .ok (.lcmp, 1) := by decide +kernel
theorem d_find2_61 : decode prog_25_method_18_code 61 = .ok (.ifCond .le 12, 3) := by decide +kernel
theorem d_find2_73 : decode prog_25_method_18_code 73 = .ok (.iload 6, 2) := by decide +kernel
theorem d_find2_75 : decode prog_25_method_18_code 75 = .ok (.ireturn, 1) := by decide +kernel
def r_find2 : Room := { frames := 0, cells := 0, slots := 0, locals := 0 }
def Q_find2 (Z : State) (a : Addr) (c : Addr) (kc : ClassId) (x : Addr) (kx : ClassId) (d0 : Int64) (d1 : Int64) (h0 : Heap) (v : Option Value) (h : Heap) : Prop := v = some (.int (0 : Int32)) ∧ h0 = h
set_option maxRecDepth 65536 in
set_option maxHeartbeats 40000000 in
theorem rm_find2 (l : Launch) (Z : State) (a0 : Array Value) (hw : oHw Z a0) (a : Addr) (c : Addr) (kc : ClassId) (x : Addr) (kx : ClassId) (d0 : Int64) (d1 : Int64) (h0 : Heap) (q0 : Exa Z h0 a "com/example/rosterlink/rosterlink/model/IdChunks") (q1 : Fld Z h0 a "com/example/rosterlink/rosterlink/model/IdChunks" "width" "I" (.int (2 : Int32))) (q2 : Fld Z h0 a "com/example/rosterlink/rosterlink/model/IdChunks" "chunks" "[[J" (.ref c)) (q3 : Fld Z h0 a "com/example/rosterlink/rosterlink/model/IdChunks" "size" "I" (.int (1 : Int32))) (q4 : oArr Z h0 c kc (.array .long) [(.ref x)]) (q5 : oArr Z h0 x kx .long [(.long d0), (.long d1)]) (q6 : Exa Z h0 x "[J") : oMet l Z (⟨"com/example/rosterlink/rosterlink/model/IdChunks", "find", "([JJ)I"⟩ : MethodName) prog_25_method_18_code 9 (some .int) r_find2 [] #[(.ref a), (.ref x), (.long d0)] h0 (Q_find2 Z a c kc x kx d0 d1 h0) := by
  refine oEnter (plainFor_of_name (by first | (simp [plainName, overriddenIn]; done) | decide +kernel)) (own := "com/example/rosterlink/rosterlink/model/IdChunks") (nm := "find") rfl rfl (L := #[.val (.ref a), .val (.ref x), .val (.long d0), .second, .unset, .unset, .unset, .unset, .unset]) (fun m => by first | (simp [entryFrame, mkF, argsToLocals, Value.category]; done) | rfl) ?_
  intro pp ee ss mm bb mtd cc T0 K X0
  have E0 := X0.ext0
  refine o_iconst K X0 d_find2_0 (pc' := 1) rfl (z := (0 : Int32)) rfl ?_
  refine o_istore K X0 d_find2_1 (pc' := 3) rfl (L' := #[.val (.ref a), .val (.ref x), .val (.long d0), .second, .val (.int (0 : Int32)), .unset, .unset, .unset, .unset]) rfl ?_
  refine o_aloadN K X0 d_find2_3 (pc' := 4) rfl rfl rfl ?_
  refine o_arraylength K X0 q5 (z := (2 : Int32)) rfl d_find2_4 (pc' := 5) rfl ?_
  refine o_aloadN K X0 d_find2_5 (pc' := 6) rfl rfl rfl ?_
  refine o_getfield K X0 (host := "") (Or.inl (w15 hw)) Via.refl q1 d_find2_6 (pc' := 9) rfl ?_
  intro T1 X1
  refine o_idiv K X1 d_find2_9 (pc' := 10) rfl (by decide) (z := (1 : Int32)) (by decide) ?_
  refine o_iconst K X1 d_find2_10 (pc' := 11) rfl (z := (1 : Int32)) rfl ?_
  refine o_isub K X1 d_find2_11 (pc' := 12) rfl (z := (0 : Int32)) (by decide) ?_
  refine o_istore K X1 d_find2_12 (pc' := 14) rfl (L' := #[.val (.ref a), .val (.ref x), .val (.long d0), .second, .val (.int (0 : Int32)), .val (.int (0 : Int32)), .unset, .unset, .unset]) rfl ?_
  refine o_iload K X1 d_find2_14 (pc' := 16) rfl rfl ?_
  refine o_iload K X1 d_find2_16 (pc' := 18) rfl rfl ?_
  refine o_icmp_gt_f K X1 d_find2_18 (pc' := 21) rfl (by decide) ?_
  refine o_iload K X1 d_find2_21 (pc' := 23) rfl rfl ?_
  refine o_iload K X1 d_find2_23 (pc' := 25) rfl rfl ?_
  refine o_iadd K X1 d_find2_25 (pc' := 26) rfl (z := (0 : Int32)) (by decide) ?_
  refine o_iconst K X1 d_find2_26 (pc' := 27) rfl (z := (1 : Int32)) rfl ?_
  refine o_iushr K X1 d_find2_27 (pc' := 28) rfl (z := (0 : Int32)) (by decide) ?_
  refine o_istore K X1 d_find2_28 (pc' := 30) rfl (L' := #[.val (.ref a), .val (.ref x), .val (.long d0), .second, .val (.int (0 : Int32)), .val (.int (0 : Int32)), .val (.int (0 : Int32)), .unset, .unset]) rfl ?_
  refine o_aloadN K X1 d_find2_30 (pc' := 31) rfl rfl rfl ?_
  refine o_iload K X1 d_find2_31 (pc' := 33) rfl rfl ?_
  refine o_aloadN K X1 d_find2_33 (pc' := 34) rfl rfl rfl ?_
  refine o_getfield K X1 (host := "") (Or.inl (w15 hw)) Via.refl q1 d_find2_34 (pc' := 37) rfl ?_
  intro T2 X2
  refine o_imul K X2 d_find2_37 (pc' := 38) rfl (z := (0 : Int32)) (by decide) ?_
  refine o_laload K X2 q5 (by decide) (v := (.long d0)) rfl d_find2_38 (pc' := 39) rfl ?_
  refine o_lstore K X2 d_find2_39 (pc' := 41) rfl (L' := #[.val (.ref a), .val (.ref x), .val (.long d0), .second, .val (.int (0 : Int32)), .val (.int (0 : Int32)), .val (.int (0 : Int32)), .val (.long d0), .second]) rfl ?_
  refine o_lload K X2 d_find2_41 (pc' := 43) rfl rfl ?_
  refine o_lloadN K X2 d_find2_43 (pc' := 44) rfl rfl ?_
  refine o_lcmp K X2 d_find2_44 (pc' := 45) rfl (z := (0 : Int32)) (oLcmp _) ?_
  refine o_if_ge_t K X2 d_find2_45 (by decide) (pc' := 57) (by decide) (by decide) ?_
  refine o_lload K X2 d_find2_57 (pc' := 59) rfl rfl ?_
  refine o_lloadN K X2 d_find2_59 (pc' := 60) rfl rfl ?_
  refine o_lcmp K X2 d_find2_60 (pc' := 61) rfl (z := (0 : Int32)) (oLcmp _) ?_
  refine o_if_le_t K X2 d_find2_61 (by decide) (pc' := 73) (by decide) (by decide) ?_
  refine o_iload K X2 d_find2_73 (pc' := 75) rfl rfl ?_
  refine o_ireturn K X2 d_find2_75 rfl ?_ (by decide) (by decide)
  exact ⟨rfl, rfl⟩
theorem d_cor2_0 : decode jdk_65_method_138_code 0 = .ok (.iload_n 1, 1) := by decide +kernel
theorem d_cor2_1 : decode jdk_65_method_138_code 1 = .ok (.ifCond .ne 9, 3) := by decide +kernel
theorem d_cor2_4 : decode jdk_65_method_138_code 4 = .ok (.iload_n 2, 1) := by decide +kernel
theorem d_cor2_5 : decode jdk_65_method_138_code 5 = .ok (.aload_n 0, 1) := by decide +kernel
theorem d_cor2_6 : decode jdk_65_method_138_code 6 = .ok (.arraylength, 1) := by decide +kernel
theorem d_cor2_7 : decode jdk_65_method_138_code 7 = .ok (.if_icmp .eq 10, 3) := by decide +kernel
theorem d_cor2_17 : decode jdk_65_method_138_code 17 = .ok (.aload_n 0, 1) := by decide +kernel
theorem d_cor2_18 : decode jdk_65_method_138_code 18 = .ok (.invokevirtual 319, 3) := by decide +kernel
theorem d_cor2_21 : decode jdk_65_method_138_code 21 = .ok (.checkcast 320, 3) := by decide +kernel
theorem d_cor2_24 : decode jdk_65_method_138_code 24 = .ok (.areturn, 1) := by decide +kernel
def r_cor2 : Room := { frames := 1, cells := 1, slots := 2, locals := 14 }
def Q_cor2 (Z : State) (b : Addr) (kb : ClassId) (d0 : Int64) (d1 : Int64) (h0 : Heap) (v : Option Value) (h : Heap) : Prop := ∃ r : Addr, ∃ k : ClassId, v = some (.ref r) ∧ Keep h0 h [] ∧ h0.size ≤ r ∧ oArr Z h r k .long [(.long d0), (.long d1)] ∧ Exa Z h r "[J"
set_option maxRecDepth 65536 in
set_option maxHeartbeats 40000000 in
theorem rm_cor2 (l : Launch) (Z : State) (a0 : Array Value) (hw : oHw Z a0) (b : Addr) (kb : ClassId) (d0 : Int64) (d1 : Int64) (h0 : Heap) (q0 : oArr Z h0 b kb .long [(.long d0), (.long d1)]) (q1 : Exa Z h0 b "[J") : oMet l Z (⟨"java/util/Arrays", "copyOfRange", "([JII)[J"⟩ : MethodName) jdk_65_method_138_code 3 (some (.array .long)) r_cor2 [] #[(.ref b), (.int (0 : Int32)), (.int (2 : Int32))] h0 (Q_cor2 Z b kb d0 d1 h0) := by
  refine oEnter (plainFor_of_name (by first | (simp [plainName, overriddenIn]; done) | decide +kernel)) (own := "java/util/Arrays") (nm := "copyOfRange") rfl rfl (L := #[.val (.ref b), .val (.int (0 : Int32)), .val (.int (2 : Int32))]) (fun m => by first | (simp [entryFrame, mkF, argsToLocals, Value.category]; done) | rfl) ?_
  intro pp ee ss mm bb mtd cc T0 K X0
  have E0 := X0.ext0
  refine o_iloadN K X0 d_cor2_0 (pc' := 1) rfl rfl ?_
  refine o_if_ne_f K X0 d_cor2_1 (pc' := 4) rfl (by decide) ?_
  refine o_iloadN K X0 d_cor2_4 (pc' := 5) rfl rfl ?_
  refine o_aloadN K X0 d_cor2_5 (pc' := 6) rfl rfl rfl ?_
  refine o_arraylength K X0 q0 (z := (2 : Int32)) rfl d_cor2_6 (pc' := 7) rfl ?_
  refine o_icmp_eq_t K X0 d_cor2_7 (by decide) (pc' := 17) (by decide) (by decide) ?_
  refine o_aloadN K X0 d_cor2_17 (pc' := 18) rfl rfl rfl ?_
  refine o_clone K X0 2 (w79 hw) (w64 hw) (w68 hw) (w66 hw) (w67 hw) (w69 hw) q0 rfl q1 d_cor2_18 (pc' := 21) rfl rfl (by decide) (W := 0) rfl (by decide) (by decide) (by decide) ?_
  intro T1 h1 b1 X1 g1 E1 A1 B1 G1
  refine o_checkcast K X1 (w80 hw) (Ins.self B1) d_cor2_21 (pc' := 24) rfl ?_
  intro T2 X2
  refine o_areturn K X2 (t := (.array .long)) d_cor2_24 rfl rfl rfl ?_ (by decide) (by decide)
  exact ⟨b1, kb, rfl, ((Keep.refl h0 []).ext E1), (Nat.le_of_eq g1.symm), A1, B1⟩
theorem d_get1_2_0 : decode prog_25_method_6_code 0 = .ok (.aload_n 0, 1) := by decide +kernel
theorem d_get1_2_1 : decode prog_25_method_6_code 1 = .ok (.lload_n 1, 1) := by decide +kernel
theorem d_get1_2_2 : decode prog_25_method_6_code 2 = .ok (.invokevirtual 37, 3) := by decide +kernel
theorem d_get1_2_5 : decode prog_25_method_6_code 5 = .ok (.istore_n 3, 1) := by decide +kernel
theorem d_get1_2_6 : decode prog_25_method_6_code 6 = .ok (.iload_n 3, 1) := by decide +kernel
theorem d_get1_2_7 : decode prog_25_method_6_code 7 = .ok (.aload_n 0, 1) := by decide +kernel
theorem d_get1_2_8 : decode prog_25_method_6_code 8 = .ok (.getfield 13, 3) := by decide +kernel
theorem d_get1_2_11 : decode prog_25_method_6_code 11 = .ok (.arraylength, 1) := by decide +kernel
theorem d_get1_2_12 : decode prog_25_method_6_code 12 = .ok (.if_icmp .ne 5, 3) := by decide +kernel
theorem d_get1_2_17 : decode prog_25_method_6_code 17 = .ok (.aload_n 0, 1) := by decide +kernel
theorem d_get1_2_18 : decode prog_25_method_6_code 18 = .ok (.aload_n 0, 1) := by decide +kernel
theorem d_get1_2_19 : decode prog_25_method_6_code 19 = .ok (.getfield 13, 3) := by decide +kernel
theorem d_get1_2_22 : decode prog_25_method_6_code 22 = .ok (.iload_n 3, 1) := by decide +kernel
theorem d_get1_2_23 : decode prog_25_method_6_code 23 = .ok (.aaload, 1) := by decide +kernel
theorem d_get1_2_24 : decode prog_25_method_6_code 24 = .ok (.lload_n 1, 1) := by decide +kernel
theorem d_get1_2_25 : decode prog_25_method_6_code 25 = .ok (.invokevirtual 41, 3) := by decide +kernel
theorem d_get1_2_28 : decode prog_25_method_6_code 28 = .ok (.istore 4, 2) := by decide +kernel
theorem d_get1_2_30 : decode prog_25_method_6_code 30 = .ok (.iload 4, 2) := by decide +kernel
theorem d_get1_2_32 : decode prog_25_method_6_code 32 = .ok (.ifCond .ge 7, 3) := by decide +kernel
theorem d_get1_2_39 : decode prog_25_method_6_code 39 = .ok (.aload_n 0, 1) := by decide +kernel
theorem d_get1_2_40 : decode prog_25_method_6_code 40 = .ok (.getfield 13, 3) := by decide +kernel
theorem d_get1_2_43 : decode prog_25_method_6_code 43 = .ok (.iload_n 3, 1) := by decide +kernel
theorem d_get1_2_44 : decode prog_25_method_6_code 44 = .ok (.aaload, 1) := by decide +kernel
theorem d_get1_2_45 : decode prog_25_method_6_code 45 = .ok (.iload 4, 2) := by decide +kernel
theorem d_get1_2_47 : decode prog_25_method_6_code 47 = .ok (.aload_n 0, 1) := by decide +kernel
theorem d_get1_2_48 : decode prog_25_method_6_code 48 = .ok (.getfield 7, 3) := by decide +kernel
theorem d_get1_2_51 : decode prog_25_method_6_code 51 = .ok (.imul, 1) := by decide +kernel
theorem d_get1_2_52 : decode prog_25_method_6_code 52 = .ok (.iload 4, 2) := by decide +kernel
theorem d_get1_2_54 : decode prog_25_method_6_code 54 = .ok (.iconst 1, 1) := by decide +kernel
theorem d_get1_2_55 : decode prog_25_method_6_code 55 = .ok (.iadd, 1) := by decide +kernel
theorem d_get1_2_56 : decode prog_25_method_6_code 56 = .ok (.aload_n 0, 1) := by decide +kernel
theorem d_get1_2_57 : decode prog_25_method_6_code 57 = .ok (.getfield 7, 3) := by decide +kernel
theorem d_get1_2_60 : decode prog_25_method_6_code 60 = .ok (.imul, 1) := by decide +kernel
theorem d_get1_2_61 : decode prog_25_method_6_code 61 = .ok (.invokestatic 31, 3) := by decide +kernel
theorem d_get1_2_64 : decode prog_25_method_6_code 64 = .ok (.areturn, 1) := by decide +kernel
theorem pd_get1_2_0 : parseMethodDescriptor "(J)I" = some ⟨[.long], some .int⟩ := by decide +kernel
theorem pd_get1_2_1 : parseMethodDescriptor "([JJ)I" = some ⟨[(.array .long), .long], some .int⟩ := by decide +kernel
theorem pd_get1_2_2 : parseMethodDescriptor "([JII)[J" = some ⟨[(.array .long), .int, .int], some (.array .long)⟩ := by decide +kernel
def r_get1_2 : Room := { frames := 2, cells := 1, slots := 2, locals := 28 }
def Q_get1_2 (Z : State) (a : Addr) (c : Addr) (kc : ClassId) (x : Addr) (kx : ClassId) (d0 : Int64) (d1 : Int64) (h0 : Heap) (v : Option Value) (h : Heap) : Prop := ∃ r : Addr, ∃ k : ClassId, v = some (.ref r) ∧ Keep h0 h [] ∧ h0.size ≤ r ∧ oArr Z h r k .long [(.long d0), (.long d1)] ∧ Exa Z h r "[J"
set_option maxRecDepth 65536 in
set_option maxHeartbeats 40000000 in
theorem rm_get1_2 (l : Launch) (Z : State) (a0 : Array Value) (hw : oHw Z a0) (a : Addr) (c : Addr) (kc : ClassId) (x : Addr) (kx : ClassId) (d0 : Int64) (d1 : Int64) (h0 : Heap) (q0 : Exa Z h0 a "com/example/rosterlink/rosterlink/model/IdChunks") (q1 : Fld Z h0 a "com/example/rosterlink/rosterlink/model/IdChunks" "width" "I" (.int (2 : Int32))) (q2 : Fld Z h0 a "com/example/rosterlink/rosterlink/model/IdChunks" "chunks" "[[J" (.ref c)) (q3 : Fld Z h0 a "com/example/rosterlink/rosterlink/model/IdChunks" "size" "I" (.int (1 : Int32))) (q4 : oArr Z h0 c kc (.array .long) [(.ref x)]) (q5 : oArr Z h0 x kx .long [(.long d0), (.long d1)]) (q6 : Exa Z h0 x "[J") : oMet l Z (⟨"com/example/rosterlink/rosterlink/model/IdChunks", "get", "(J)[J"⟩ : MethodName) prog_25_method_6_code 5 (some (.array .long)) r_get1_2 [] #[(.ref a), (.long d0)] h0 (Q_get1_2 Z a c kc x kx d0 d1 h0) := by
  refine oEnter (plainFor_of_name (by first | (simp [plainName, overriddenIn]; done) | decide +kernel)) (own := "com/example/rosterlink/rosterlink/model/IdChunks") (nm := "get") rfl rfl (L := #[.val (.ref a), .val (.long d0), .second, .unset, .unset]) (fun m => by first | (simp [entryFrame, mkF, argsToLocals, Value.category]; done) | rfl) ?_
  intro pp ee ss mm bb mtd cc T0 K X0
  have E0 := X0.ext0
  refine o_aloadN K X0 d_get1_2_0 (pc' := 1) rfl rfl rfl ?_
  refine o_lloadN K X0 d_get1_2_1 (pc' := 2) rfl rfl ?_
  refine o_private K X0 (y := (⟨"com/example/rosterlink/rosterlink/model/IdChunks", "chunkFor", "(J)I"⟩ : MethodName)) (w34 hw) (w35 hw) (oSelects (w8 hw) (w35 hw) (w36 hw) (by decide)) (w36 hw) (w3 hw) (w37 hw) (by decide) q0 (rm_cf1_2 l Z a0 hw a c kc x kx d0 d1 h0 q0 q1 q2 q3 q4 q5 q6) (by decide) rfl (argsL := [(.long d0)]) rfl (lenOf pd_get1_2_0 rfl) (W := 0) rfl (by decide) (by decide) (by decide) d_get1_2_2 (pc' := 5) rfl ?_
  intro v1 T1 h1 X1 U1
  obtain ⟨rfl, rfl⟩ := U1
  show oGoes pp ee bb ss Z T1 (mkF mm 5 #[.val (.ref a), .val (.long d0), .second, .unset, .unset] [(.int (0 : Int32))]) _ _ _
  refine o_istoreN K X1 d_get1_2_5 (pc' := 6) rfl (L' := #[.val (.ref a), .val (.long d0), .second, .val (.int (0 : Int32)), .unset]) rfl ?_
  refine o_iloadN K X1 d_get1_2_6 (pc' := 7) rfl rfl ?_
  refine o_aloadN K X1 d_get1_2_7 (pc' := 8) rfl rfl rfl ?_
  refine o_getfield K X1 (host := "") (Or.inl (w17 hw)) Via.refl q2 d_get1_2_8 (pc' := 11) rfl ?_
  intro T2 X2
  refine o_arraylength K X2 q4 (z := (1 : Int32)) rfl d_get1_2_11 (pc' := 12) rfl ?_
  refine o_icmp_ne_t K X2 d_get1_2_12 (by decide) (pc' := 17) (by decide) (by decide) ?_
  refine o_aloadN K X2 d_get1_2_17 (pc' := 18) rfl rfl rfl ?_
  refine o_aloadN K X2 d_get1_2_18 (pc' := 19) rfl rfl rfl ?_
  refine o_getfield K X2 (host := "") (Or.inl (w17 hw)) Via.refl q2 d_get1_2_19 (pc' := 22) rfl ?_
  intro T3 X3
  refine o_iloadN K X3 d_get1_2_22 (pc' := 23) rfl rfl ?_
  refine o_aaload K X3 rfl q4 (by decide) (v := (.ref x)) rfl d_get1_2_23 (pc' := 24) rfl ?_
  refine o_lloadN K X3 d_get1_2_24 (pc' := 25) rfl rfl ?_
  refine o_private K X3 (y := (⟨"com/example/rosterlink/rosterlink/model/IdChunks", "find", "([JJ)I"⟩ : MethodName)) (w71 hw) (w72 hw) (oSelects (w8 hw) (w72 hw) (w73 hw) (by decide)) (w73 hw) (w3 hw) (w74 hw) (by decide) q0 (rm_find2 l Z a0 hw a c kc x kx d0 d1 h0 q0 q1 q2 q3 q4 q5 q6) (by decide) rfl (argsL := [(.ref x), (.long d0)]) rfl (lenOf pd_get1_2_1 rfl) (W := 0) rfl (by decide) (by decide) (by decide) d_get1_2_25 (pc' := 28) rfl ?_
  intro v4 T4 h4 X4 U4
  obtain ⟨rfl, rfl⟩ := U4
  show oGoes pp ee bb ss Z T4 (mkF mm 28 #[.val (.ref a), .val (.long d0), .second, .val (.int (0 : Int32)), .unset] [(.int (0 : Int32))]) _ _ _
  refine o_istore K X4 d_get1_2_28 (pc' := 30) rfl (L' := #[.val (.ref a), .val (.long d0), .second, .val (.int (0 : Int32)), .val (.int (0 : Int32))]) rfl ?_
  refine o_iload K X4 d_get1_2_30 (pc' := 32) rfl rfl ?_
  refine o_if_ge_t K X4 d_get1_2_32 (by decide) (pc' := 39) (by decide) (by decide) ?_
  refine o_aloadN K X4 d_get1_2_39 (pc' := 40) rfl rfl rfl ?_
  refine o_getfield K X4 (host := "") (Or.inl (w17 hw)) Via.refl q2 d_get1_2_40 (pc' := 43) rfl ?_
  intro T5 X5
  refine o_iloadN K X5 d_get1_2_43 (pc' := 44) rfl rfl ?_
  refine o_aaload K X5 rfl q4 (by decide) (v := (.ref x)) rfl d_get1_2_44 (pc' := 45) rfl ?_
  refine o_iload K X5 d_get1_2_45 (pc' := 47) rfl rfl ?_
  refine o_aloadN K X5 d_get1_2_47 (pc' := 48) rfl rfl rfl ?_
  refine o_getfield K X5 (host := "") (Or.inl (w15 hw)) Via.refl q1 d_get1_2_48 (pc' := 51) rfl ?_
  intro T6 X6
  refine o_imul K X6 d_get1_2_51 (pc' := 52) rfl (z := (0 : Int32)) (by decide) ?_
  refine o_iload K X6 d_get1_2_52 (pc' := 54) rfl rfl ?_
  refine o_iconst K X6 d_get1_2_54 (pc' := 55) rfl (z := (1 : Int32)) rfl ?_
  refine o_iadd K X6 d_get1_2_55 (pc' := 56) rfl (z := (1 : Int32)) (by decide) ?_
  refine o_aloadN K X6 d_get1_2_56 (pc' := 57) rfl rfl rfl ?_
  refine o_getfield K X6 (host := "") (Or.inl (w15 hw)) Via.refl q1 d_get1_2_57 (pc' := 60) rfl ?_
  intro T7 X7
  refine o_imul K X7 d_get1_2_60 (pc' := 61) rfl (z := (2 : Int32)) (by decide) ?_
  refine o_static K X7 (y := (⟨"java/util/Arrays", "copyOfRange", "([JII)[J"⟩ : MethodName)) (w75 hw) (w76 hw) (w77 hw) (w78 hw) (by decide) (rm_cor2 l Z a0 hw x kx d0 d1 h0 q5 q6) (by decide) rfl (argsL := [(.ref x), (.int (0 : Int32)), (.int (2 : Int32))]) rfl (lenOf pd_get1_2_2 rfl) (W := 0) rfl (by decide) (by decide) (by decide) d_get1_2_61 (pc' := 64) rfl ?_
  intro v8 T8 h8 X8 U8
  obtain ⟨r_8, k_8, rfl, u8_0, u8_1, u8_2, u8_3⟩ := U8
  have G8_r : Z.heap.size ≤ r_8 := Nat.le_trans (Nat.le_trans E0.1 (Nat.le_refl _)) u8_1
  show oGoes pp ee bb ss Z T8 (mkF mm 64 #[.val (.ref a), .val (.long d0), .second, .val (.int (0 : Int32)), .val (.int (0 : Int32))] [(.ref r_8)]) _ _ _
  refine o_areturn K X8 (t := (.array .long)) d_get1_2_64 rfl rfl rfl ?_ (by decide) (by decide)
  exact ⟨r_8, k_8, rfl, ((Keep.refl h0 []).trans u8_0 all0), u8_1, u8_2, u8_3⟩
theorem d_ents2_0 : decode prog_25_method_12_code 0 = .ok (.aload_n 0, 1) := by decide +kernel
theorem d_ents2_1 : decode prog_25_method_12_code 1 = .ok (.getfield 17, 3) := by decide +kernel
theorem d_ents2_4 : decode prog_25_method_12_code 4 = .ok (.aload_n 0, 1) := by decide +kernel
theorem d_ents2_5 : decode prog_25_method_12_code 5 = .ok (.getfield 7, 3) := by decide +kernel
theorem d_ents2_8 : decode prog_25_method_12_code 8 = .ok (.imul, 1) := by decide +kernel
theorem d_ents2_9 : decode prog_25_method_12_code 9 = .ok (.newarray .long, 2) := by decide +kernel
theorem d_ents2_11 : decode prog_25_method_12_code 11 = .ok (.astore_n 1, 1) := by decide +kernel
theorem d_ents2_12 : decode prog_25_method_12_code 12 = .ok (.iconst 0, 1) := by decide +kernel
theorem d_ents2_13 : decode prog_25_method_12_code 13 = .ok (.istore_n 2, 1) := by decide +kernel
theorem d_ents2_14 : decode prog_25_method_12_code 14 = .ok (.aload_n 0, 1) := by decide +kernel
theorem d_ents2_15 : decode prog_25_method_12_code 15 = .ok (.getfield 13, 3) := by decide +kernel
theorem d_ents2_18 : decode prog_25_method_12_code 18 = .ok (.astore_n 3, 1) := by decide +kernel
theorem d_ents2_19 : decode prog_25_method_12_code 19 = .ok (.aload_n 3, 1) := by decide +kernel
theorem d_ents2_20 : decode prog_25_method_12_code 20 = .ok (.arraylength, 1) := by decide +kernel
theorem d_ents2_21 : decode prog_25_method_12_code 21 = .ok (.istore 4, 2) := by decide +kernel
theorem d_ents2_23 : decode prog_25_method_12_code 23 = .ok (.iconst 0, 1) := by decide +kernel
theorem d_ents2_24 : decode prog_25_method_12_code 24 = .ok (.istore 5, 2) := by decide +kernel
theorem d_ents2_26 : decode prog_25_method_12_code 26 = .ok (.iload 5, 2) := by decide +kernel
theorem d_ents2_28 : decode prog_25_method_12_code 28 = .ok (.iload 4, 2) := by decide +kernel
theorem d_ents2_30 : decode prog_25_method_12_code 30 = .ok (.if_icmp .ge 32, 3) := by decide +kernel
theorem d_ents2_33 : decode prog_25_method_12_code 33 = .ok (.aload_n 3, 1) := by decide +kernel
theorem d_ents2_34 : decode prog_25_method_12_code 34 = .ok (.iload 5, 2) := by decide +kernel
theorem d_ents2_36 : decode prog_25_method_12_code 36 = .ok (.aaload, 1) := by decide +kernel
theorem d_ents2_37 : decode prog_25_method_12_code 37 = .ok (.astore 6, 2) := by decide +kernel
theorem d_ents2_39 : decode prog_25_method_12_code 39 = .ok (.aload 6, 2) := by decide +kernel
theorem d_ents2_41 : decode prog_25_method_12_code 41 = .ok (.iconst 0, 1) := by decide +kernel
theorem d_ents2_42 : decode prog_25_method_12_code 42 = .ok (.aload_n 1, 1) := by decide +kernel
theorem d_ents2_43 : decode prog_25_method_12_code 43 = .ok (.iload_n 2, 1) := by decide +kernel
theorem d_ents2_44 : decode prog_25_method_12_code 44 = .ok (.aload 6, 2) := by decide +kernel
theorem d_ents2_46 : decode prog_25_method_12_code 46 = .ok (.arraylength, 1) := by decide +kernel
theorem d_ents2_47 : decode prog_25_method_12_code 47 = .ok (.invokestatic 53, 3) := by decide +kernel
theorem d_ents2_50 : decode prog_25_method_12_code 50 = .ok (.iload_n 2, 1) := by decide +kernel
theorem d_ents2_51 : decode prog_25_method_12_code 51 = .ok (.aload 6, 2) := by decide +kernel
theorem d_ents2_53 : decode prog_25_method_12_code 53 = .ok (.arraylength, 1) := by decide +kernel
theorem d_ents2_54 : decode prog_25_method_12_code 54 = .ok (.iadd, 1) := by decide +kernel
theorem d_ents2_55 : decode prog_25_method_12_code 55 = .ok (.istore_n 2, 1) := by decide +kernel
theorem d_ents2_56 : decode prog_25_method_12_code 56 = .ok (.iinc 5 1, 3) := by decide +kernel
theorem d_ents2_59 : decode prog_25_method_12_code 59 = .ok (.goto (-33), 3) := by decide +kernel
theorem d_ents2_62 : decode prog_25_method_12_code 62 = .ok (.aload_n 1, 1) := by decide +kernel
theorem d_ents2_63 : decode prog_25_method_12_code 63 = .ok (.areturn, 1) := by decide +kernel
def r_ents2 : Room := { frames := 1, cells := 1, slots := 2, locals := 18 }
def Q_ents2 (Z : State) (a : Addr) (c : Addr) (kc : ClassId) (x : Addr) (kx : ClassId) (d0 : Int64) (d1 : Int64) (h0 : Heap) (v : Option Value) (h : Heap) : Prop := ∃ r : Addr, ∃ k : ClassId, v = some (.ref r) ∧ Keep h0 h [] ∧ h0.size ≤ r ∧ oArr Z h r k .long [(.long d0), (.long d1)]
set_option maxRecDepth 65536 in
set_option maxHeartbeats 40000000 in
theorem rm_ents2 (l : Launch) (Z : State) (a0 : Array Value) (hw : oHw Z a0) (a : Addr) (c : Addr) (kc : ClassId) (x : Addr) (kx : ClassId) (d0 : Int64) (d1 : Int64) (h0 : Heap) (q0 : Exa Z h0 a "com/example/rosterlink/rosterlink/model/IdChunks") (q1 : Fld Z h0 a "com/example/rosterlink/rosterlink/model/IdChunks" "width" "I" (.int (2 : Int32))) (q2 : Fld Z h0 a "com/example/rosterlink/rosterlink/model/IdChunks" "chunks" "[[J" (.ref c)) (q3 : Fld Z h0 a "com/example/rosterlink/rosterlink/model/IdChunks" "size" "I" (.int (1 : Int32))) (q4 : oArr Z h0 c kc (.array .long) [(.ref x)]) (q5 : oArr Z h0 x kx .long [(.long d0), (.long d1)]) (q6 : Exa Z h0 x "[J") : oMet l Z (⟨"com/example/rosterlink/rosterlink/model/IdChunks", "entries", "()[J"⟩ : MethodName) prog_25_method_12_code 7 (some (.array .long)) r_ents2 [] #[(.ref a)] h0 (Q_ents2 Z a c kc x kx d0 d1 h0) := by
  refine oEnter (plainFor_of_name (by first | (simp [plainName, overriddenIn]; done) | decide +kernel)) (own := "com/example/rosterlink/rosterlink/model/IdChunks") (nm := "entries") rfl rfl (L := #[.val (.ref a), .unset, .unset, .unset, .unset, .unset, .unset]) (fun m => by first | (simp [entryFrame, mkF, argsToLocals, Value.category]; done) | rfl) ?_
  intro pp ee ss mm bb mtd cc T0 K X0
  have E0 := X0.ext0
  refine o_aloadN K X0 d_ents2_0 (pc' := 1) rfl rfl rfl ?_
  refine o_getfield K X0 (host := "") (Or.inl (w19 hw)) Via.refl q3 d_ents2_1 (pc' := 4) rfl ?_
  intro T1 X1
  refine o_aloadN K X1 d_ents2_4 (pc' := 5) rfl rfl rfl ?_
  refine o_getfield K X1 (host := "") (Or.inl (w15 hw)) Via.refl q1 d_ents2_5 (pc' := 8) rfl ?_
  intro T2 X2
  refine o_imul K X2 d_ents2_8 (pc' := 9) rfl (z := (2 : Int32)) (by decide) ?_
  refine o_newarray K X2 (aty := .long) 2 (w0 hw) (ad := "[J") (by decide +kernel) (by decide) (by decide) (by decide) rfl d_ents2_9 (pc' := 11) rfl (by decide) (by decide) ?_
  intro T3 h3 b3 k3 X3 g3 E3 A3 B3 G3
  replace A3 : oArr Z h3 b3 k3 .long [(.long (0 : Int64)), (.long (0 : Int64))] := A3
  refine o_astoreN K X3 d_ents2_11 (pc' := 12) rfl rfl (L' := #[.val (.ref a), .val (.ref b3), .unset, .unset, .unset, .unset, .unset]) rfl ?_
  refine o_iconst K X3 d_ents2_12 (pc' := 13) rfl (z := (0 : Int32)) rfl ?_
  refine o_istoreN K X3 d_ents2_13 (pc' := 14) rfl (L' := #[.val (.ref a), .val (.ref b3), .val (.int (0 : Int32)), .unset, .unset, .unset, .unset]) rfl ?_
  refine o_aloadN K X3 d_ents2_14 (pc' := 15) rfl rfl rfl ?_
  refine o_getfield K X3 (host := "") (Or.inl (w17 hw)) Via.refl (q2.ext E3) d_ents2_15 (pc' := 18) rfl ?_
  intro T4 X4
  refine o_astoreN K X4 d_ents2_18 (pc' := 19) rfl rfl (L' := #[.val (.ref a), .val (.ref b3), .val (.int (0 : Int32)), .val (.ref c), .unset, .unset, .unset]) rfl ?_
  refine o_aloadN K X4 d_ents2_19 (pc' := 20) rfl rfl rfl ?_
  refine o_arraylength K X4 (q4.ext E3) (z := (1 : Int32)) rfl d_ents2_20 (pc' := 21) rfl ?_
  refine o_istore K X4 d_ents2_21 (pc' := 23) rfl (L' := #[.val (.ref a), .val (.ref b3), .val (.int (0 : Int32)), .val (.ref c), .val (.int (1 : Int32)), .unset, .unset]) rfl ?_
  refine o_iconst K X4 d_ents2_23 (pc' := 24) rfl (z := (0 : Int32)) rfl ?_
  refine o_istore K X4 d_ents2_24 (pc' := 26) rfl (L' := #[.val (.ref a), .val (.ref b3), .val (.int (0 : Int32)), .val (.ref c), .val (.int (1 : Int32)), .val (.int (0 : Int32)), .unset]) rfl ?_
  refine o_iload K X4 d_ents2_26 (pc' := 28) rfl rfl ?_
  refine o_iload K X4 d_ents2_28 (pc' := 30) rfl rfl ?_
  refine o_icmp_ge_f K X4 d_ents2_30 (pc' := 33) rfl (by decide) ?_
  refine o_aloadN K X4 d_ents2_33 (pc' := 34) rfl rfl rfl ?_
  refine o_iload K X4 d_ents2_34 (pc' := 36) rfl rfl ?_
  refine o_aaload K X4 rfl (q4.ext E3) (by decide) (v := (.ref x)) rfl d_ents2_36 (pc' := 37) rfl ?_
  refine o_astore K X4 d_ents2_37 (pc' := 39) rfl rfl (L' := #[.val (.ref a), .val (.ref b3), .val (.int (0 : Int32)), .val (.ref c), .val (.int (1 : Int32)), .val (.int (0 : Int32)), .val (.ref x)]) rfl ?_
  refine o_aload K X4 d_ents2_39 (pc' := 41) rfl rfl rfl ?_
  refine o_iconst K X4 d_ents2_41 (pc' := 42) rfl (z := (0 : Int32)) rfl ?_
  refine o_aloadN K X4 d_ents2_42 (pc' := 43) rfl rfl rfl ?_
  refine o_iloadN K X4 d_ents2_43 (pc' := 44) rfl rfl ?_
  refine o_aload K X4 d_ents2_44 (pc' := 46) rfl rfl rfl ?_
  refine o_arraylength K X4 (q5.ext E3) (z := (2 : Int32)) rfl d_ents2_46 (pc' := 47) rfl ?_
  refine o_arraycopy K X4 [(.long d0), (.long d1)] [(.long d0), (.long d1)] (w90 hw) (w93 hw) (w91 hw) (w92 hw) (q5.ext E3) A3 (Or.inl ⟨rfl, rfl⟩) (by decide) (by decide) (by decide) (show (0 : Int32).toNatClampNeg + (2 : Int32).toNatClampNeg ≤ 2 from (by decide)) (show (0 : Int32).toNatClampNeg + (2 : Int32).toNatClampNeg ≤ 2 from (by decide)) rfl rfl rfl G3 d_ents2_47 (pc' := 50) rfl rfl (by decide) (W := 0) rfl (by decide) ?_
  intro T5 h5 X5 K5 A5
  refine o_iloadN K X5 d_ents2_50 (pc' := 51) rfl rfl ?_
  refine o_aload K X5 d_ents2_51 (pc' := 53) rfl rfl rfl ?_
  refine o_arraylength K X5 ((q5.ext E3).keep K5 (ninS (Nat.ne_of_lt (Nat.lt_of_lt_of_le q5.lt (Nat.le_of_eq g3.symm))) nin0)) (z := (2 : Int32)) rfl d_ents2_53 (pc' := 54) rfl ?_
  refine o_iadd K X5 d_ents2_54 (pc' := 55) rfl (z := (2 : Int32)) (by decide) ?_
  refine o_istoreN K X5 d_ents2_55 (pc' := 56) rfl (L' := #[.val (.ref a), .val (.ref b3), .val (.int (2 : Int32)), .val (.ref c), .val (.int (1 : Int32)), .val (.int (0 : Int32)), .val (.ref x)]) rfl ?_
  refine o_iinc K X5 d_ents2_56 (pc' := 59) rfl rfl (L' := #[.val (.ref a), .val (.ref b3), .val (.int (2 : Int32)), .val (.ref c), .val (.int (1 : Int32)), .val (.int (1 : Int32)), .val (.ref x)]) (by rw [show (0 : Int32) + Int32.ofInt 1 = (1 : Int32) from (by decide)]; rfl) ?_
  refine o_goto K X5 d_ents2_59 (by decide) (pc' := 26) (by decide) ?_
  refine o_iload K X5 d_ents2_26 (pc' := 28) rfl rfl ?_
  refine o_iload K X5 d_ents2_28 (pc' := 30) rfl rfl ?_
  refine o_icmp_ge_t K X5 d_ents2_30 (by decide) (pc' := 62) (by decide) (by decide) ?_
  refine o_aloadN K X5 d_ents2_62 (pc' := 63) rfl rfl rfl ?_
  refine o_areturn K X5 (t := (.array .long)) d_ents2_63 rfl rfl rfl ?_ (by decide) (by decide)
  exact ⟨b3, k3, rfl, (((Keep.refl h0 []).ext E3).trans K5 (allS (Or.inr (Nat.le_of_eq g3.symm)) all0)), (Nat.le_of_eq g3.symm), A5⟩
theorem d_same2_0 : decode method_3_code 0 = .ok (.aload_n 0, 1) := by decide +kernel
theorem d_same2_1 : decode method_3_code 1 = .ok (.arraylength, 1) := by decide +kernel
theorem d_same2_2 : decode method_3_code 2 = .ok (.aload_n 1, 1) := by decide +kernel
theorem d_same2_3 : decode method_3_code 3 = .ok (.arraylength, 1) := by decide +kernel
theorem d_same2_4 : decode method_3_code 4 = .ok (.if_icmp .eq 5, 3) := by decide +kernel
theorem d_same2_9 : decode method_3_code 9 = .ok (.aload_n 0, 1) := by decide +kernel
theorem d_same2_10 : decode method_3_code 10 = .ok (.arraylength, 1) := by decide +kernel
theorem d_same2_11 : decode method_3_code 11 = .ok (.istore_n 2, 1) := by decide +kernel
theorem d_same2_12 : decode method_3_code 12 = .ok (.iload_n 2, 1) := by decide +kernel
theorem d_same2_13 : decode method_3_code 13 = .ok (.iconst 4, 1) := by decide +kernel
theorem d_same2_14 : decode method_3_code 14 = .ok (.if_icmp .le 5, 3) := by decide +kernel
theorem d_same2_19 : decode method_3_code 19 = .ok (.iload_n 2, 1) := by decide +kernel
theorem d_same2_20 : decode method_3_code 20 = .ok (.iconst 1, 1) := by decide +kernel
theorem d_same2_21 : decode method_3_code 21 = .ok (.if_icmp .lt 15, 3) := by decide +kernel
theorem d_same2_24 : decode method_3_code 24 = .ok (.aload_n 0, 1) := by decide +kernel
theorem d_same2_25 : decode method_3_code 25 = .ok (.iconst 0, 1) := by decide +kernel
theorem d_same2_26 : decode method_3_code 26 = .ok (.laload, 1) := by decide +kernel
theorem d_same2_27 : decode method_3_code 27 = .ok (.aload_n 1, 1) := by decide +kernel
theorem d_same2_28 : decode method_3_code 28 = .ok (.iconst 0, 1) := by decide +kernel
theorem d_same2_29 : decode method_3_code 29 = .ok (.laload, 1) := by decide +kernel
theorem d_same2_30 : decode method_3_code 30 = .ok (.lcmp, 1) := by decide +kernel
theorem d_same2_31 : decode method_3_code 31 = .ok (.ifCond .eq 5, 3) := by decide +kernel
theorem d_same2_36 : decode method_3_code 36 = .ok (.iload_n 2, 1) := by decide +kernel
theorem d_same2_37 : decode method_3_code 37 = .ok (.iconst 2, 1) := by decide +kernel
theorem d_same2_38 : decode method_3_code 38 = .ok (.if_icmp .lt 15, 3) := by decide +kernel
theorem d_same2_41 : decode method_3_code 41 = .ok (.aload_n 0, 1) := by decide +kernel
theorem d_same2_42 : decode method_3_code 42 = .ok (.iconst 1, 1) := by decide +kernel
theorem d_same2_43 : decode method_3_code 43 = .ok (.laload, 1) := by decide +kernel
theorem d_same2_44 : decode method_3_code 44 = .ok (.aload_n 1, 1) := by decide +kernel
theorem d_same2_45 : decode method_3_code 45 = .ok (.iconst 1, 1) := by decide +kernel
theorem d_same2_46 : decode method_3_code 46 = .ok (.laload, 1) := by decide +kernel
theorem d_same2_47 : decode method_3_code 47 = .ok (.lcmp, 1) := by decide +kernel
theorem d_same2_48 : decode method_3_code 48 = .ok (.ifCond .eq 5, 3) := by decide +kernel
theorem d_same2_53 : decode method_3_code 53 = .ok (.iload_n 2, 1) := by decide +kernel
theorem d_same2_54 : decode method_3_code 54 = .ok (.iconst 3, 1) := by decide +kernel
theorem d_same2_55 : decode method_3_code 55 = .ok (.if_icmp .lt 15, 3) := by decide +kernel
theorem d_same2_70 : decode method_3_code 70 = .ok (.iload_n 2, 1) := by decide +kernel
theorem d_same2_71 : decode method_3_code 71 = .ok (.iconst 4, 1) := by decide +kernel
theorem d_same2_72 : decode method_3_code 72 = .ok (.if_icmp .lt 15, 3) := by decide +kernel
theorem d_same2_87 : decode method_3_code 87 = .ok (.iconst 1, 1) := by decide +kernel
theorem d_same2_88 : decode method_3_code 88 = .ok (.ireturn, 1) := by decide +kernel
def r_same2 : Room := { frames := 0, cells := 0, slots := 0, locals := 0 }
def Q_same2 (Z : State) (a : Addr) (ka : ClassId) (b : Addr) (kb : ClassId) (d0 : Int64) (d1 : Int64) (h0 : Heap) (v : Option Value) (h : Heap) : Prop := v = some (.int (1 : Int32)) ∧ h0 = h
set_option maxRecDepth 65536 in
set_option maxHeartbeats 40000000 in
theorem rm_same2 (l : Launch) (Z : State) (a0 : Array Value) (hw : oHw Z a0) (a : Addr) (ka : ClassId) (b : Addr) (kb : ClassId) (d0 : Int64) (d1 : Int64) (h0 : Heap) (q0 : oArr Z h0 a ka .long [(.long d0), (.long d1)]) (q1 : oArr Z h0 b kb .long [(.long d0), (.long d1)]) : oMet l Z (⟨"com/example/rosterlink/rosterlink/model/IdChunksEmptyPinLaw", "same", "([J[J)Z"⟩ : MethodName) method_3_code 3 (some .boolean) r_same2 [] #[(.ref a), (.ref b)] h0 (Q_same2 Z a ka b kb d0 d1 h0) := by
  refine oEnter (plainFor_of_name (by first | (simp [plainName, overriddenIn]; done) | decide +kernel)) (own := "com/example/rosterlink/rosterlink/model/IdChunksEmptyPinLaw") (nm := "same") rfl rfl (L := #[.val (.ref a), .val (.ref b), .unset]) (fun m => by first | (simp [entryFrame, mkF, argsToLocals, Value.category]; done) | rfl) ?_
  intro pp ee ss mm bb mtd cc T0 K X0
  have E0 := X0.ext0
  refine o_aloadN K X0 d_same2_0 (pc' := 1) rfl rfl rfl ?_
  refine o_arraylength K X0 q0 (z := (2 : Int32)) rfl d_same2_1 (pc' := 2) rfl ?_
  refine o_aloadN K X0 d_same2_2 (pc' := 3) rfl rfl rfl ?_
  refine o_arraylength K X0 q1 (z := (2 : Int32)) rfl d_same2_3 (pc' := 4) rfl ?_
  refine o_icmp_eq_t K X0 d_same2_4 (by decide) (pc' := 9) (by decide) (by decide) ?_
  refine o_aloadN K X0 d_same2_9 (pc' := 10) rfl rfl rfl ?_
  refine o_arraylength K X0 q0 (z := (2 : Int32)) rfl d_same2_10 (pc' := 11) rfl ?_
  refine o_istoreN K X0 d_same2_11 (pc' := 12) rfl (L' := #[.val (.ref a), .val (.ref b), .val (.int (2 : Int32))]) rfl ?_
  refine o_iloadN K X0 d_same2_12 (pc' := 13) rfl rfl ?_
  refine o_iconst K X0 d_same2_13 (pc' := 14) rfl (z := (4 : Int32)) rfl ?_
  refine o_icmp_le_t K X0 d_same2_14 (by decide) (pc' := 19) (by decide) (by decide) ?_
  refine o_iloadN K X0 d_same2_19 (pc' := 20) rfl rfl ?_
  refine o_iconst K X0 d_same2_20 (pc' := 21) rfl (z := (1 : Int32)) rfl ?_
  refine o_icmp_lt_f K X0 d_same2_21 (pc' := 24) rfl (by decide) ?_
  refine o_aloadN K X0 d_same2_24 (pc' := 25) rfl rfl rfl ?_
  refine o_iconst K X0 d_same2_25 (pc' := 26) rfl (z := (0 : Int32)) rfl ?_
  refine o_laload K X0 q0 (by decide) (v := (.long d0)) rfl d_same2_26 (pc' := 27) rfl ?_
  refine o_aloadN K X0 d_same2_27 (pc' := 28) rfl rfl rfl ?_
  refine o_iconst K X0 d_same2_28 (pc' := 29) rfl (z := (0 : Int32)) rfl ?_
  refine o_laload K X0 q1 (by decide) (v := (.long d0)) rfl d_same2_29 (pc' := 30) rfl ?_
  refine o_lcmp K X0 d_same2_30 (pc' := 31) rfl (z := (0 : Int32)) (oLcmp _) ?_
  refine o_if_eq_t K X0 d_same2_31 (by decide) (pc' := 36) (by decide) (by decide) ?_
  refine o_iloadN K X0 d_same2_36 (pc' := 37) rfl rfl ?_
  refine o_iconst K X0 d_same2_37 (pc' := 38) rfl (z := (2 : Int32)) rfl ?_
  refine o_icmp_lt_f K X0 d_same2_38 (pc' := 41) rfl (by decide) ?_
  refine o_aloadN K X0 d_same2_41 (pc' := 42) rfl rfl rfl ?_
  refine o_iconst K X0 d_same2_42 (pc' := 43) rfl (z := (1 : Int32)) rfl ?_
  refine o_laload K X0 q0 (by decide) (v := (.long d1)) rfl d_same2_43 (pc' := 44) rfl ?_
  refine o_aloadN K X0 d_same2_44 (pc' := 45) rfl rfl rfl ?_
  refine o_iconst K X0 d_same2_45 (pc' := 46) rfl (z := (1 : Int32)) rfl ?_
  refine o_laload K X0 q1 (by decide) (v := (.long d1)) rfl d_same2_46 (pc' := 47) rfl ?_
  refine o_lcmp K X0 d_same2_47 (pc' := 48) rfl (z := (0 : Int32)) (oLcmp _) ?_
  refine o_if_eq_t K X0 d_same2_48 (by decide) (pc' := 53) (by decide) (by decide) ?_
  refine o_iloadN K X0 d_same2_53 (pc' := 54) rfl rfl ?_
  refine o_iconst K X0 d_same2_54 (pc' := 55) rfl (z := (3 : Int32)) rfl ?_
  refine o_icmp_lt_t K X0 d_same2_55 (by decide) (pc' := 70) (by decide) (by decide) ?_
  refine o_iloadN K X0 d_same2_70 (pc' := 71) rfl rfl ?_
  refine o_iconst K X0 d_same2_71 (pc' := 72) rfl (z := (4 : Int32)) rfl ?_
  refine o_icmp_lt_t K X0 d_same2_72 (by decide) (pc' := 87) (by decide) (by decide) ?_
  refine o_iconst K X0 d_same2_87 (pc' := 88) rfl (z := (1 : Int32)) rfl ?_
  refine o_ireturnN K X0 .boolean d_same2_88 rfl (by simp) (z' := (1 : Int32)) (by decide) ?_ (by decide) (by decide)
  exact ⟨rfl, rfl⟩
theorem d_with3_0 : decode prog_25_method_7_code 0 = .ok (.aload_n 0, 1) := by decide +kernel
theorem d_with3_1 : decode prog_25_method_7_code 1 = .ok (.getfield 13, 3) := by decide +kernel
theorem d_with3_4 : decode prog_25_method_7_code 4 = .ok (.arraylength, 1) := by decide +kernel
theorem d_with3_5 : decode prog_25_method_7_code 5 = .ok (.ifCond .ne 30, 3) := by decide +kernel
theorem d_with3_8 : decode prog_25_method_7_code 8 = .ok (.new 8, 3) := by decide +kernel
theorem d_with3_11 : decode prog_25_method_7_code 11 = .ok (.dup, 1) := by decide +kernel
theorem d_with3_12 : decode prog_25_method_7_code 12 = .ok (.aload_n 0, 1) := by decide +kernel
theorem d_with3_13 : decode prog_25_method_7_code 13 = .ok (.getfield 7, 3) := by decide +kernel
theorem d_with3_16 : decode prog_25_method_7_code 16 = .ok (.iconst 1, 1) := by decide +kernel
theorem d_with3_17 : decode prog_25_method_7_code 17 = .ok (.anewarray 20, 3) := by decide +kernel
theorem d_with3_20 : decode prog_25_method_7_code 20 = .ok (.dup, 1) := by decide +kernel
theorem d_with3_21 : decode prog_25_method_7_code 21 = .ok (.iconst 0, 1) := by decide +kernel
theorem d_with3_22 : decode prog_25_method_7_code 22 = .ok (.aload_n 1, 1) := by decide +kernel
theorem d_with3_23 : decode prog_25_method_7_code 23 = .ok (.invokevirtual 45, 3) := by decide +kernel
theorem d_with3_26 : decode prog_25_method_7_code 26 = .ok (.checkcast 20, 3) := by decide +kernel
theorem d_with3_29 : decode prog_25_method_7_code 29 = .ok (.aastore, 1) := by decide +kernel
theorem d_with3_30 : decode prog_25_method_7_code 30 = .ok (.iconst 1, 1) := by decide +kernel
theorem d_with3_31 : decode prog_25_method_7_code 31 = .ok (.invokespecial 22, 3) := by decide +kernel
theorem d_with3_34 : decode prog_25_method_7_code 34 = .ok (.areturn, 1) := by decide +kernel
theorem pd_with3_0 : parseMethodDescriptor "(I[[JI)V" = some ⟨[.int, (.array (.array .long)), .int], none⟩ := by decide +kernel
def r_with3 : Room := { frames := 2, cells := 3, slots := 7, locals := 28 }
def Q_with3 (Z : State) (a : Addr) (c : Addr) (s : Int32) (kc : ClassId) (b : Addr) (kb : ClassId) (d0 : Int64) (d1 : Int64) (d2 : Int64) (h0 : Heap) (v : Option Value) (h : Heap) : Prop := ∃ r : Addr, ∃ ch : Addr, ∃ k : ClassId, ∃ x : Addr, ∃ kx : ClassId, v = some (.ref r) ∧ Keep h0 h [] ∧ h0.size ≤ r ∧ Exa Z h r "com/example/rosterlink/rosterlink/model/IdChunks" ∧ Fld Z h r "com/example/rosterlink/rosterlink/model/IdChunks" "width" "I" (.int (3 : Int32)) ∧ Fld Z h r "com/example/rosterlink/rosterlink/model/IdChunks" "chunks" "[[J" (.ref ch) ∧ Fld Z h r "com/example/rosterlink/rosterlink/model/IdChunks" "size" "I" (.int (1 : Int32)) ∧ h0.size ≤ ch ∧ oArr Z h ch k (.array .long) [(.ref x)] ∧ h0.size ≤ x ∧ oArr Z h x kx .long [(.long d0), (.long d1), (.long d2)] ∧ Exa Z h x "[J"
set_option maxRecDepth 65536 in
set_option maxHeartbeats 40000000 in
theorem rm_with3 (l : Launch) (Z : State) (a0 : Array Value) (hw : oHw Z a0) (a : Addr) (c : Addr) (s : Int32) (kc : ClassId) (b : Addr) (kb : ClassId) (d0 : Int64) (d1 : Int64) (d2 : Int64) (h0 : Heap) (q0 : Exa Z h0 a "com/example/rosterlink/rosterlink/model/IdChunks") (q1 : Fld Z h0 a "com/example/rosterlink/rosterlink/model/IdChunks" "width" "I" (.int (3 : Int32))) (q2 : Fld Z h0 a "com/example/rosterlink/rosterlink/model/IdChunks" "chunks" "[[J" (.ref c)) (q3 : Fld Z h0 a "com/example/rosterlink/rosterlink/model/IdChunks" "size" "I" (.int s)) (q4 : oArr Z h0 c kc (.array .long) []) (q5 : oArr Z h0 b kb .long [(.long d0), (.long d1), (.long d2)]) (q6 : Exa Z h0 b "[J") : oMet l Z (⟨"com/example/rosterlink/rosterlink/model/IdChunks", "with", "([J)Lcom/example/rosterlink/rosterlink/model/IdChunks;"⟩ : MethodName) prog_25_method_7_code 10 (some (.object "com/example/rosterlink/rosterlink/model/IdChunks")) r_with3 [] #[(.ref a), (.ref b)] h0 (Q_with3 Z a c s kc b kb d0 d1 d2 h0) := by
  refine oEnter (plainFor_of_name (by first | (simp [plainName, overriddenIn]; done) | decide +kernel)) (own := "com/example/rosterlink/rosterlink/model/IdChunks") (nm := "with") rfl rfl (L := #[.val (.ref a), .val (.ref b), .unset, .unset, .unset, .unset, .unset, .unset, .unset, .unset]) (fun m => by first | (simp [entryFrame, mkF, argsToLocals, Value.category]; done) | rfl) ?_
  intro pp ee ss mm bb mtd cc T0 K X0
  have E0 := X0.ext0
  refine o_aloadN K X0 d_with3_0 (pc' := 1) rfl rfl rfl ?_
  refine o_getfield K X0 (host := "") (Or.inl (w17 hw)) Via.refl q2 d_with3_1 (pc' := 4) rfl ?_
  intro T1 X1
  refine o_arraylength K X1 q4 (z := (0 : Int32)) rfl d_with3_4 (pc' := 5) rfl ?_
  refine o_if_ne_f K X1 d_with3_5 (pc' := 8) rfl (by decide) ?_
  refine o_new K X1 (w7 hw) (w8 hw) (w3 hw) d_with3_8 (pc' := 11) rfl (by decide) (by decide) ?_
  intro T2 h2 b2 X2 g2 E2 A2 D2 G2
  have F2_width : Fld Z h2 b2 "com/example/rosterlink/rosterlink/model/IdChunks" "width" "I" (.int (0 : Int32)) := (D2 (Or.inr (w16 hw)) (ty := .int) (by decide))
  have F2_chunks : Fld Z h2 b2 "com/example/rosterlink/rosterlink/model/IdChunks" "chunks" "[[J" .null := (D2 (Or.inr (w18 hw)) (ty := (.array (.array .long))) (by decide))
  have F2_size : Fld Z h2 b2 "com/example/rosterlink/rosterlink/model/IdChunks" "size" "I" (.int (0 : Int32)) := (D2 (Or.inr (w20 hw)) (ty := .int) (by decide))
  refine o_dup K X2 d_with3_11 (pc' := 12) rfl rfl ?_
  refine o_aloadN K X2 d_with3_12 (pc' := 13) rfl rfl rfl ?_
  refine o_getfield K X2 (host := "") (Or.inl (w15 hw)) Via.refl (q1.ext E2) d_with3_13 (pc' := 16) rfl ?_
  intro T3 X3
  refine o_iconst K X3 d_with3_16 (pc' := 17) rfl (z := (1 : Int32)) rfl ?_
  refine o_anewarrayA K X3 (ty := .long) 1 (by decide +kernel) (w5 hw) (w6 hw) (ad := "[[J") (by decide +kernel) (by decide) (by decide) (by decide) d_with3_17 (pc' := 20) rfl (by decide) (by decide) ?_
  intro T4 h4 b4 k4 X4 g4 E4 A4 B4 O4 G4
  replace A4 : oArr Z h4 b4 k4 (.array .long) [.null] := A4
  refine o_dup K X4 d_with3_20 (pc' := 21) rfl rfl ?_
  refine o_iconst K X4 d_with3_21 (pc' := 22) rfl (z := (0 : Int32)) rfl ?_
  refine o_aloadN K X4 d_with3_22 (pc' := 23) rfl rfl rfl ?_
  refine o_clone K X4 3 (w63 hw) (w64 hw) (w68 hw) (w66 hw) (w67 hw) (w69 hw) ((q5.ext E2).ext E4) rfl ((q6.ext E2).ext E4) d_with3_23 (pc' := 26) rfl rfl (by decide) (W := 6) rfl (by decide) (by decide) (by decide) ?_
  intro T5 h5 b5 X5 g5 E5 A5 B5 G5
  refine o_checkcast K X5 (w5 hw) (Ins.self B5) d_with3_26 (pc' := 29) rfl ?_
  intro T6 X6
  refine o_aastore K X6 rfl (A4.ext E5) (by decide) (show (0 : Int32).toNatClampNeg < 1 from (by decide)) G4 (oStoA (A4.ext E5) O4 (Ins.self B5)) rfl d_with3_29 (pc' := 30) rfl ?_
  intro T7 h7 X7 W7 A7
  replace A7 : oArr Z h7 b4 k4 (.array .long) [(.ref b5)] := A7
  refine o_iconst K X7 d_with3_30 (pc' := 31) rfl (z := (1 : Int32)) rfl ?_
  refine o_special K X7 (y := (⟨"com/example/rosterlink/rosterlink/model/IdChunks", "<init>", "(I[[JI)V"⟩ : MethodName)) rfl (w9 hw) (w10 hw) (w3 hw) (w11 hw) (by decide) (rm_init l Z a0 hw b2 (3 : Int32) b4 (1 : Int32) h7 (Exa.wr W7 ((A2.ext E4).ext E5)) (Fld.other W7 ((F2_width.ext E4).ext E5) (Or.inl (Nat.ne_of_lt (Nat.lt_of_lt_of_le A2.lt (Nat.le_of_eq g4.symm))))) (Fld.other W7 ((F2_chunks.ext E4).ext E5) (Or.inl (Nat.ne_of_lt (Nat.lt_of_lt_of_le A2.lt (Nat.le_of_eq g4.symm))))) (Fld.other W7 ((F2_size.ext E4).ext E5) (Or.inl (Nat.ne_of_lt (Nat.lt_of_lt_of_le A2.lt (Nat.le_of_eq g4.symm))))) G2) (by decide) rfl (argsL := [(.int (3 : Int32)), (.ref b4), (.int (1 : Int32))]) rfl (lenOf pd_with3_0 rfl) (W := 1) rfl (by decide) (by decide) (by decide) d_with3_31 (pc' := 34) rfl ?_
  intro v8 T8 h8 X8 U8
  obtain ⟨rfl, u8_0, u8_1, u8_2, u8_3, u8_4⟩ := U8
  show oGoes pp ee bb ss Z T8 (mkF mm 34 #[.val (.ref a), .val (.ref b), .unset, .unset, .unset, .unset, .unset, .unset, .unset, .unset] [(.ref b2)]) _ _ _
  refine o_areturn K X8 (t := (.object "com/example/rosterlink/rosterlink/model/IdChunks")) d_with3_34 rfl rfl rfl ?_ (by decide) (by decide)
  exact ⟨b2, b4, k4, b5, kb, rfl, ((((((Keep.refl h0 []).ext E2).ext E4).ext E5).wr W7 (Or.inr (Nat.le_trans E2.1 (Nat.le_of_eq g4.symm)))).trans u8_0 (allS (Or.inr (Nat.le_of_eq g2.symm)) all0)), (Nat.le_of_eq g2.symm), u8_1, u8_2, u8_3, u8_4, (Nat.le_trans E2.1 (Nat.le_of_eq g4.symm)), (A7.keep u8_0 (ninS (Ne.symm (Nat.ne_of_lt (Nat.lt_of_lt_of_le A2.lt (Nat.le_of_eq g4.symm)))) nin0)), (Nat.le_trans (Nat.le_trans E2.1 E4.1) (Nat.le_of_eq g5.symm)), ((A5.other W7 (Ne.symm (Nat.ne_of_lt (Nat.lt_of_lt_of_le A4.lt (Nat.le_of_eq g5.symm))))).keep u8_0 (ninS (Ne.symm (Nat.ne_of_lt (Nat.lt_of_lt_of_le (Nat.lt_of_lt_of_le A2.lt E4.1) (Nat.le_of_eq g5.symm)))) nin0)), ((Exa.wr W7 B5).keep u8_0)⟩
theorem d_cf1_3_0 : decode prog_25_method_17_code 0 = .ok (.iconst 0, 1) := by decide +kernel
theorem d_cf1_3_1 : decode prog_25_method_17_code 1 = .ok (.istore_n 3, 1) := by decide +kernel
theorem d_cf1_3_2 : decode prog_25_method_17_code 2 = .ok (.aload_n 0, 1) := by decide +kernel
theorem d_cf1_3_3 : decode prog_25_method_17_code 3 = .ok (.getfield 13, 3) := by decide +kernel
theorem d_cf1_3_6 : decode prog_25_method_17_code 6 = .ok (.arraylength, 1) := by decide +kernel
theorem d_cf1_3_7 : decode prog_25_method_17_code 7 = .ok (.istore 4, 2) := by decide +kernel
theorem d_cf1_3_9 : decode prog_25_method_17_code 9 = .ok (.iload_n 3, 1) := by decide +kernel
theorem d_cf1_3_10 : decode prog_25_method_17_code 10 = .ok (.iload 4, 2) := by decide +kernel
theorem d_cf1_3_12 : decode prog_25_method_17_code 12 = .ok (.if_icmp .ge 51, 3) := by decide +kernel
theorem d_cf1_3_15 : decode prog_25_method_17_code 15 = .ok (.iload_n 3, 1) := by decide +kernel
theorem d_cf1_3_16 : decode prog_25_method_17_code 16 = .ok (.iload 4, 2) := by decide +kernel
theorem d_cf1_3_18 : decode prog_25_method_17_code 18 = .ok (.iadd, 1) := by decide +kernel
theorem d_cf1_3_19 : decode prog_25_method_17_code 19 = .ok (.iconst 1, 1) := by decide +kernel
theorem d_cf1_3_20 : decode prog_25_method_17_code 20 = .ok (.iushr, 1) := by decide +kernel
theorem d_cf1_3_21 : decode prog_25_method_17_code 21 = .ok (.istore 5, 2) := by decide +kernel
theorem d_cf1_3_23 : decode prog_25_method_17_code 23 = .ok (.aload_n 0, 1) := by decide +kernel
theorem d_cf1_3_24 : decode prog_25_method_17_code 24 = .ok (.getfield 13, 3) := by decide +kernel
theorem d_cf1_3_27 : decode prog_25_method_17_code 27 = .ok (.iload 5, 2) := by decide +kernel
theorem d_cf1_3_29 : decode prog_25_method_17_code 29 = .ok (.aaload, 1) := by decide +kernel
theorem d_cf1_3_30 : decode prog_25_method_17_code 30 = .ok (.astore 6, 2) := by decide +kernel
theorem d_cf1_3_32 : decode prog_25_method_17_code 32 = .ok (.aload 6, 2) := by decide +kernel
theorem d_cf1_3_34 : decode prog_25_method_17_code 34 = .ok (.aload 6, 2) := by decide +kernel
theorem d_cf1_3_36 : decode prog_25_method_17_code 36 = .ok (.arraylength, 1) := by decide +kernel
theorem d_cf1_3_37 : decode prog_25_method_17_code 37 = .ok (.aload_n 0, 1) := by decide +kernel
theorem d_cf1_3_38 : decode prog_25_method_17_code 38 = .ok (.getfield 7, 3) := by decide +kernel
theorem d_cf1_3_41 : decode prog_25_method_17_code 41 = .ok (.isub, 1) := by decide +kernel
theorem d_cf1_3_42 : decode prog_25_method_17_code 42 = .ok (.laload, 1) := by decide +kernel
theorem d_cf1_3_43 : decode prog_25_method_17_code 43 = .ok (.lload_n 1, 1) := by decide +kernel
theorem d_cf1_3_44 : decode prog_25_method_17_code 44 = .ok (.lcmp, 1) := by decide +kernel
theorem d_cf1_3_45 : decode prog_25_method_17_code 45 = .ok (.ifCond .ge 11, 3) := by decide +kernel
theorem d_cf1_3_56 : decode prog_25_method_17_code 56 = .ok (.iload 5, 2) := by decide +kernel
theorem d_cf1_3_58 : decode prog_25_method_17_code 58 = .ok (.istore 4, 2) := by decide +kernel
theorem d_cf1_3_60 : decode prog_25_method_17_code 60 = .ok (.goto (-51), 3) := by decide +kernel
theorem d_cf1_3_63 : decode prog_25_method_17_code 63 = .ok (.iload_n 3, 1) := by decide +kernel
theorem d_cf1_3_64 : decode prog_25_method_17_code 64 = .ok (.ireturn, 1) := by decide +kernel
def r_cf1_3 : Room := { frames := 0, cells := 0, slots := 0, locals := 0 }
def Q_cf1_3 (Z : State) (a : Addr) (c : Addr) (kc : ClassId) (x : Addr) (kx : ClassId) (d0 : Int64) (d1 : Int64) (d2 : Int64) (h0 : Heap) (v : Option Value) (h : Heap) : Prop := v = some (.int (0 : Int32)) ∧ h0 = h
set_option maxRecDepth 65536 in
set_option maxHeartbeats 40000000 in
theorem rm_cf1_3 (l : Launch) (Z : State) (a0 : Array Value) (hw : oHw Z a0) (a : Addr) (c : Addr) (kc : ClassId) (x : Addr) (kx : ClassId) (d0 : Int64) (d1 : Int64) (d2 : Int64) (h0 : Heap) (q0 : Exa Z h0 a "com/example/rosterlink/rosterlink/model/IdChunks") (q1 : Fld Z h0 a "com/example/rosterlink/rosterlink/model/IdChunks" "width" "I" (.int (3 : Int32))) (q2 : Fld Z h0 a "com/example/rosterlink/rosterlink/model/IdChunks" "chunks" "[[J" (.ref c)) (q3 : Fld Z h0 a "com/example/rosterlink/rosterlink/model/IdChunks" "size" "I" (.int (1 : Int32))) (q4 : oArr Z h0 c kc (.array .long) [(.ref x)]) (q5 : oArr Z h0 x kx .long [(.long d0), (.long d1), (.long d2)]) (q6 : Exa Z h0 x "[J") : oMet l Z (⟨"com/example/rosterlink/rosterlink/model/IdChunks", "chunkFor", "(J)I"⟩ : MethodName) prog_25_method_17_code 7 (some .int) r_cf1_3 [] #[(.ref a), (.long d0)] h0 (Q_cf1_3 Z a c kc x kx d0 d1 d2 h0) := by
  refine oEnter (plainFor_of_name (by first | (simp [plainName, overriddenIn]; done) | decide +kernel)) (own := "com/example/rosterlink/rosterlink/model/IdChunks") (nm := "chunkFor") rfl rfl (L := #[.val (.ref a), .val (.long d0), .second, .unset, .unset, .unset, .unset]) (fun m => by first | (simp [entryFrame, mkF, argsToLocals, Value.category]; done) | rfl) ?_
  intro pp ee ss mm bb mtd cc T0 K X0
  have E0 := X0.ext0
  refine o_iconst K X0 d_cf1_3_0 (pc' := 1) rfl (z := (0 : Int32)) rfl ?_
  refine o_istoreN K X0 d_cf1_3_1 (pc' := 2) rfl (L' := #[.val (.ref a), .val (.long d0), .second, .val (.int (0 : Int32)), .unset, .unset, .unset]) rfl ?_
  refine o_aloadN K X0 d_cf1_3_2 (pc' := 3) rfl rfl rfl ?_
  refine o_getfield K X0 (host := "") (Or.inl (w17 hw)) Via.refl q2 d_cf1_3_3 (pc' := 6) rfl ?_
  intro T1 X1
  refine o_arraylength K X1 q4 (z := (1 : Int32)) rfl d_cf1_3_6 (pc' := 7) rfl ?_
  refine o_istore K X1 d_cf1_3_7 (pc' := 9) rfl (L' := #[.val (.ref a), .val (.long d0), .second, .val (.int (0 : Int32)), .val (.int (1 : Int32)), .unset, .unset]) rfl ?_
  refine o_iloadN K X1 d_cf1_3_9 (pc' := 10) rfl rfl ?_
  refine o_iload K X1 d_cf1_3_10 (pc' := 12) rfl rfl ?_
  refine o_icmp_ge_f K X1 d_cf1_3_12 (pc' := 15) rfl (by decide) ?_
  refine o_iloadN K X1 d_cf1_3_15 (pc' := 16) rfl rfl ?_
  refine o_iload K X1 d_cf1_3_16 (pc' := 18) rfl rfl ?_
  refine o_iadd K X1 d_cf1_3_18 (pc' := 19) rfl (z := (1 : Int32)) (by decide) ?_
  refine o_iconst K X1 d_cf1_3_19 (pc' := 20) rfl (z := (1 : Int32)) rfl ?_
  refine o_iushr K X1 d_cf1_3_20 (pc' := 21) rfl (z := (0 : Int32)) (by decide) ?_
  refine o_istore K X1 d_cf1_3_21 (pc' := 23) rfl (L' := #[.val (.ref a), .val (.long d0), .second, .val (.int (0 : Int32)), .val (.int (1 : Int32)), .val (.int (0 : Int32)), .unset]) rfl ?_
  refine o_aloadN K X1 d_cf1_3_23 (pc' := 24) rfl rfl rfl ?_
  refine o_getfield K X1 (host := "") (Or.inl (w17 hw)) Via.refl q2 d_cf1_3_24 (pc' := 27) rfl ?_
  intro T2 X2
  refine o_iload K X2 d_cf1_3_27 (pc' := 29) rfl rfl ?_
  refine o_aaload K X2 rfl q4 (by decide) (v := (.ref x)) rfl d_cf1_3_29 (pc' := 30) rfl ?_
  refine o_astore K X2 d_cf1_3_30 (pc' := 32) rfl rfl (L' := #[.val (.ref a), .val (.long d0), .second, .val (.int (0 : Int32)), .val (.int (1 : Int32)), .val (.int (0 : Int32)), .val (.ref x)]) rfl ?_
  refine o_aload K X2 d_cf1_3_32 (pc' := 34) rfl rfl rfl ?_
  refine o_aload K X2 d_cf1_3_34 (pc' := 36) rfl rfl rfl ?_
  refine o_arraylength K X2 q5 (z := (3 : Int32)) rfl d_cf1_3_36 (pc' := 37) rfl ?_
  refine o_aloadN K X2 d_cf1_3_37 (pc' := 38) rfl rfl rfl ?_
  refine o_getfield K X2 (host := "") (Or.inl (w15 hw)) Via.refl q1 d_cf1_3_38 (pc' := 41) rfl ?_
  intro T3 X3
  refine o_isub K X3 d_cf1_3_41 (pc' := 42) rfl (z := (0 : Int32)) (by decide) ?_
  refine o_laload K X3 q5 (by decide) (v := (.long d0)) rfl d_cf1_3_42 (pc' := 43) rfl ?_
  refine o_lloadN K X3 d_cf1_3_43 (pc' := 44) rfl rfl ?_
  refine o_lcmp K X3 d_cf1_3_44 (pc' := 45) rfl (z := (0 : Int32)) (oLcmp _) ?_
  refine o_if_ge_t K X3 d_cf1_3_45 (by decide) (pc' := 56) (by decide) (by decide) ?_
  refine o_iload K X3 d_cf1_3_56 (pc' := 58) rfl rfl ?_
  refine o_istore K X3 d_cf1_3_58 (pc' := 60) rfl (L' := #[.val (.ref a), .val (.long d0), .second, .val (.int (0 : Int32)), .val (.int (0 : Int32)), .val (.int (0 : Int32)), .val (.ref x)]) rfl ?_
  refine o_goto K X3 d_cf1_3_60 (by decide) (pc' := 9) (by decide) ?_
  refine o_iloadN K X3 d_cf1_3_9 (pc' := 10) rfl rfl ?_
  refine o_iload K X3 d_cf1_3_10 (pc' := 12) rfl rfl ?_
  refine o_icmp_ge_t K X3 d_cf1_3_12 (by decide) (pc' := 63) (by decide) (by decide) ?_
  refine o_iloadN K X3 d_cf1_3_63 (pc' := 64) rfl rfl ?_
  refine o_ireturn K X3 d_cf1_3_64 rfl ?_ (by decide) (by decide)
  exact ⟨rfl, rfl⟩
theorem d_find3_0 : decode prog_25_method_18_code 0 = .ok (.iconst 0, 1) := by decide +kernel
theorem d_find3_1 : decode prog_25_method_18_code 1 = .ok (.istore 4, 2) := by decide +kernel
theorem d_find3_3 : decode prog_25_method_18_code 3 = .ok (.aload_n 1, 1) := by decide +kernel
theorem d_find3_4 : decode prog_25_method_18_code 4 = .ok (.arraylength, 1) := by decide +kernel
theorem d_find3_5 : decode prog_25_method_18_code 5 = .ok (.aload_n 0, 1) := by decide +kernel
theorem d_find3_6 : decode prog_25_method_18_code 6 = .ok (.getfield 7, 3) := by decide +kernel
theorem d_find3_9 : decode prog_25_method_18_code 9 = .ok (.idiv, 1) := by decide +kernel
theorem d_find3_10 : decode prog_25_method_18_code 10 = .ok (.iconst 1, 1) := by decide +kernel
theorem d_find3_11 : decode prog_25_method_18_code 11 = .ok (.isub, 1) := by decide +kernel
theorem d_find3_12 : decode prog_25_method_18_code 12 = .ok (.istore 5, 2) := by decide +kernel
theorem d_find3_14 : decode prog_25_method_18_code 14 = .ok (.iload 4, 2) := by decide +kernel
theorem d_find3_16 : decode prog_25_method_18_code 16 = .ok (.iload 5, 2) := by decide +kernel
theorem d_find3_18 : decode prog_25_method_18_code 18 = .ok (.if_icmp .gt 61, 3) := by decide +kernel
theorem d_find3_21 : decode prog_25_method_18_code 21 = .ok (.iload 4, 2) := by decide +kernel
theorem d_find3_23 : decode prog_25_method_18_code 23 = .ok (.iload 5, 2) := by decide +kernel
theorem d_find3_25 : decode prog_25_method_18_code 25 = .ok (.iadd, 1) := by decide +kernel
theorem d_find3_26 : decode prog_25_method_18_code 26 = .ok (.iconst 1, 1) := by decide +kernel
theorem d_find3_27 : decode prog_25_method_18_code 27 = .ok (.iushr, 1) := by decide +kernel
theorem d_find3_28 : decode prog_25_method_18_code 28 = .ok (.istore 6, 2) := by decide +kernel
theorem d_find3_30 : decode prog_25_method_18_code 30 = .ok (.aload_n 1, 1) := by decide +kernel
theorem d_find3_31 : decode prog_25_method_18_code 31 = .ok (.iload 6, 2) := by decide +kernel
theorem d_find3_33 : decode prog_25_method_18_code 33 = .ok (.aload_n 0, 1) := by decide +kernel
theorem d_find3_34 : decode prog_25_method_18_code 34 = .ok (.getfield 7, 3) := by decide +kernel
theorem d_find3_37 : decode prog_25_method_18_code 37 = .ok (.imul, 1) := by decide +kernel
theorem d_find3_38 : decode prog_25_method_18_code 38 = .ok (.laload, 1) := by decide +kernel
theorem d_find3_39 : decode prog_25_method_18_code 39 = .ok (.lstore 7, 2) := by decide +kernel
theorem d_find3_41 : decode prog_25_method_18_code 41 = .ok (.lload 7, 2) := by decide +kernel
theorem d_find3_43 : decode prog_25_method_18_code 43 = .ok (.lload_n 2, 1) := by decide +kernel
theorem d_find3_44 : decode prog_25_method_18_code 44 = .ok (.lcmp, 1) := by decide +kernel
theorem d_find3_45 : decode prog_25_method_18_code 45 = .ok (.ifCond .ge 12, 3) := by decide +kernel
theorem d_find3_57 : decode prog_25_method_18_code 57 = .ok (.lload 7, 2) := by decide +kernel
theorem d_find3_59 : decode prog_25_method_18_code 59 = .ok (.lload_n 2, 1) := by decide +kernel
theorem d_find3_60 : decode prog_25_method_18_code 60 = .ok (.lcmp, 1) := by decide +kernel
theorem d_find3_61 : decode prog_25_method_18_code 61 = .ok (.ifCond .le 12, 3) := by decide +kernel
theorem d_find3_73 : decode prog_25_method_18_code 73 = .ok (.iload 6, 2) := by decide +kernel
theorem d_find3_75 : decode prog_25_method_18_code 75 = .ok (.ireturn, 1) := by decide +kernel
def r_find3 : Room := { frames := 0, cells := 0, slots := 0, locals := 0 }
def Q_find3 (Z : State) (a : Addr) (c : Addr) (kc : ClassId) (x : Addr) (kx : ClassId) (d0 : Int64) (d1 : Int64) (d2 : Int64) (h0 : Heap) (v : Option Value) (h : Heap) : Prop := v = some (.int (0 : Int32)) ∧ h0 = h
set_option maxRecDepth 65536 in
set_option maxHeartbeats 40000000 in
theorem rm_find3 (l : Launch) (Z : State) (a0 : Array Value) (hw : oHw Z a0) (a : Addr) (c : Addr) (kc : ClassId) (x : Addr) (kx : ClassId) (d0 : Int64) (d1 : Int64) (d2 : Int64) (h0 : Heap) (q0 : Exa Z h0 a "com/example/rosterlink/rosterlink/model/IdChunks") (q1 : Fld Z h0 a "com/example/rosterlink/rosterlink/model/IdChunks" "width" "I" (.int (3 : Int32))) (q2 : Fld Z h0 a "com/example/rosterlink/rosterlink/model/IdChunks" "chunks" "[[J" (.ref c)) (q3 : Fld Z h0 a "com/example/rosterlink/rosterlink/model/IdChunks" "size" "I" (.int (1 : Int32))) (q4 : oArr Z h0 c kc (.array .long) [(.ref x)]) (q5 : oArr Z h0 x kx .long [(.long d0), (.long d1), (.long d2)]) (q6 : Exa Z h0 x "[J") : oMet l Z (⟨"com/example/rosterlink/rosterlink/model/IdChunks", "find", "([JJ)I"⟩ : MethodName) prog_25_method_18_code 9 (some .int) r_find3 [] #[(.ref a), (.ref x), (.long d0)] h0 (Q_find3 Z a c kc x kx d0 d1 d2 h0) := by
  refine oEnter (plainFor_of_name (by first | (simp [plainName, overriddenIn]; done) | decide +kernel)) (own := "com/example/rosterlink/rosterlink/model/IdChunks") (nm := "find") rfl rfl (L := #[.val (.ref a), .val (.ref x), .val (.long d0), .second, .unset, .unset, .unset, .unset, .unset]) (fun m => by first | (simp [entryFrame, mkF, argsToLocals, Value.category]; done) | rfl) ?_
  intro pp ee ss mm bb mtd cc T0 K X0
  have E0 := X0.ext0
  refine o_iconst K X0 d_find3_0 (pc' := 1) rfl (z := (0 : Int32)) rfl ?_
  refine o_istore K X0 d_find3_1 (pc' := 3) rfl (L' := #[.val (.ref a), .val (.ref x), .val (.long d0), .second, .val (.int (0 : Int32)), .unset, .unset, .unset, .unset]) rfl ?_
  refine o_aloadN K X0 d_find3_3 (pc' := 4) rfl rfl rfl ?_
  refine o_arraylength K X0 q5 (z := (3 : Int32)) rfl d_find3_4 (pc' := 5) rfl ?_
  refine o_aloadN K X0 d_find3_5 (pc' := 6) rfl rfl rfl ?_
  refine o_getfield K X0 (host := "") (Or.inl (w15 hw)) Via.refl q1 d_find3_6 (pc' := 9) rfl ?_
  intro T1 X1
  refine o_idiv K X1 d_find3_9 (pc' := 10) rfl (by decide) (z := (1 : Int32)) (by decide) ?_
  refine o_iconst K X1 d_find3_10 (pc' := 11) rfl (z := (1 : Int32)) rfl ?_
  refine o_isub K X1 d_find3_11 (pc' := 12) rfl (z := (0 : Int32)) (by decide) ?_
  refine o_istore K X1 d_find3_12 (pc' := 14) rfl (L' := #[.val (.ref a), .val (.ref x), .val (.long d0), .second, .val (.int (0 : Int32)), .val (.int (0 : Int32)), .unset, .unset, .unset]) rfl ?_
  refine o_iload K X1 d_find3_14 (pc' := 16) rfl rfl ?_
  refine o_iload K X1 d_find3_16 (pc' := 18) rfl rfl ?_
  refine o_icmp_gt_f K X1 d_find3_18 (pc' := 21) rfl (by decide) ?_
  refine o_iload K X1 d_find3_21 (pc' := 23) rfl rfl ?_
  refine o_iload K X1 d_find3_23 (pc' := 25) rfl rfl ?_
  refine o_iadd K X1 d_find3_25 (pc' := 26) rfl (z := (0 : Int32)) (by decide) ?_
  refine o_iconst K X1 d_find3_26 (pc' := 27) rfl (z := (1 : Int32)) rfl ?_
  refine o_iushr K X1 d_find3_27 (pc' := 28) rfl (z := (0 : Int32)) (by decide) ?_
  refine o_istore K X1 d_find3_28 (pc' := 30) rfl (L' := #[.val (.ref a), .val (.ref x), .val (.long d0), .second, .val (.int (0 : Int32)), .val (.int (0 : Int32)), .val (.int (0 : Int32)), .unset, .unset]) rfl ?_
  refine o_aloadN K X1 d_find3_30 (pc' := 31) rfl rfl rfl ?_
  refine o_iload K X1 d_find3_31 (pc' := 33) rfl rfl ?_
  refine o_aloadN K X1 d_find3_33 (pc' := 34) rfl rfl rfl ?_
  refine o_getfield K X1 (host := "") (Or.inl (w15 hw)) Via.refl q1 d_find3_34 (pc' := 37) rfl ?_
  intro T2 X2
  refine o_imul K X2 d_find3_37 (pc' := 38) rfl (z := (0 : Int32)) (by decide) ?_
  refine o_laload K X2 q5 (by decide) (v := (.long d0)) rfl d_find3_38 (pc' := 39) rfl ?_
  refine o_lstore K X2 d_find3_39 (pc' := 41) rfl (L' := #[.val (.ref a), .val (.ref x), .val (.long d0), .second, .val (.int (0 : Int32)), .val (.int (0 : Int32)), .val (.int (0 : Int32)), .val (.long d0), .second]) rfl ?_
  refine o_lload K X2 d_find3_41 (pc' := 43) rfl rfl ?_
  refine o_lloadN K X2 d_find3_43 (pc' := 44) rfl rfl ?_
  refine o_lcmp K X2 d_find3_44 (pc' := 45) rfl (z := (0 : Int32)) (oLcmp _) ?_
  refine o_if_ge_t K X2 d_find3_45 (by decide) (pc' := 57) (by decide) (by decide) ?_
  refine o_lload K X2 d_find3_57 (pc' := 59) rfl rfl ?_
  refine o_lloadN K X2 d_find3_59 (pc' := 60) rfl rfl ?_
  refine o_lcmp K X2 d_find3_60 (pc' := 61) rfl (z := (0 : Int32)) (oLcmp _) ?_
  refine o_if_le_t K X2 d_find3_61 (by decide) (pc' := 73) (by decide) (by decide) ?_
  refine o_iload K X2 d_find3_73 (pc' := 75) rfl rfl ?_
  refine o_ireturn K X2 d_find3_75 rfl ?_ (by decide) (by decide)
  exact ⟨rfl, rfl⟩
theorem d_cor3_0 : decode jdk_65_method_138_code 0 = .ok (.iload_n 1, 1) := by decide +kernel
theorem d_cor3_1 : decode jdk_65_method_138_code 1 = .ok (.ifCond .ne 9, 3) := by decide +kernel
theorem d_cor3_4 : decode jdk_65_method_138_code 4 = .ok (.iload_n 2, 1) := by decide +kernel
theorem d_cor3_5 : decode jdk_65_method_138_code 5 = .ok (.aload_n 0, 1) := by decide +kernel
theorem d_cor3_6 : decode jdk_65_method_138_code 6 = .ok (.arraylength, 1) := by decide +kernel
theorem d_cor3_7 : decode jdk_65_method_138_code 7 = .ok (.if_icmp .eq 10, 3) := by decide +kernel
theorem d_cor3_17 : decode jdk_65_method_138_code 17 = .ok (.aload_n 0, 1) := by decide +kernel
theorem d_cor3_18 : decode jdk_65_method_138_code 18 = .ok (.invokevirtual 319, 3) := by decide +kernel
theorem d_cor3_21 : decode jdk_65_method_138_code 21 = .ok (.checkcast 320, 3) := by decide +kernel
theorem d_cor3_24 : decode jdk_65_method_138_code 24 = .ok (.areturn, 1) := by decide +kernel
def r_cor3 : Room := { frames := 1, cells := 1, slots := 3, locals := 14 }
def Q_cor3 (Z : State) (b : Addr) (kb : ClassId) (d0 : Int64) (d1 : Int64) (d2 : Int64) (h0 : Heap) (v : Option Value) (h : Heap) : Prop := ∃ r : Addr, ∃ k : ClassId, v = some (.ref r) ∧ Keep h0 h [] ∧ h0.size ≤ r ∧ oArr Z h r k .long [(.long d0), (.long d1), (.long d2)] ∧ Exa Z h r "[J"
set_option maxRecDepth 65536 in
set_option maxHeartbeats 40000000 in
theorem rm_cor3 (l : Launch) (Z : State) (a0 : Array Value) (hw : oHw Z a0) (b : Addr) (kb : ClassId) (d0 : Int64) (d1 : Int64) (d2 : Int64) (h0 : Heap) (q0 : oArr Z h0 b kb .long [(.long d0), (.long d1), (.long d2)]) (q1 : Exa Z h0 b "[J") : oMet l Z (⟨"java/util/Arrays", "copyOfRange", "([JII)[J"⟩ : MethodName) jdk_65_method_138_code 3 (some (.array .long)) r_cor3 [] #[(.ref b), (.int (0 : Int32)), (.int (3 : Int32))] h0 (Q_cor3 Z b kb d0 d1 d2 h0) := by
  refine oEnter (plainFor_of_name (by first | (simp [plainName, overriddenIn]; done) | decide +kernel)) (own := "java/util/Arrays") (nm := "copyOfRange") rfl rfl (L := #[.val (.ref b), .val (.int (0 : Int32)), .val (.int (3 : Int32))]) (fun m => by first | (simp [entryFrame, mkF, argsToLocals, Value.category]; done) | rfl) ?_
  intro pp ee ss mm bb mtd cc T0 K X0
  have E0 := X0.ext0
  refine o_iloadN K X0 d_cor3_0 (pc' := 1) rfl rfl ?_
  refine o_if_ne_f K X0 d_cor3_1 (pc' := 4) rfl (by decide) ?_
  refine o_iloadN K X0 d_cor3_4 (pc' := 5) rfl rfl ?_
  refine o_aloadN K X0 d_cor3_5 (pc' := 6) rfl rfl rfl ?_
  refine o_arraylength K X0 q0 (z := (3 : Int32)) rfl d_cor3_6 (pc' := 7) rfl ?_
  refine o_icmp_eq_t K X0 d_cor3_7 (by decide) (pc' := 17) (by decide) (by decide) ?_
  refine o_aloadN K X0 d_cor3_17 (pc' := 18) rfl rfl rfl ?_
  refine o_clone K X0 3 (w79 hw) (w64 hw) (w68 hw) (w66 hw) (w67 hw) (w69 hw) q0 rfl q1 d_cor3_18 (pc' := 21) rfl rfl (by decide) (W := 0) rfl (by decide) (by decide) (by decide) ?_
  intro T1 h1 b1 X1 g1 E1 A1 B1 G1
  refine o_checkcast K X1 (w80 hw) (Ins.self B1) d_cor3_21 (pc' := 24) rfl ?_
  intro T2 X2
  refine o_areturn K X2 (t := (.array .long)) d_cor3_24 rfl rfl rfl ?_ (by decide) (by decide)
  exact ⟨b1, kb, rfl, ((Keep.refl h0 []).ext E1), (Nat.le_of_eq g1.symm), A1, B1⟩
theorem d_get1_3_0 : decode prog_25_method_6_code 0 = .ok (.aload_n 0, 1) := by decide +kernel
theorem d_get1_3_1 : decode prog_25_method_6_code 1 = .ok (.lload_n 1, 1) := by decide +kernel
theorem d_get1_3_2 : decode prog_25_method_6_code 2 = .ok (.invokevirtual 37, 3) := by decide +kernel
theorem d_get1_3_5 : decode prog_25_method_6_code 5 = .ok (.istore_n 3, 1) := by decide +kernel
theorem d_get1_3_6 : decode prog_25_method_6_code 6 = .ok (.iload_n 3, 1) := by decide +kernel
theorem d_get1_3_7 : decode prog_25_method_6_code 7 = .ok (.aload_n 0, 1) := by decide +kernel
theorem d_get1_3_8 : decode prog_25_method_6_code 8 = .ok (.getfield 13, 3) := by decide +kernel
theorem d_get1_3_11 : decode prog_25_method_6_code 11 = .ok (.arraylength, 1) := by decide +kernel
theorem d_get1_3_12 : decode prog_25_method_6_code 12 = .ok (.if_icmp .ne 5, 3) := by decide +kernel
theorem d_get1_3_17 : decode prog_25_method_6_code 17 = .ok (.aload_n 0, 1) := by decide +kernel
theorem d_get1_3_18 : decode prog_25_method_6_code 18 = .ok (.aload_n 0, 1) := by decide +kernel
theorem d_get1_3_19 : decode prog_25_method_6_code 19 = .ok (.getfield 13, 3) := by decide +kernel
theorem d_get1_3_22 : decode prog_25_method_6_code 22 = .ok (.iload_n 3, 1) := by decide +kernel
theorem d_get1_3_23 : decode prog_25_method_6_code 23 = .ok (.aaload, 1) := by decide +kernel
theorem d_get1_3_24 : decode prog_25_method_6_code 24 = .ok (.lload_n 1, 1) := by decide +kernel
theorem d_get1_3_25 : decode prog_25_method_6_code 25 = .ok (.invokevirtual 41, 3) := by decide +kernel
theorem d_get1_3_28 : decode prog_25_method_6_code 28 = .ok (.istore 4, 2) := by decide +kernel
theorem d_get1_3_30 : decode prog_25_method_6_code 30 = .ok (.iload 4, 2) := by decide +kernel
theorem d_get1_3_32 : decode prog_25_method_6_code 32 = .ok (.ifCond .ge 7, 3) := by decide +kernel
theorem d_get1_3_39 : decode prog_25_method_6_code 39 = .ok (.aload_n 0, 1) := by decide +kernel
theorem d_get1_3_40 : decode prog_25_method_6_code 40 = .ok (.getfield 13, 3) := by decide +kernel
theorem d_get1_3_43 : decode prog_25_method_6_code 43 = .ok (.iload_n 3, 1) := by decide +kernel
theorem d_get1_3_44 : decode prog_25_method_6_code 44 = .ok (.aaload, 1) := by decide +kernel
theorem d_get1_3_45 : decode prog_25_method_6_code 45 = .ok (.iload 4, 2) := by decide +kernel
theorem d_get1_3_47 : decode prog_25_method_6_code 47 = .ok (.aload_n 0, 1) := by decide +kernel
theorem d_get1_3_48 : decode prog_25_method_6_code 48 = .ok (.getfield 7, 3) := by decide +kernel
theorem d_get1_3_51 : decode prog_25_method_6_code 51 = .ok (.imul, 1) := by decide +kernel
theorem d_get1_3_52 : decode prog_25_method_6_code 52 = .ok (.iload 4, 2) := by decide +kernel
theorem d_get1_3_54 : decode prog_25_method_6_code 54 = .ok (.iconst 1, 1) := by decide +kernel
theorem d_get1_3_55 : decode prog_25_method_6_code 55 = .ok (.iadd, 1) := by decide +kernel
theorem d_get1_3_56 : decode prog_25_method_6_code 56 = .ok (.aload_n 0, 1) := by decide +kernel
theorem d_get1_3_57 : decode prog_25_method_6_code 57 = .ok (.getfield 7, 3) := by decide +kernel
theorem d_get1_3_60 : decode prog_25_method_6_code 60 = .ok (.imul, 1) := by decide +kernel
theorem d_get1_3_61 : decode prog_25_method_6_code 61 = .ok (.invokestatic 31, 3) := by decide +kernel
theorem d_get1_3_64 : decode prog_25_method_6_code 64 = .ok (.areturn, 1) := by decide +kernel
theorem pd_get1_3_0 : parseMethodDescriptor "(J)I" = some ⟨[.long], some .int⟩ := by decide +kernel
theorem pd_get1_3_1 : parseMethodDescriptor "([JJ)I" = some ⟨[(.array .long), .long], some .int⟩ := by decide +kernel
theorem pd_get1_3_2 : parseMethodDescriptor "([JII)[J" = some ⟨[(.array .long), .int, .int], some (.array .long)⟩ := by decide +kernel
def r_get1_3 : Room := { frames := 2, cells := 1, slots := 3, locals := 28 }
def Q_get1_3 (Z : State) (a : Addr) (c : Addr) (kc : ClassId) (x : Addr) (kx : ClassId) (d0 : Int64) (d1 : Int64) (d2 : Int64) (h0 : Heap) (v : Option Value) (h : Heap) : Prop := ∃ r : Addr, ∃ k : ClassId, v = some (.ref r) ∧ Keep h0 h [] ∧ h0.size ≤ r ∧ oArr Z h r k .long [(.long d0), (.long d1), (.long d2)] ∧ Exa Z h r "[J"
set_option maxRecDepth 65536 in
set_option maxHeartbeats 40000000 in
theorem rm_get1_3 (l : Launch) (Z : State) (a0 : Array Value) (hw : oHw Z a0) (a : Addr) (c : Addr) (kc : ClassId) (x : Addr) (kx : ClassId) (d0 : Int64) (d1 : Int64) (d2 : Int64) (h0 : Heap) (q0 : Exa Z h0 a "com/example/rosterlink/rosterlink/model/IdChunks") (q1 : Fld Z h0 a "com/example/rosterlink/rosterlink/model/IdChunks" "width" "I" (.int (3 : Int32))) (q2 : Fld Z h0 a "com/example/rosterlink/rosterlink/model/IdChunks" "chunks" "[[J" (.ref c)) (q3 : Fld Z h0 a "com/example/rosterlink/rosterlink/model/IdChunks" "size" "I" (.int (1 : Int32))) (q4 : oArr Z h0 c kc (.array .long) [(.ref x)]) (q5 : oArr Z h0 x kx .long [(.long d0), (.long d1), (.long d2)]) (q6 : Exa Z h0 x "[J") : oMet l Z (⟨"com/example/rosterlink/rosterlink/model/IdChunks", "get", "(J)[J"⟩ : MethodName) prog_25_method_6_code 5 (some (.array .long)) r_get1_3 [] #[(.ref a), (.long d0)] h0 (Q_get1_3 Z a c kc x kx d0 d1 d2 h0) := by
  refine oEnter (plainFor_of_name (by first | (simp [plainName, overriddenIn]; done) | decide +kernel)) (own := "com/example/rosterlink/rosterlink/model/IdChunks") (nm := "get") rfl rfl (L := #[.val (.ref a), .val (.long d0), .second, .unset, .unset]) (fun m => by first | (simp [entryFrame, mkF, argsToLocals, Value.category]; done) | rfl) ?_
  intro pp ee ss mm bb mtd cc T0 K X0
  have E0 := X0.ext0
  refine o_aloadN K X0 d_get1_3_0 (pc' := 1) rfl rfl rfl ?_
  refine o_lloadN K X0 d_get1_3_1 (pc' := 2) rfl rfl ?_
  refine o_private K X0 (y := (⟨"com/example/rosterlink/rosterlink/model/IdChunks", "chunkFor", "(J)I"⟩ : MethodName)) (w34 hw) (w35 hw) (oSelects (w8 hw) (w35 hw) (w36 hw) (by decide)) (w36 hw) (w3 hw) (w37 hw) (by decide) q0 (rm_cf1_3 l Z a0 hw a c kc x kx d0 d1 d2 h0 q0 q1 q2 q3 q4 q5 q6) (by decide) rfl (argsL := [(.long d0)]) rfl (lenOf pd_get1_3_0 rfl) (W := 0) rfl (by decide) (by decide) (by decide) d_get1_3_2 (pc' := 5) rfl ?_
  intro v1 T1 h1 X1 U1
  obtain ⟨rfl, rfl⟩ := U1
  show oGoes pp ee bb ss Z T1 (mkF mm 5 #[.val (.ref a), .val (.long d0), .second, .unset, .unset] [(.int (0 : Int32))]) _ _ _
  refine o_istoreN K X1 d_get1_3_5 (pc' := 6) rfl (L' := #[.val (.ref a), .val (.long d0), .second, .val (.int (0 : Int32)), .unset]) rfl ?_
  refine o_iloadN K X1 d_get1_3_6 (pc' := 7) rfl rfl ?_
  refine o_aloadN K X1 d_get1_3_7 (pc' := 8) rfl rfl rfl ?_
  refine o_getfield K X1 (host := "") (Or.inl (w17 hw)) Via.refl q2 d_get1_3_8 (pc' := 11) rfl ?_
  intro T2 X2
  refine o_arraylength K X2 q4 (z := (1 : Int32)) rfl d_get1_3_11 (pc' := 12) rfl ?_
  refine o_icmp_ne_t K X2 d_get1_3_12 (by decide) (pc' := 17) (by decide) (by decide) ?_
  refine o_aloadN K X2 d_get1_3_17 (pc' := 18) rfl rfl rfl ?_
  refine o_aloadN K X2 d_get1_3_18 (pc' := 19) rfl rfl rfl ?_
  refine o_getfield K X2 (host := "") (Or.inl (w17 hw)) Via.refl q2 d_get1_3_19 (pc' := 22) rfl ?_
  intro T3 X3
  refine o_iloadN K X3 d_get1_3_22 (pc' := 23) rfl rfl ?_
  refine o_aaload K X3 rfl q4 (by decide) (v := (.ref x)) rfl d_get1_3_23 (pc' := 24) rfl ?_
  refine o_lloadN K X3 d_get1_3_24 (pc' := 25) rfl rfl ?_
  refine o_private K X3 (y := (⟨"com/example/rosterlink/rosterlink/model/IdChunks", "find", "([JJ)I"⟩ : MethodName)) (w71 hw) (w72 hw) (oSelects (w8 hw) (w72 hw) (w73 hw) (by decide)) (w73 hw) (w3 hw) (w74 hw) (by decide) q0 (rm_find3 l Z a0 hw a c kc x kx d0 d1 d2 h0 q0 q1 q2 q3 q4 q5 q6) (by decide) rfl (argsL := [(.ref x), (.long d0)]) rfl (lenOf pd_get1_3_1 rfl) (W := 0) rfl (by decide) (by decide) (by decide) d_get1_3_25 (pc' := 28) rfl ?_
  intro v4 T4 h4 X4 U4
  obtain ⟨rfl, rfl⟩ := U4
  show oGoes pp ee bb ss Z T4 (mkF mm 28 #[.val (.ref a), .val (.long d0), .second, .val (.int (0 : Int32)), .unset] [(.int (0 : Int32))]) _ _ _
  refine o_istore K X4 d_get1_3_28 (pc' := 30) rfl (L' := #[.val (.ref a), .val (.long d0), .second, .val (.int (0 : Int32)), .val (.int (0 : Int32))]) rfl ?_
  refine o_iload K X4 d_get1_3_30 (pc' := 32) rfl rfl ?_
  refine o_if_ge_t K X4 d_get1_3_32 (by decide) (pc' := 39) (by decide) (by decide) ?_
  refine o_aloadN K X4 d_get1_3_39 (pc' := 40) rfl rfl rfl ?_
  refine o_getfield K X4 (host := "") (Or.inl (w17 hw)) Via.refl q2 d_get1_3_40 (pc' := 43) rfl ?_
  intro T5 X5
  refine o_iloadN K X5 d_get1_3_43 (pc' := 44) rfl rfl ?_
  refine o_aaload K X5 rfl q4 (by decide) (v := (.ref x)) rfl d_get1_3_44 (pc' := 45) rfl ?_
  refine o_iload K X5 d_get1_3_45 (pc' := 47) rfl rfl ?_
  refine o_aloadN K X5 d_get1_3_47 (pc' := 48) rfl rfl rfl ?_
  refine o_getfield K X5 (host := "") (Or.inl (w15 hw)) Via.refl q1 d_get1_3_48 (pc' := 51) rfl ?_
  intro T6 X6
  refine o_imul K X6 d_get1_3_51 (pc' := 52) rfl (z := (0 : Int32)) (by decide) ?_
  refine o_iload K X6 d_get1_3_52 (pc' := 54) rfl rfl ?_
  refine o_iconst K X6 d_get1_3_54 (pc' := 55) rfl (z := (1 : Int32)) rfl ?_
  refine o_iadd K X6 d_get1_3_55 (pc' := 56) rfl (z := (1 : Int32)) (by decide) ?_
  refine o_aloadN K X6 d_get1_3_56 (pc' := 57) rfl rfl rfl ?_
  refine o_getfield K X6 (host := "") (Or.inl (w15 hw)) Via.refl q1 d_get1_3_57 (pc' := 60) rfl ?_
  intro T7 X7
  refine o_imul K X7 d_get1_3_60 (pc' := 61) rfl (z := (3 : Int32)) (by decide) ?_
  refine o_static K X7 (y := (⟨"java/util/Arrays", "copyOfRange", "([JII)[J"⟩ : MethodName)) (w75 hw) (w76 hw) (w77 hw) (w78 hw) (by decide) (rm_cor3 l Z a0 hw x kx d0 d1 d2 h0 q5 q6) (by decide) rfl (argsL := [(.ref x), (.int (0 : Int32)), (.int (3 : Int32))]) rfl (lenOf pd_get1_3_2 rfl) (W := 0) rfl (by decide) (by decide) (by decide) d_get1_3_61 (pc' := 64) rfl ?_
  intro v8 T8 h8 X8 U8
  obtain ⟨r_8, k_8, rfl, u8_0, u8_1, u8_2, u8_3⟩ := U8
  have G8_r : Z.heap.size ≤ r_8 := Nat.le_trans (Nat.le_trans E0.1 (Nat.le_refl _)) u8_1
  show oGoes pp ee bb ss Z T8 (mkF mm 64 #[.val (.ref a), .val (.long d0), .second, .val (.int (0 : Int32)), .val (.int (0 : Int32))] [(.ref r_8)]) _ _ _
  refine o_areturn K X8 (t := (.array .long)) d_get1_3_64 rfl rfl rfl ?_ (by decide) (by decide)
  exact ⟨r_8, k_8, rfl, ((Keep.refl h0 []).trans u8_0 all0), u8_1, u8_2, u8_3⟩
theorem d_ents3_0 : decode prog_25_method_12_code 0 = .ok (.aload_n 0, 1) := by decide +kernel
theorem d_ents3_1 : decode prog_25_method_12_code 1 = .ok (.getfield 17, 3) := by decide +kernel
theorem d_ents3_4 : decode prog_25_method_12_code 4 = .ok (.aload_n 0, 1) := by decide +kernel
theorem d_ents3_5 : decode prog_25_method_12_code 5 = .ok (.getfield 7, 3) := by decide +kernel
theorem d_ents3_8 : decode prog_25_method_12_code 8 = .ok (.imul, 1) := by decide +kernel
theorem d_ents3_9 : decode prog_25_method_12_code 9 = .ok (.newarray .long, 2) := by decide +kernel
theorem d_ents3_11 : decode prog_25_method_12_code 11 = .ok (.astore_n 1, 1) := by decide +kernel
theorem d_ents3_12 : decode prog_25_method_12_code 12 = .ok (.iconst 0, 1) := by decide +kernel
theorem d_ents3_13 : decode prog_25_method_12_code 13 = .ok (.istore_n 2, 1) := by decide +kernel
theorem d_ents3_14 : decode prog_25_method_12_code 14 = .ok (.aload_n 0, 1) := by decide +kernel
theorem d_ents3_15 : decode prog_25_method_12_code 15 = .ok (.getfield 13, 3) := by decide +kernel
theorem d_ents3_18 : decode prog_25_method_12_code 18 = .ok (.astore_n 3, 1) := by decide +kernel
theorem d_ents3_19 : decode prog_25_method_12_code 19 = .ok (.aload_n 3, 1) := by decide +kernel
theorem d_ents3_20 : decode prog_25_method_12_code 20 = .ok (.arraylength, 1) := by decide +kernel
theorem d_ents3_21 : decode prog_25_method_12_code 21 = .ok (.istore 4, 2) := by decide +kernel
theorem d_ents3_23 : decode prog_25_method_12_code 23 = .ok (.iconst 0, 1) := by decide +kernel
theorem d_ents3_24 : decode prog_25_method_12_code 24 = .ok (.istore 5, 2) := by decide +kernel
theorem d_ents3_26 : decode prog_25_method_12_code 26 = .ok (.iload 5, 2) := by decide +kernel
theorem d_ents3_28 : decode prog_25_method_12_code 28 = .ok (.iload 4, 2) := by decide +kernel
theorem d_ents3_30 : decode prog_25_method_12_code 30 = .ok (.if_icmp .ge 32, 3) := by decide +kernel
theorem d_ents3_33 : decode prog_25_method_12_code 33 = .ok (.aload_n 3, 1) := by decide +kernel
theorem d_ents3_34 : decode prog_25_method_12_code 34 = .ok (.iload 5, 2) := by decide +kernel
theorem d_ents3_36 : decode prog_25_method_12_code 36 = .ok (.aaload, 1) := by decide +kernel
theorem d_ents3_37 : decode prog_25_method_12_code 37 = .ok (.astore 6, 2) := by decide +kernel
theorem d_ents3_39 : decode prog_25_method_12_code 39 = .ok (.aload 6, 2) := by decide +kernel
theorem d_ents3_41 : decode prog_25_method_12_code 41 = .ok (.iconst 0, 1) := by decide +kernel
theorem d_ents3_42 : decode prog_25_method_12_code 42 = .ok (.aload_n 1, 1) := by decide +kernel
theorem d_ents3_43 : decode prog_25_method_12_code 43 = .ok (.iload_n 2, 1) := by decide +kernel
theorem d_ents3_44 : decode prog_25_method_12_code 44 = .ok (.aload 6, 2) := by decide +kernel
theorem d_ents3_46 : decode prog_25_method_12_code 46 = .ok (.arraylength, 1) := by decide +kernel
theorem d_ents3_47 : decode prog_25_method_12_code 47 = .ok (.invokestatic 53, 3) := by decide +kernel
theorem d_ents3_50 : decode prog_25_method_12_code 50 = .ok (.iload_n 2, 1) := by decide +kernel
theorem d_ents3_51 : decode prog_25_method_12_code 51 = .ok (.aload 6, 2) := by decide +kernel
theorem d_ents3_53 : decode prog_25_method_12_code 53 = .ok (.arraylength, 1) := by decide +kernel
theorem d_ents3_54 : decode prog_25_method_12_code 54 = .ok (.iadd, 1) := by decide +kernel
theorem d_ents3_55 : decode prog_25_method_12_code 55 = .ok (.istore_n 2, 1) := by decide +kernel
theorem d_ents3_56 : decode prog_25_method_12_code 56 = .ok (.iinc 5 1, 3) := by decide +kernel
theorem d_ents3_59 : decode prog_25_method_12_code 59 = .ok (.goto (-33), 3) := by decide +kernel
theorem d_ents3_62 : decode prog_25_method_12_code 62 = .ok (.aload_n 1, 1) := by decide +kernel
theorem d_ents3_63 : decode prog_25_method_12_code 63 = .ok (.areturn, 1) := by decide +kernel
def r_ents3 : Room := { frames := 1, cells := 1, slots := 3, locals := 18 }
def Q_ents3 (Z : State) (a : Addr) (c : Addr) (kc : ClassId) (x : Addr) (kx : ClassId) (d0 : Int64) (d1 : Int64) (d2 : Int64) (h0 : Heap) (v : Option Value) (h : Heap) : Prop := ∃ r : Addr, ∃ k : ClassId, v = some (.ref r) ∧ Keep h0 h [] ∧ h0.size ≤ r ∧ oArr Z h r k .long [(.long d0), (.long d1), (.long d2)]
set_option maxRecDepth 65536 in
set_option maxHeartbeats 40000000 in
theorem rm_ents3 (l : Launch) (Z : State) (a0 : Array Value) (hw : oHw Z a0) (a : Addr) (c : Addr) (kc : ClassId) (x : Addr) (kx : ClassId) (d0 : Int64) (d1 : Int64) (d2 : Int64) (h0 : Heap) (q0 : Exa Z h0 a "com/example/rosterlink/rosterlink/model/IdChunks") (q1 : Fld Z h0 a "com/example/rosterlink/rosterlink/model/IdChunks" "width" "I" (.int (3 : Int32))) (q2 : Fld Z h0 a "com/example/rosterlink/rosterlink/model/IdChunks" "chunks" "[[J" (.ref c)) (q3 : Fld Z h0 a "com/example/rosterlink/rosterlink/model/IdChunks" "size" "I" (.int (1 : Int32))) (q4 : oArr Z h0 c kc (.array .long) [(.ref x)]) (q5 : oArr Z h0 x kx .long [(.long d0), (.long d1), (.long d2)]) (q6 : Exa Z h0 x "[J") : oMet l Z (⟨"com/example/rosterlink/rosterlink/model/IdChunks", "entries", "()[J"⟩ : MethodName) prog_25_method_12_code 7 (some (.array .long)) r_ents3 [] #[(.ref a)] h0 (Q_ents3 Z a c kc x kx d0 d1 d2 h0) := by
  refine oEnter (plainFor_of_name (by first | (simp [plainName, overriddenIn]; done) | decide +kernel)) (own := "com/example/rosterlink/rosterlink/model/IdChunks") (nm := "entries") rfl rfl (L := #[.val (.ref a), .unset, .unset, .unset, .unset, .unset, .unset]) (fun m => by first | (simp [entryFrame, mkF, argsToLocals, Value.category]; done) | rfl) ?_
  intro pp ee ss mm bb mtd cc T0 K X0
  have E0 := X0.ext0
  refine o_aloadN K X0 d_ents3_0 (pc' := 1) rfl rfl rfl ?_
  refine o_getfield K X0 (host := "") (Or.inl (w19 hw)) Via.refl q3 d_ents3_1 (pc' := 4) rfl ?_
  intro T1 X1
  refine o_aloadN K X1 d_ents3_4 (pc' := 5) rfl rfl rfl ?_
  refine o_getfield K X1 (host := "") (Or.inl (w15 hw)) Via.refl q1 d_ents3_5 (pc' := 8) rfl ?_
  intro T2 X2
  refine o_imul K X2 d_ents3_8 (pc' := 9) rfl (z := (3 : Int32)) (by decide) ?_
  refine o_newarray K X2 (aty := .long) 3 (w0 hw) (ad := "[J") (by decide +kernel) (by decide) (by decide) (by decide) rfl d_ents3_9 (pc' := 11) rfl (by decide) (by decide) ?_
  intro T3 h3 b3 k3 X3 g3 E3 A3 B3 G3
  replace A3 : oArr Z h3 b3 k3 .long [(.long (0 : Int64)), (.long (0 : Int64)), (.long (0 : Int64))] := A3
  refine o_astoreN K X3 d_ents3_11 (pc' := 12) rfl rfl (L' := #[.val (.ref a), .val (.ref b3), .unset, .unset, .unset, .unset, .unset]) rfl ?_
  refine o_iconst K X3 d_ents3_12 (pc' := 13) rfl (z := (0 : Int32)) rfl ?_
  refine o_istoreN K X3 d_ents3_13 (pc' := 14) rfl (L' := #[.val (.ref a), .val (.ref b3), .val (.int (0 : Int32)), .unset, .unset, .unset, .unset]) rfl ?_
  refine o_aloadN K X3 d_ents3_14 (pc' := 15) rfl rfl rfl ?_
  refine o_getfield K X3 (host := "") (Or.inl (w17 hw)) Via.refl (q2.ext E3) d_ents3_15 (pc' := 18) rfl ?_
  intro T4 X4
  refine o_astoreN K X4 d_ents3_18 (pc' := 19) rfl rfl (L' := #[.val (.ref a), .val (.ref b3), .val (.int (0 : Int32)), .val (.ref c), .unset, .unset, .unset]) rfl ?_
  refine o_aloadN K X4 d_ents3_19 (pc' := 20) rfl rfl rfl ?_
  refine o_arraylength K X4 (q4.ext E3) (z := (1 : Int32)) rfl d_ents3_20 (pc' := 21) rfl ?_
  refine o_istore K X4 d_ents3_21 (pc' := 23) rfl (L' := #[.val (.ref a), .val (.ref b3), .val (.int (0 : Int32)), .val (.ref c), .val (.int (1 : Int32)), .unset, .unset]) rfl ?_
  refine o_iconst K X4 d_ents3_23 (pc' := 24) rfl (z := (0 : Int32)) rfl ?_
  refine o_istore K X4 d_ents3_24 (pc' := 26) rfl (L' := #[.val (.ref a), .val (.ref b3), .val (.int (0 : Int32)), .val (.ref c), .val (.int (1 : Int32)), .val (.int (0 : Int32)), .unset]) rfl ?_
  refine o_iload K X4 d_ents3_26 (pc' := 28) rfl rfl ?_
  refine o_iload K X4 d_ents3_28 (pc' := 30) rfl rfl ?_
  refine o_icmp_ge_f K X4 d_ents3_30 (pc' := 33) rfl (by decide) ?_
  refine o_aloadN K X4 d_ents3_33 (pc' := 34) rfl rfl rfl ?_
  refine o_iload K X4 d_ents3_34 (pc' := 36) rfl rfl ?_
  refine o_aaload K X4 rfl (q4.ext E3) (by decide) (v := (.ref x)) rfl d_ents3_36 (pc' := 37) rfl ?_
  refine o_astore K X4 d_ents3_37 (pc' := 39) rfl rfl (L' := #[.val (.ref a), .val (.ref b3), .val (.int (0 : Int32)), .val (.ref c), .val (.int (1 : Int32)), .val (.int (0 : Int32)), .val (.ref x)]) rfl ?_
  refine o_aload K X4 d_ents3_39 (pc' := 41) rfl rfl rfl ?_
  refine o_iconst K X4 d_ents3_41 (pc' := 42) rfl (z := (0 : Int32)) rfl ?_
  refine o_aloadN K X4 d_ents3_42 (pc' := 43) rfl rfl rfl ?_
  refine o_iloadN K X4 d_ents3_43 (pc' := 44) rfl rfl ?_
  refine o_aload K X4 d_ents3_44 (pc' := 46) rfl rfl rfl ?_
  refine o_arraylength K X4 (q5.ext E3) (z := (3 : Int32)) rfl d_ents3_46 (pc' := 47) rfl ?_
  refine o_arraycopy K X4 [(.long d0), (.long d1), (.long d2)] [(.long d0), (.long d1), (.long d2)] (w90 hw) (w93 hw) (w91 hw) (w92 hw) (q5.ext E3) A3 (Or.inl ⟨rfl, rfl⟩) (by decide) (by decide) (by decide) (show (0 : Int32).toNatClampNeg + (3 : Int32).toNatClampNeg ≤ 3 from (by decide)) (show (0 : Int32).toNatClampNeg + (3 : Int32).toNatClampNeg ≤ 3 from (by decide)) rfl rfl rfl G3 d_ents3_47 (pc' := 50) rfl rfl (by decide) (W := 0) rfl (by decide) ?_
  intro T5 h5 X5 K5 A5
  refine o_iloadN K X5 d_ents3_50 (pc' := 51) rfl rfl ?_
  refine o_aload K X5 d_ents3_51 (pc' := 53) rfl rfl rfl ?_
  refine o_arraylength K X5 ((q5.ext E3).keep K5 (ninS (Nat.ne_of_lt (Nat.lt_of_lt_of_le q5.lt (Nat.le_of_eq g3.symm))) nin0)) (z := (3 : Int32)) rfl d_ents3_53 (pc' := 54) rfl ?_
  refine o_iadd K X5 d_ents3_54 (pc' := 55) rfl (z := (3 : Int32)) (by decide) ?_
  refine o_istoreN K X5 d_ents3_55 (pc' := 56) rfl (L' := #[.val (.ref a), .val (.ref b3), .val (.int (3 : Int32)), .val (.ref c), .val (.int (1 : Int32)), .val (.int (0 : Int32)), .val (.ref x)]) rfl ?_
  refine o_iinc K X5 d_ents3_56 (pc' := 59) rfl rfl (L' := #[.val (.ref a), .val (.ref b3), .val (.int (3 : Int32)), .val (.ref c), .val (.int (1 : Int32)), .val (.int (1 : Int32)), .val (.ref x)]) (by rw [show (0 : Int32) + Int32.ofInt 1 = (1 : Int32) from (by decide)]; rfl) ?_
  refine o_goto K X5 d_ents3_59 (by decide) (pc' := 26) (by decide) ?_
  refine o_iload K X5 d_ents3_26 (pc' := 28) rfl rfl ?_
  refine o_iload K X5 d_ents3_28 (pc' := 30) rfl rfl ?_
  refine o_icmp_ge_t K X5 d_ents3_30 (by decide) (pc' := 62) (by decide) (by decide) ?_
  refine o_aloadN K X5 d_ents3_62 (pc' := 63) rfl rfl rfl ?_
  refine o_areturn K X5 (t := (.array .long)) d_ents3_63 rfl rfl rfl ?_ (by decide) (by decide)
  exact ⟨b3, k3, rfl, (((Keep.refl h0 []).ext E3).trans K5 (allS (Or.inr (Nat.le_of_eq g3.symm)) all0)), (Nat.le_of_eq g3.symm), A5⟩
theorem d_same3_0 : decode method_3_code 0 = .ok (.aload_n 0, 1) := by decide +kernel
theorem d_same3_1 : decode method_3_code 1 = .ok (.arraylength, 1) := by decide +kernel
theorem d_same3_2 : decode method_3_code 2 = .ok (.aload_n 1, 1) := by decide +kernel
theorem d_same3_3 : decode method_3_code 3 = .ok (.arraylength, 1) := by decide +kernel
theorem d_same3_4 : decode method_3_code 4 = .ok (.if_icmp .eq 5, 3) := by decide +kernel
theorem d_same3_9 : decode method_3_code 9 = .ok (.aload_n 0, 1) := by decide +kernel
theorem d_same3_10 : decode method_3_code 10 = .ok (.arraylength, 1) := by decide +kernel
theorem d_same3_11 : decode method_3_code 11 = .ok (.istore_n 2, 1) := by decide +kernel
theorem d_same3_12 : decode method_3_code 12 = .ok (.iload_n 2, 1) := by decide +kernel
theorem d_same3_13 : decode method_3_code 13 = .ok (.iconst 4, 1) := by decide +kernel
theorem d_same3_14 : decode method_3_code 14 = .ok (.if_icmp .le 5, 3) := by decide +kernel
theorem d_same3_19 : decode method_3_code 19 = .ok (.iload_n 2, 1) := by decide +kernel
theorem d_same3_20 : decode method_3_code 20 = .ok (.iconst 1, 1) := by decide +kernel
theorem d_same3_21 : decode method_3_code 21 = .ok (.if_icmp .lt 15, 3) := by decide +kernel
theorem d_same3_24 : decode method_3_code 24 = .ok (.aload_n 0, 1) := by decide +kernel
theorem d_same3_25 : decode method_3_code 25 = .ok (.iconst 0, 1) := by decide +kernel
theorem d_same3_26 : decode method_3_code 26 = .ok (.laload, 1) := by decide +kernel
theorem d_same3_27 : decode method_3_code 27 = .ok (.aload_n 1, 1) := by decide +kernel
theorem d_same3_28 : decode method_3_code 28 = .ok (.iconst 0, 1) := by decide +kernel
theorem d_same3_29 : decode method_3_code 29 = .ok (.laload, 1) := by decide +kernel
theorem d_same3_30 : decode method_3_code 30 = .ok (.lcmp, 1) := by decide +kernel
theorem d_same3_31 : decode method_3_code 31 = .ok (.ifCond .eq 5, 3) := by decide +kernel
theorem d_same3_36 : decode method_3_code 36 = .ok (.iload_n 2, 1) := by decide +kernel
theorem d_same3_37 : decode method_3_code 37 = .ok (.iconst 2, 1) := by decide +kernel
theorem d_same3_38 : decode method_3_code 38 = .ok (.if_icmp .lt 15, 3) := by decide +kernel
theorem d_same3_41 : decode method_3_code 41 = .ok (.aload_n 0, 1) := by decide +kernel
theorem d_same3_42 : decode method_3_code 42 = .ok (.iconst 1, 1) := by decide +kernel
theorem d_same3_43 : decode method_3_code 43 = .ok (.laload, 1) := by decide +kernel
theorem d_same3_44 : decode method_3_code 44 = .ok (.aload_n 1, 1) := by decide +kernel
theorem d_same3_45 : decode method_3_code 45 = .ok (.iconst 1, 1) := by decide +kernel
theorem d_same3_46 : decode method_3_code 46 = .ok (.laload, 1) := by decide +kernel
theorem d_same3_47 : decode method_3_code 47 = .ok (.lcmp, 1) := by decide +kernel
theorem d_same3_48 : decode method_3_code 48 = .ok (.ifCond .eq 5, 3) := by decide +kernel
theorem d_same3_53 : decode method_3_code 53 = .ok (.iload_n 2, 1) := by decide +kernel
theorem d_same3_54 : decode method_3_code 54 = .ok (.iconst 3, 1) := by decide +kernel
theorem d_same3_55 : decode method_3_code 55 = .ok (.if_icmp .lt 15, 3) := by decide +kernel
theorem d_same3_58 : decode method_3_code 58 = .ok (.aload_n 0, 1) := by decide +kernel
theorem d_same3_59 : decode method_3_code 59 = .ok (.iconst 2, 1) := by decide +kernel
theorem d_same3_60 : decode method_3_code 60 = .ok (.laload, 1) := by decide +kernel
theorem d_same3_61 : decode method_3_code 61 = .ok (.aload_n 1, 1) := by decide +kernel
theorem d_same3_62 : decode method_3_code 62 = .ok (.iconst 2, 1) := by decide +kernel
theorem d_same3_63 : decode method_3_code 63 = .ok (.laload, 1) := by decide +kernel
theorem d_same3_64 : decode method_3_code 64 = .ok (.lcmp, 1) := by decide +kernel
theorem d_same3_65 : decode method_3_code 65 = .ok (.ifCond .eq 5, 3) := by decide +kernel
theorem d_same3_70 : decode method_3_code 70 = .ok (.iload_n 2, 1) := by decide +kernel
theorem d_same3_71 : decode method_3_code 71 = .ok (.iconst 4, 1) := by decide +kernel
theorem d_same3_72 : decode method_3_code 72 = .ok (.if_icmp .lt 15, 3) := by decide +kernel
theorem d_same3_87 : decode method_3_code 87 = .ok (.iconst 1, 1) := by decide +kernel
theorem d_same3_88 : decode method_3_code 88 = .ok (.ireturn, 1) := by decide +kernel
def r_same3 : Room := { frames := 0, cells := 0, slots := 0, locals := 0 }
def Q_same3 (Z : State) (a : Addr) (ka : ClassId) (b : Addr) (kb : ClassId) (d0 : Int64) (d1 : Int64) (d2 : Int64) (h0 : Heap) (v : Option Value) (h : Heap) : Prop := v = some (.int (1 : Int32)) ∧ h0 = h
set_option maxRecDepth 65536 in
set_option maxHeartbeats 40000000 in
theorem rm_same3 (l : Launch) (Z : State) (a0 : Array Value) (hw : oHw Z a0) (a : Addr) (ka : ClassId) (b : Addr) (kb : ClassId) (d0 : Int64) (d1 : Int64) (d2 : Int64) (h0 : Heap) (q0 : oArr Z h0 a ka .long [(.long d0), (.long d1), (.long d2)]) (q1 : oArr Z h0 b kb .long [(.long d0), (.long d1), (.long d2)]) : oMet l Z (⟨"com/example/rosterlink/rosterlink/model/IdChunksEmptyPinLaw", "same", "([J[J)Z"⟩ : MethodName) method_3_code 3 (some .boolean) r_same3 [] #[(.ref a), (.ref b)] h0 (Q_same3 Z a ka b kb d0 d1 d2 h0) := by
  refine oEnter (plainFor_of_name (by first | (simp [plainName, overriddenIn]; done) | decide +kernel)) (own := "com/example/rosterlink/rosterlink/model/IdChunksEmptyPinLaw") (nm := "same") rfl rfl (L := #[.val (.ref a), .val (.ref b), .unset]) (fun m => by first | (simp [entryFrame, mkF, argsToLocals, Value.category]; done) | rfl) ?_
  intro pp ee ss mm bb mtd cc T0 K X0
  have E0 := X0.ext0
  refine o_aloadN K X0 d_same3_0 (pc' := 1) rfl rfl rfl ?_
  refine o_arraylength K X0 q0 (z := (3 : Int32)) rfl d_same3_1 (pc' := 2) rfl ?_
  refine o_aloadN K X0 d_same3_2 (pc' := 3) rfl rfl rfl ?_
  refine o_arraylength K X0 q1 (z := (3 : Int32)) rfl d_same3_3 (pc' := 4) rfl ?_
  refine o_icmp_eq_t K X0 d_same3_4 (by decide) (pc' := 9) (by decide) (by decide) ?_
  refine o_aloadN K X0 d_same3_9 (pc' := 10) rfl rfl rfl ?_
  refine o_arraylength K X0 q0 (z := (3 : Int32)) rfl d_same3_10 (pc' := 11) rfl ?_
  refine o_istoreN K X0 d_same3_11 (pc' := 12) rfl (L' := #[.val (.ref a), .val (.ref b), .val (.int (3 : Int32))]) rfl ?_
  refine o_iloadN K X0 d_same3_12 (pc' := 13) rfl rfl ?_
  refine o_iconst K X0 d_same3_13 (pc' := 14) rfl (z := (4 : Int32)) rfl ?_
  refine o_icmp_le_t K X0 d_same3_14 (by decide) (pc' := 19) (by decide) (by decide) ?_
  refine o_iloadN K X0 d_same3_19 (pc' := 20) rfl rfl ?_
  refine o_iconst K X0 d_same3_20 (pc' := 21) rfl (z := (1 : Int32)) rfl ?_
  refine o_icmp_lt_f K X0 d_same3_21 (pc' := 24) rfl (by decide) ?_
  refine o_aloadN K X0 d_same3_24 (pc' := 25) rfl rfl rfl ?_
  refine o_iconst K X0 d_same3_25 (pc' := 26) rfl (z := (0 : Int32)) rfl ?_
  refine o_laload K X0 q0 (by decide) (v := (.long d0)) rfl d_same3_26 (pc' := 27) rfl ?_
  refine o_aloadN K X0 d_same3_27 (pc' := 28) rfl rfl rfl ?_
  refine o_iconst K X0 d_same3_28 (pc' := 29) rfl (z := (0 : Int32)) rfl ?_
  refine o_laload K X0 q1 (by decide) (v := (.long d0)) rfl d_same3_29 (pc' := 30) rfl ?_
  refine o_lcmp K X0 d_same3_30 (pc' := 31) rfl (z := (0 : Int32)) (oLcmp _) ?_
  refine o_if_eq_t K X0 d_same3_31 (by decide) (pc' := 36) (by decide) (by decide) ?_
  refine o_iloadN K X0 d_same3_36 (pc' := 37) rfl rfl ?_
  refine o_iconst K X0 d_same3_37 (pc' := 38) rfl (z := (2 : Int32)) rfl ?_
  refine o_icmp_lt_f K X0 d_same3_38 (pc' := 41) rfl (by decide) ?_
  refine o_aloadN K X0 d_same3_41 (pc' := 42) rfl rfl rfl ?_
  refine o_iconst K X0 d_same3_42 (pc' := 43) rfl (z := (1 : Int32)) rfl ?_
  refine o_laload K X0 q0 (by decide) (v := (.long d1)) rfl d_same3_43 (pc' := 44) rfl ?_
  refine o_aloadN K X0 d_same3_44 (pc' := 45) rfl rfl rfl ?_
  refine o_iconst K X0 d_same3_45 (pc' := 46) rfl (z := (1 : Int32)) rfl ?_
  refine o_laload K X0 q1 (by decide) (v := (.long d1)) rfl d_same3_46 (pc' := 47) rfl ?_
  refine o_lcmp K X0 d_same3_47 (pc' := 48) rfl (z := (0 : Int32)) (oLcmp _) ?_
  refine o_if_eq_t K X0 d_same3_48 (by decide) (pc' := 53) (by decide) (by decide) ?_
  refine o_iloadN K X0 d_same3_53 (pc' := 54) rfl rfl ?_
  refine o_iconst K X0 d_same3_54 (pc' := 55) rfl (z := (3 : Int32)) rfl ?_
  refine o_icmp_lt_f K X0 d_same3_55 (pc' := 58) rfl (by decide) ?_
  refine o_aloadN K X0 d_same3_58 (pc' := 59) rfl rfl rfl ?_
  refine o_iconst K X0 d_same3_59 (pc' := 60) rfl (z := (2 : Int32)) rfl ?_
  refine o_laload K X0 q0 (by decide) (v := (.long d2)) rfl d_same3_60 (pc' := 61) rfl ?_
  refine o_aloadN K X0 d_same3_61 (pc' := 62) rfl rfl rfl ?_
  refine o_iconst K X0 d_same3_62 (pc' := 63) rfl (z := (2 : Int32)) rfl ?_
  refine o_laload K X0 q1 (by decide) (v := (.long d2)) rfl d_same3_63 (pc' := 64) rfl ?_
  refine o_lcmp K X0 d_same3_64 (pc' := 65) rfl (z := (0 : Int32)) (oLcmp _) ?_
  refine o_if_eq_t K X0 d_same3_65 (by decide) (pc' := 70) (by decide) (by decide) ?_
  refine o_iloadN K X0 d_same3_70 (pc' := 71) rfl rfl ?_
  refine o_iconst K X0 d_same3_71 (pc' := 72) rfl (z := (4 : Int32)) rfl ?_
  refine o_icmp_lt_t K X0 d_same3_72 (by decide) (pc' := 87) (by decide) (by decide) ?_
  refine o_iconst K X0 d_same3_87 (pc' := 88) rfl (z := (1 : Int32)) rfl ?_
  refine o_ireturnN K X0 .boolean d_same3_88 rfl (by simp) (z' := (1 : Int32)) (by decide) ?_ (by decide) (by decide)
  exact ⟨rfl, rfl⟩
theorem d_with4_0 : decode prog_25_method_7_code 0 = .ok (.aload_n 0, 1) := by decide +kernel
theorem d_with4_1 : decode prog_25_method_7_code 1 = .ok (.getfield 13, 3) := by decide +kernel
theorem d_with4_4 : decode prog_25_method_7_code 4 = .ok (.arraylength, 1) := by decide +kernel
theorem d_with4_5 : decode prog_25_method_7_code 5 = .ok (.ifCond .ne 30, 3) := by decide +kernel
theorem d_with4_8 : decode prog_25_method_7_code 8 = .ok (.new 8, 3) := by decide +kernel
theorem d_with4_11 : decode prog_25_method_7_code 11 = .ok (.dup, 1) := by decide +kernel
theorem d_with4_12 : decode prog_25_method_7_code 12 = .ok (.aload_n 0, 1) := by decide +kernel
theorem d_with4_13 : decode prog_25_method_7_code 13 = .ok (.getfield 7, 3) := by decide +kernel
theorem d_with4_16 : decode prog_25_method_7_code 16 = .ok (.iconst 1, 1) := by decide +kernel
theorem d_with4_17 : decode prog_25_method_7_code 17 = .ok (.anewarray 20, 3) := by decide +kernel
theorem d_with4_20 : decode prog_25_method_7_code 20 = .ok (.dup, 1) := by decide +kernel
theorem d_with4_21 : decode prog_25_method_7_code 21 = .ok (.iconst 0, 1) := by decide +kernel
theorem d_with4_22 : decode prog_25_method_7_code 22 = .ok (.aload_n 1, 1) := by decide +kernel
theorem d_with4_23 : decode prog_25_method_7_code 23 = .ok (.invokevirtual 45, 3) := by decide +kernel
theorem d_with4_26 : decode prog_25_method_7_code 26 = .ok (.checkcast 20, 3) := by decide +kernel
theorem d_with4_29 : decode prog_25_method_7_code 29 = .ok (.aastore, 1) := by decide +kernel
theorem d_with4_30 : decode prog_25_method_7_code 30 = .ok (.iconst 1, 1) := by decide +kernel
theorem d_with4_31 : decode prog_25_method_7_code 31 = .ok (.invokespecial 22, 3) := by decide +kernel
theorem d_with4_34 : decode prog_25_method_7_code 34 = .ok (.areturn, 1) := by decide +kernel
theorem pd_with4_0 : parseMethodDescriptor "(I[[JI)V" = some ⟨[.int, (.array (.array .long)), .int], none⟩ := by decide +kernel
def r_with4 : Room := { frames := 2, cells := 3, slots := 8, locals := 28 }
def Q_with4 (Z : State) (a : Addr) (c : Addr) (s : Int32) (kc : ClassId) (b : Addr) (kb : ClassId) (d0 : Int64) (d1 : Int64) (d2 : Int64) (d3 : Int64) (h0 : Heap) (v : Option Value) (h : Heap) : Prop := ∃ r : Addr, ∃ ch : Addr, ∃ k : ClassId, ∃ x : Addr, ∃ kx : ClassId, v = some (.ref r) ∧ Keep h0 h [] ∧ h0.size ≤ r ∧ Exa Z h r "com/example/rosterlink/rosterlink/model/IdChunks" ∧ Fld Z h r "com/example/rosterlink/rosterlink/model/IdChunks" "width" "I" (.int (4 : Int32)) ∧ Fld Z h r "com/example/rosterlink/rosterlink/model/IdChunks" "chunks" "[[J" (.ref ch) ∧ Fld Z h r "com/example/rosterlink/rosterlink/model/IdChunks" "size" "I" (.int (1 : Int32)) ∧ h0.size ≤ ch ∧ oArr Z h ch k (.array .long) [(.ref x)] ∧ h0.size ≤ x ∧ oArr Z h x kx .long [(.long d0), (.long d1), (.long d2), (.long d3)] ∧ Exa Z h x "[J"
set_option maxRecDepth 65536 in
set_option maxHeartbeats 40000000 in
theorem rm_with4 (l : Launch) (Z : State) (a0 : Array Value) (hw : oHw Z a0) (a : Addr) (c : Addr) (s : Int32) (kc : ClassId) (b : Addr) (kb : ClassId) (d0 : Int64) (d1 : Int64) (d2 : Int64) (d3 : Int64) (h0 : Heap) (q0 : Exa Z h0 a "com/example/rosterlink/rosterlink/model/IdChunks") (q1 : Fld Z h0 a "com/example/rosterlink/rosterlink/model/IdChunks" "width" "I" (.int (4 : Int32))) (q2 : Fld Z h0 a "com/example/rosterlink/rosterlink/model/IdChunks" "chunks" "[[J" (.ref c)) (q3 : Fld Z h0 a "com/example/rosterlink/rosterlink/model/IdChunks" "size" "I" (.int s)) (q4 : oArr Z h0 c kc (.array .long) []) (q5 : oArr Z h0 b kb .long [(.long d0), (.long d1), (.long d2), (.long d3)]) (q6 : Exa Z h0 b "[J") : oMet l Z (⟨"com/example/rosterlink/rosterlink/model/IdChunks", "with", "([J)Lcom/example/rosterlink/rosterlink/model/IdChunks;"⟩ : MethodName) prog_25_method_7_code 10 (some (.object "com/example/rosterlink/rosterlink/model/IdChunks")) r_with4 [] #[(.ref a), (.ref b)] h0 (Q_with4 Z a c s kc b kb d0 d1 d2 d3 h0) := by
  refine oEnter (plainFor_of_name (by first | (simp [plainName, overriddenIn]; done) | decide +kernel)) (own := "com/example/rosterlink/rosterlink/model/IdChunks") (nm := "with") rfl rfl (L := #[.val (.ref a), .val (.ref b), .unset, .unset, .unset, .unset, .unset, .unset, .unset, .unset]) (fun m => by first | (simp [entryFrame, mkF, argsToLocals, Value.category]; done) | rfl) ?_
  intro pp ee ss mm bb mtd cc T0 K X0
  have E0 := X0.ext0
  refine o_aloadN K X0 d_with4_0 (pc' := 1) rfl rfl rfl ?_
  refine o_getfield K X0 (host := "") (Or.inl (w17 hw)) Via.refl q2 d_with4_1 (pc' := 4) rfl ?_
  intro T1 X1
  refine o_arraylength K X1 q4 (z := (0 : Int32)) rfl d_with4_4 (pc' := 5) rfl ?_
  refine o_if_ne_f K X1 d_with4_5 (pc' := 8) rfl (by decide) ?_
  refine o_new K X1 (w7 hw) (w8 hw) (w3 hw) d_with4_8 (pc' := 11) rfl (by decide) (by decide) ?_
  intro T2 h2 b2 X2 g2 E2 A2 D2 G2
  have F2_width : Fld Z h2 b2 "com/example/rosterlink/rosterlink/model/IdChunks" "width" "I" (.int (0 : Int32)) := (D2 (Or.inr (w16 hw)) (ty := .int) (by decide))
  have F2_chunks : Fld Z h2 b2 "com/example/rosterlink/rosterlink/model/IdChunks" "chunks" "[[J" .null := (D2 (Or.inr (w18 hw)) (ty := (.array (.array .long))) (by decide))
  have F2_size : Fld Z h2 b2 "com/example/rosterlink/rosterlink/model/IdChunks" "size" "I" (.int (0 : Int32)) := (D2 (Or.inr (w20 hw)) (ty := .int) (by decide))
  refine o_dup K X2 d_with4_11 (pc' := 12) rfl rfl ?_
  refine o_aloadN K X2 d_with4_12 (pc' := 13) rfl rfl rfl ?_
  refine o_getfield K X2 (host := "") (Or.inl (w15 hw)) Via.refl (q1.ext E2) d_with4_13 (pc' := 16) rfl ?_
  intro T3 X3
  refine o_iconst K X3 d_with4_16 (pc' := 17) rfl (z := (1 : Int32)) rfl ?_
  refine o_anewarrayA K X3 (ty := .long) 1 (by decide +kernel) (w5 hw) (w6 hw) (ad := "[[J") (by decide +kernel) (by decide) (by decide) (by decide) d_with4_17 (pc' := 20) rfl (by decide) (by decide) ?_
  intro T4 h4 b4 k4 X4 g4 E4 A4 B4 O4 G4
  replace A4 : oArr Z h4 b4 k4 (.array .long) [.null] := A4
  refine o_dup K X4 d_with4_20 (pc' := 21) rfl rfl ?_
  refine o_iconst K X4 d_with4_21 (pc' := 22) rfl (z := (0 : Int32)) rfl ?_
  refine o_aloadN K X4 d_with4_22 (pc' := 23) rfl rfl rfl ?_
  refine o_clone K X4 4 (w63 hw) (w64 hw) (w68 hw) (w66 hw) (w67 hw) (w69 hw) ((q5.ext E2).ext E4) rfl ((q6.ext E2).ext E4) d_with4_23 (pc' := 26) rfl rfl (by decide) (W := 6) rfl (by decide) (by decide) (by decide) ?_
  intro T5 h5 b5 X5 g5 E5 A5 B5 G5
  refine o_checkcast K X5 (w5 hw) (Ins.self B5) d_with4_26 (pc' := 29) rfl ?_
  intro T6 X6
  refine o_aastore K X6 rfl (A4.ext E5) (by decide) (show (0 : Int32).toNatClampNeg < 1 from (by decide)) G4 (oStoA (A4.ext E5) O4 (Ins.self B5)) rfl d_with4_29 (pc' := 30) rfl ?_
  intro T7 h7 X7 W7 A7
  replace A7 : oArr Z h7 b4 k4 (.array .long) [(.ref b5)] := A7
  refine o_iconst K X7 d_with4_30 (pc' := 31) rfl (z := (1 : Int32)) rfl ?_
  refine o_special K X7 (y := (⟨"com/example/rosterlink/rosterlink/model/IdChunks", "<init>", "(I[[JI)V"⟩ : MethodName)) rfl (w9 hw) (w10 hw) (w3 hw) (w11 hw) (by decide) (rm_init l Z a0 hw b2 (4 : Int32) b4 (1 : Int32) h7 (Exa.wr W7 ((A2.ext E4).ext E5)) (Fld.other W7 ((F2_width.ext E4).ext E5) (Or.inl (Nat.ne_of_lt (Nat.lt_of_lt_of_le A2.lt (Nat.le_of_eq g4.symm))))) (Fld.other W7 ((F2_chunks.ext E4).ext E5) (Or.inl (Nat.ne_of_lt (Nat.lt_of_lt_of_le A2.lt (Nat.le_of_eq g4.symm))))) (Fld.other W7 ((F2_size.ext E4).ext E5) (Or.inl (Nat.ne_of_lt (Nat.lt_of_lt_of_le A2.lt (Nat.le_of_eq g4.symm))))) G2) (by decide) rfl (argsL := [(.int (4 : Int32)), (.ref b4), (.int (1 : Int32))]) rfl (lenOf pd_with4_0 rfl) (W := 1) rfl (by decide) (by decide) (by decide) d_with4_31 (pc' := 34) rfl ?_
  intro v8 T8 h8 X8 U8
  obtain ⟨rfl, u8_0, u8_1, u8_2, u8_3, u8_4⟩ := U8
  show oGoes pp ee bb ss Z T8 (mkF mm 34 #[.val (.ref a), .val (.ref b), .unset, .unset, .unset, .unset, .unset, .unset, .unset, .unset] [(.ref b2)]) _ _ _
  refine o_areturn K X8 (t := (.object "com/example/rosterlink/rosterlink/model/IdChunks")) d_with4_34 rfl rfl rfl ?_ (by decide) (by decide)
  exact ⟨b2, b4, k4, b5, kb, rfl, ((((((Keep.refl h0 []).ext E2).ext E4).ext E5).wr W7 (Or.inr (Nat.le_trans E2.1 (Nat.le_of_eq g4.symm)))).trans u8_0 (allS (Or.inr (Nat.le_of_eq g2.symm)) all0)), (Nat.le_of_eq g2.symm), u8_1, u8_2, u8_3, u8_4, (Nat.le_trans E2.1 (Nat.le_of_eq g4.symm)), (A7.keep u8_0 (ninS (Ne.symm (Nat.ne_of_lt (Nat.lt_of_lt_of_le A2.lt (Nat.le_of_eq g4.symm)))) nin0)), (Nat.le_trans (Nat.le_trans E2.1 E4.1) (Nat.le_of_eq g5.symm)), ((A5.other W7 (Ne.symm (Nat.ne_of_lt (Nat.lt_of_lt_of_le A4.lt (Nat.le_of_eq g5.symm))))).keep u8_0 (ninS (Ne.symm (Nat.ne_of_lt (Nat.lt_of_lt_of_le (Nat.lt_of_lt_of_le A2.lt E4.1) (Nat.le_of_eq g5.symm)))) nin0)), ((Exa.wr W7 B5).keep u8_0)⟩
theorem d_cf1_4_0 : decode prog_25_method_17_code 0 = .ok (.iconst 0, 1) := by decide +kernel
theorem d_cf1_4_1 : decode prog_25_method_17_code 1 = .ok (.istore_n 3, 1) := by decide +kernel
theorem d_cf1_4_2 : decode prog_25_method_17_code 2 = .ok (.aload_n 0, 1) := by decide +kernel
theorem d_cf1_4_3 : decode prog_25_method_17_code 3 = .ok (.getfield 13, 3) := by decide +kernel
theorem d_cf1_4_6 : decode prog_25_method_17_code 6 = .ok (.arraylength, 1) := by decide +kernel
theorem d_cf1_4_7 : decode prog_25_method_17_code 7 = .ok (.istore 4, 2) := by decide +kernel
theorem d_cf1_4_9 : decode prog_25_method_17_code 9 = .ok (.iload_n 3, 1) := by decide +kernel
theorem d_cf1_4_10 : decode prog_25_method_17_code 10 = .ok (.iload 4, 2) := by decide +kernel
theorem d_cf1_4_12 : decode prog_25_method_17_code 12 = .ok (.if_icmp .ge 51, 3) := by decide +kernel
theorem d_cf1_4_15 : decode prog_25_method_17_code 15 = .ok (.iload_n 3, 1) := by decide +kernel
theorem d_cf1_4_16 : decode prog_25_method_17_code 16 = .ok (.iload 4, 2) := by decide +kernel
theorem d_cf1_4_18 : decode prog_25_method_17_code 18 = .ok (.iadd, 1) := by decide +kernel
theorem d_cf1_4_19 : decode prog_25_method_17_code 19 = .ok (.iconst 1, 1) := by decide +kernel
theorem d_cf1_4_20 : decode prog_25_method_17_code 20 = .ok (.iushr, 1) := by decide +kernel
theorem d_cf1_4_21 : decode prog_25_method_17_code 21 = .ok (.istore 5, 2) := by decide +kernel
theorem d_cf1_4_23 : decode prog_25_method_17_code 23 = .ok (.aload_n 0, 1) := by decide +kernel
theorem d_cf1_4_24 : decode prog_25_method_17_code 24 = .ok (.getfield 13, 3) := by decide +kernel
theorem d_cf1_4_27 : decode prog_25_method_17_code 27 = .ok (.iload 5, 2) := by decide +kernel
theorem d_cf1_4_29 : decode prog_25_method_17_code 29 = .ok (.aaload, 1) := by decide +kernel
theorem d_cf1_4_30 : decode prog_25_method_17_code 30 = .ok (.astore 6, 2) := by decide +kernel
theorem d_cf1_4_32 : decode prog_25_method_17_code 32 = .ok (.aload 6, 2) := by decide +kernel
theorem d_cf1_4_34 : decode prog_25_method_17_code 34 = .ok (.aload 6, 2) := by decide +kernel
theorem d_cf1_4_36 : decode prog_25_method_17_code 36 = .ok (.arraylength, 1) := by decide +kernel
theorem d_cf1_4_37 : decode prog_25_method_17_code 37 = .ok (.aload_n 0, 1) := by decide +kernel
theorem d_cf1_4_38 : decode prog_25_method_17_code 38 = .ok (.getfield 7, 3) := by decide +kernel
theorem d_cf1_4_41 : decode prog_25_method_17_code 41 = .ok (.isub, 1) := by decide +kernel
theorem d_cf1_4_42 : decode prog_25_method_17_code 42 = .ok (.laload, 1) := by decide +kernel
theorem d_cf1_4_43 : decode prog_25_method_17_code 43 = .ok (.lload_n 1, 1) := by decide +kernel
theorem d_cf1_4_44 : decode prog_25_method_17_code 44 = .ok (.lcmp, 1) := by decide +kernel
theorem d_cf1_4_45 : decode prog_25_method_17_code 45 = .ok (.ifCond .ge 11, 3) := by decide +kernel
theorem d_cf1_4_56 : decode prog_25_method_17_code 56 = .ok (.iload 5, 2) := by decide +kernel
theorem d_cf1_4_58 : decode prog_25_method_17_code 58 = .ok (.istore 4, 2) := by decide +kernel
theorem d_cf1_4_60 : decode prog_25_method_17_code 60 = .ok (.goto (-51), 3) := by decide +kernel
theorem d_cf1_4_63 : decode prog_25_method_17_code 63 = .ok (.iload_n 3, 1) := by decide +kernel
theorem d_cf1_4_64 : decode prog_25_method_17_code 64 = .ok (.ireturn, 1) := by decide +kernel
def r_cf1_4 : Room := { frames := 0, cells := 0, slots := 0, locals := 0 }
def Q_cf1_4 (Z : State) (a : Addr) (c : Addr) (kc : ClassId) (x : Addr) (kx : ClassId) (d0 : Int64) (d1 : Int64) (d2 : Int64) (d3 : Int64) (h0 : Heap) (v : Option Value) (h : Heap) : Prop := v = some (.int (0 : Int32)) ∧ h0 = h
set_option maxRecDepth 65536 in
set_option maxHeartbeats 40000000 in
theorem rm_cf1_4 (l : Launch) (Z : State) (a0 : Array Value) (hw : oHw Z a0) (a : Addr) (c : Addr) (kc : ClassId) (x : Addr) (kx : ClassId) (d0 : Int64) (d1 : Int64) (d2 : Int64) (d3 : Int64) (h0 : Heap) (q0 : Exa Z h0 a "com/example/rosterlink/rosterlink/model/IdChunks") (q1 : Fld Z h0 a "com/example/rosterlink/rosterlink/model/IdChunks" "width" "I" (.int (4 : Int32))) (q2 : Fld Z h0 a "com/example/rosterlink/rosterlink/model/IdChunks" "chunks" "[[J" (.ref c)) (q3 : Fld Z h0 a "com/example/rosterlink/rosterlink/model/IdChunks" "size" "I" (.int (1 : Int32))) (q4 : oArr Z h0 c kc (.array .long) [(.ref x)]) (q5 : oArr Z h0 x kx .long [(.long d0), (.long d1), (.long d2), (.long d3)]) (q6 : Exa Z h0 x "[J") : oMet l Z (⟨"com/example/rosterlink/rosterlink/model/IdChunks", "chunkFor", "(J)I"⟩ : MethodName) prog_25_method_17_code 7 (some .int) r_cf1_4 [] #[(.ref a), (.long d0)] h0 (Q_cf1_4 Z a c kc x kx d0 d1 d2 d3 h0) := by
  refine oEnter (plainFor_of_name (by first | (simp [plainName, overriddenIn]; done) | decide +kernel)) (own := "com/example/rosterlink/rosterlink/model/IdChunks") (nm := "chunkFor") rfl rfl (L := #[.val (.ref a), .val (.long d0), .second, .unset, .unset, .unset, .unset]) (fun m => by first | (simp [entryFrame, mkF, argsToLocals, Value.category]; done) | rfl) ?_
  intro pp ee ss mm bb mtd cc T0 K X0
  have E0 := X0.ext0
  refine o_iconst K X0 d_cf1_4_0 (pc' := 1) rfl (z := (0 : Int32)) rfl ?_
  refine o_istoreN K X0 d_cf1_4_1 (pc' := 2) rfl (L' := #[.val (.ref a), .val (.long d0), .second, .val (.int (0 : Int32)), .unset, .unset, .unset]) rfl ?_
  refine o_aloadN K X0 d_cf1_4_2 (pc' := 3) rfl rfl rfl ?_
  refine o_getfield K X0 (host := "") (Or.inl (w17 hw)) Via.refl q2 d_cf1_4_3 (pc' := 6) rfl ?_
  intro T1 X1
  refine o_arraylength K X1 q4 (z := (1 : Int32)) rfl d_cf1_4_6 (pc' := 7) rfl ?_
  refine o_istore K X1 d_cf1_4_7 (pc' := 9) rfl (L' := #[.val (.ref a), .val (.long d0), .second, .val (.int (0 : Int32)), .val (.int (1 : Int32)), .unset, .unset]) rfl ?_
  refine o_iloadN K X1 d_cf1_4_9 (pc' := 10) rfl rfl ?_
  refine o_iload K X1 d_cf1_4_10 (pc' := 12) rfl rfl ?_
  refine o_icmp_ge_f K X1 d_cf1_4_12 (pc' := 15) rfl (by decide) ?_
  refine o_iloadN K X1 d_cf1_4_15 (pc' := 16) rfl rfl ?_
  refine o_iload K X1 d_cf1_4_16 (pc' := 18) rfl rfl ?_
  refine o_iadd K X1 d_cf1_4_18 (pc' := 19) rfl (z := (1 : Int32)) (by decide) ?_
  refine o_iconst K X1 d_cf1_4_19 (pc' := 20) rfl (z := (1 : Int32)) rfl ?_
  refine o_iushr K X1 d_cf1_4_20 (pc' := 21) rfl (z := (0 : Int32)) (by decide) ?_
  refine o_istore K X1 d_cf1_4_21 (pc' := 23) rfl (L' := #[.val (.ref a), .val (.long d0), .second, .val (.int (0 : Int32)), .val (.int (1 : Int32)), .val (.int (0 : Int32)), .unset]) rfl ?_
  refine o_aloadN K X1 d_cf1_4_23 (pc' := 24) rfl rfl rfl ?_
  refine o_getfield K X1 (host := "") (Or.inl (w17 hw)) Via.refl q2 d_cf1_4_24 (pc' := 27) rfl ?_
  intro T2 X2
  refine o_iload K X2 d_cf1_4_27 (pc' := 29) rfl rfl ?_
  refine o_aaload K X2 rfl q4 (by decide) (v := (.ref x)) rfl d_cf1_4_29 (pc' := 30) rfl ?_
  refine o_astore K X2 d_cf1_4_30 (pc' := 32) rfl rfl (L' := #[.val (.ref a), .val (.long d0), .second, .val (.int (0 : Int32)), .val (.int (1 : Int32)), .val (.int (0 : Int32)), .val (.ref x)]) rfl ?_
  refine o_aload K X2 d_cf1_4_32 (pc' := 34) rfl rfl rfl ?_
  refine o_aload K X2 d_cf1_4_34 (pc' := 36) rfl rfl rfl ?_
  refine o_arraylength K X2 q5 (z := (4 : Int32)) rfl d_cf1_4_36 (pc' := 37) rfl ?_
  refine o_aloadN K X2 d_cf1_4_37 (pc' := 38) rfl rfl rfl ?_
  refine o_getfield K X2 (host := "") (Or.inl (w15 hw)) Via.refl q1 d_cf1_4_38 (pc' := 41) rfl ?_
  intro T3 X3
  refine o_isub K X3 d_cf1_4_41 (pc' := 42) rfl (z := (0 : Int32)) (by decide) ?_
  refine o_laload K X3 q5 (by decide) (v := (.long d0)) rfl d_cf1_4_42 (pc' := 43) rfl ?_
  refine o_lloadN K X3 d_cf1_4_43 (pc' := 44) rfl rfl ?_
  refine o_lcmp K X3 d_cf1_4_44 (pc' := 45) rfl (z := (0 : Int32)) (oLcmp _) ?_
  refine o_if_ge_t K X3 d_cf1_4_45 (by decide) (pc' := 56) (by decide) (by decide) ?_
  refine o_iload K X3 d_cf1_4_56 (pc' := 58) rfl rfl ?_
  refine o_istore K X3 d_cf1_4_58 (pc' := 60) rfl (L' := #[.val (.ref a), .val (.long d0), .second, .val (.int (0 : Int32)), .val (.int (0 : Int32)), .val (.int (0 : Int32)), .val (.ref x)]) rfl ?_
  refine o_goto K X3 d_cf1_4_60 (by decide) (pc' := 9) (by decide) ?_
  refine o_iloadN K X3 d_cf1_4_9 (pc' := 10) rfl rfl ?_
  refine o_iload K X3 d_cf1_4_10 (pc' := 12) rfl rfl ?_
  refine o_icmp_ge_t K X3 d_cf1_4_12 (by decide) (pc' := 63) (by decide) (by decide) ?_
  refine o_iloadN K X3 d_cf1_4_63 (pc' := 64) rfl rfl ?_
  refine o_ireturn K X3 d_cf1_4_64 rfl ?_ (by decide) (by decide)
  exact ⟨rfl, rfl⟩
theorem d_find4_0 : decode prog_25_method_18_code 0 = .ok (.iconst 0, 1) := by decide +kernel
theorem d_find4_1 : decode prog_25_method_18_code 1 = .ok (.istore 4, 2) := by decide +kernel
theorem d_find4_3 : decode prog_25_method_18_code 3 = .ok (.aload_n 1, 1) := by decide +kernel
theorem d_find4_4 : decode prog_25_method_18_code 4 = .ok (.arraylength, 1) := by decide +kernel
theorem d_find4_5 : decode prog_25_method_18_code 5 = .ok (.aload_n 0, 1) := by decide +kernel
theorem d_find4_6 : decode prog_25_method_18_code 6 = .ok (.getfield 7, 3) := by decide +kernel
theorem d_find4_9 : decode prog_25_method_18_code 9 = .ok (.idiv, 1) := by decide +kernel
theorem d_find4_10 : decode prog_25_method_18_code 10 = .ok (.iconst 1, 1) := by decide +kernel
theorem d_find4_11 : decode prog_25_method_18_code 11 = .ok (.isub, 1) := by decide +kernel
theorem d_find4_12 : decode prog_25_method_18_code 12 = .ok (.istore 5, 2) := by decide +kernel
theorem d_find4_14 : decode prog_25_method_18_code 14 = .ok (.iload 4, 2) := by decide +kernel
theorem d_find4_16 : decode prog_25_method_18_code 16 = .ok (.iload 5, 2) := by decide +kernel
theorem d_find4_18 : decode prog_25_method_18_code 18 = .ok (.if_icmp .gt 61, 3) := by decide +kernel
theorem d_find4_21 : decode prog_25_method_18_code 21 = .ok (.iload 4, 2) := by decide +kernel
theorem d_find4_23 : decode prog_25_method_18_code 23 = .ok (.iload 5, 2) := by decide +kernel
theorem d_find4_25 : decode prog_25_method_18_code 25 = .ok (.iadd, 1) := by decide +kernel
theorem d_find4_26 : decode prog_25_method_18_code 26 = .ok (.iconst 1, 1) := by decide +kernel
theorem d_find4_27 : decode prog_25_method_18_code 27 = .ok (.iushr, 1) := by decide +kernel
theorem d_find4_28 : decode prog_25_method_18_code 28 = .ok (.istore 6, 2) := by decide +kernel
theorem d_find4_30 : decode prog_25_method_18_code 30 = .ok (.aload_n 1, 1) := by decide +kernel
theorem d_find4_31 : decode prog_25_method_18_code 31 = .ok (.iload 6, 2) := by decide +kernel
theorem d_find4_33 : decode prog_25_method_18_code 33 = .ok (.aload_n 0, 1) := by decide +kernel
theorem d_find4_34 : decode prog_25_method_18_code 34 = .ok (.getfield 7, 3) := by decide +kernel
theorem d_find4_37 : decode prog_25_method_18_code 37 = .ok (.imul, 1) := by decide +kernel
theorem d_find4_38 : decode prog_25_method_18_code 38 = .ok (.laload, 1) := by decide +kernel
theorem d_find4_39 : decode prog_25_method_18_code 39 = .ok (.lstore 7, 2) := by decide +kernel
theorem d_find4_41 : decode prog_25_method_18_code 41 = .ok (.lload 7, 2) := by decide +kernel
theorem d_find4_43 : decode prog_25_method_18_code 43 = .ok (.lload_n 2, 1) := by decide +kernel
theorem d_find4_44 : decode prog_25_method_18_code 44 = .ok (.lcmp, 1) := by decide +kernel
theorem d_find4_45 : decode prog_25_method_18_code 45 = .ok (.ifCond .ge 12, 3) := by decide +kernel
theorem d_find4_57 : decode prog_25_method_18_code 57 = .ok (.lload 7, 2) := by decide +kernel
theorem d_find4_59 : decode prog_25_method_18_code 59 = .ok (.lload_n 2, 1) := by decide +kernel
theorem d_find4_60 : decode prog_25_method_18_code 60 = .ok (.lcmp, 1) := by decide +kernel
theorem d_find4_61 : decode prog_25_method_18_code 61 = .ok (.ifCond .le 12, 3) := by decide +kernel
theorem d_find4_73 : decode prog_25_method_18_code 73 = .ok (.iload 6, 2) := by decide +kernel
theorem d_find4_75 : decode prog_25_method_18_code 75 = .ok (.ireturn, 1) := by decide +kernel
def r_find4 : Room := { frames := 0, cells := 0, slots := 0, locals := 0 }
def Q_find4 (Z : State) (a : Addr) (c : Addr) (kc : ClassId) (x : Addr) (kx : ClassId) (d0 : Int64) (d1 : Int64) (d2 : Int64) (d3 : Int64) (h0 : Heap) (v : Option Value) (h : Heap) : Prop := v = some (.int (0 : Int32)) ∧ h0 = h
set_option maxRecDepth 65536 in
set_option maxHeartbeats 40000000 in
theorem rm_find4 (l : Launch) (Z : State) (a0 : Array Value) (hw : oHw Z a0) (a : Addr) (c : Addr) (kc : ClassId) (x : Addr) (kx : ClassId) (d0 : Int64) (d1 : Int64) (d2 : Int64) (d3 : Int64) (h0 : Heap) (q0 : Exa Z h0 a "com/example/rosterlink/rosterlink/model/IdChunks") (q1 : Fld Z h0 a "com/example/rosterlink/rosterlink/model/IdChunks" "width" "I" (.int (4 : Int32))) (q2 : Fld Z h0 a "com/example/rosterlink/rosterlink/model/IdChunks" "chunks" "[[J" (.ref c)) (q3 : Fld Z h0 a "com/example/rosterlink/rosterlink/model/IdChunks" "size" "I" (.int (1 : Int32))) (q4 : oArr Z h0 c kc (.array .long) [(.ref x)]) (q5 : oArr Z h0 x kx .long [(.long d0), (.long d1), (.long d2), (.long d3)]) (q6 : Exa Z h0 x "[J") : oMet l Z (⟨"com/example/rosterlink/rosterlink/model/IdChunks", "find", "([JJ)I"⟩ : MethodName) prog_25_method_18_code 9 (some .int) r_find4 [] #[(.ref a), (.ref x), (.long d0)] h0 (Q_find4 Z a c kc x kx d0 d1 d2 d3 h0) := by
  refine oEnter (plainFor_of_name (by first | (simp [plainName, overriddenIn]; done) | decide +kernel)) (own := "com/example/rosterlink/rosterlink/model/IdChunks") (nm := "find") rfl rfl (L := #[.val (.ref a), .val (.ref x), .val (.long d0), .second, .unset, .unset, .unset, .unset, .unset]) (fun m => by first | (simp [entryFrame, mkF, argsToLocals, Value.category]; done) | rfl) ?_
  intro pp ee ss mm bb mtd cc T0 K X0
  have E0 := X0.ext0
  refine o_iconst K X0 d_find4_0 (pc' := 1) rfl (z := (0 : Int32)) rfl ?_
  refine o_istore K X0 d_find4_1 (pc' := 3) rfl (L' := #[.val (.ref a), .val (.ref x), .val (.long d0), .second, .val (.int (0 : Int32)), .unset, .unset, .unset, .unset]) rfl ?_
  refine o_aloadN K X0 d_find4_3 (pc' := 4) rfl rfl rfl ?_
  refine o_arraylength K X0 q5 (z := (4 : Int32)) rfl d_find4_4 (pc' := 5) rfl ?_
  refine o_aloadN K X0 d_find4_5 (pc' := 6) rfl rfl rfl ?_
  refine o_getfield K X0 (host := "") (Or.inl (w15 hw)) Via.refl q1 d_find4_6 (pc' := 9) rfl ?_
  intro T1 X1
  refine o_idiv K X1 d_find4_9 (pc' := 10) rfl (by decide) (z := (1 : Int32)) (by decide) ?_
  refine o_iconst K X1 d_find4_10 (pc' := 11) rfl (z := (1 : Int32)) rfl ?_
  refine o_isub K X1 d_find4_11 (pc' := 12) rfl (z := (0 : Int32)) (by decide) ?_
  refine o_istore K X1 d_find4_12 (pc' := 14) rfl (L' := #[.val (.ref a), .val (.ref x), .val (.long d0), .second, .val (.int (0 : Int32)), .val (.int (0 : Int32)), .unset, .unset, .unset]) rfl ?_
  refine o_iload K X1 d_find4_14 (pc' := 16) rfl rfl ?_
  refine o_iload K X1 d_find4_16 (pc' := 18) rfl rfl ?_
  refine o_icmp_gt_f K X1 d_find4_18 (pc' := 21) rfl (by decide) ?_
  refine o_iload K X1 d_find4_21 (pc' := 23) rfl rfl ?_
  refine o_iload K X1 d_find4_23 (pc' := 25) rfl rfl ?_
  refine o_iadd K X1 d_find4_25 (pc' := 26) rfl (z := (0 : Int32)) (by decide) ?_
  refine o_iconst K X1 d_find4_26 (pc' := 27) rfl (z := (1 : Int32)) rfl ?_
  refine o_iushr K X1 d_find4_27 (pc' := 28) rfl (z := (0 : Int32)) (by decide) ?_
  refine o_istore K X1 d_find4_28 (pc' := 30) rfl (L' := #[.val (.ref a), .val (.ref x), .val (.long d0), .second, .val (.int (0 : Int32)), .val (.int (0 : Int32)), .val (.int (0 : Int32)), .unset, .unset]) rfl ?_
  refine o_aloadN K X1 d_find4_30 (pc' := 31) rfl rfl rfl ?_
  refine o_iload K X1 d_find4_31 (pc' := 33) rfl rfl ?_
  refine o_aloadN K X1 d_find4_33 (pc' := 34) rfl rfl rfl ?_
  refine o_getfield K X1 (host := "") (Or.inl (w15 hw)) Via.refl q1 d_find4_34 (pc' := 37) rfl ?_
  intro T2 X2
  refine o_imul K X2 d_find4_37 (pc' := 38) rfl (z := (0 : Int32)) (by decide) ?_
  refine o_laload K X2 q5 (by decide) (v := (.long d0)) rfl d_find4_38 (pc' := 39) rfl ?_
  refine o_lstore K X2 d_find4_39 (pc' := 41) rfl (L' := #[.val (.ref a), .val (.ref x), .val (.long d0), .second, .val (.int (0 : Int32)), .val (.int (0 : Int32)), .val (.int (0 : Int32)), .val (.long d0), .second]) rfl ?_
  refine o_lload K X2 d_find4_41 (pc' := 43) rfl rfl ?_
  refine o_lloadN K X2 d_find4_43 (pc' := 44) rfl rfl ?_
  refine o_lcmp K X2 d_find4_44 (pc' := 45) rfl (z := (0 : Int32)) (oLcmp _) ?_
  refine o_if_ge_t K X2 d_find4_45 (by decide) (pc' := 57) (by decide) (by decide) ?_
  refine o_lload K X2 d_find4_57 (pc' := 59) rfl rfl ?_
  refine o_lloadN K X2 d_find4_59 (pc' := 60) rfl rfl ?_
  refine o_lcmp K X2 d_find4_60 (pc' := 61) rfl (z := (0 : Int32)) (oLcmp _) ?_
  refine o_if_le_t K X2 d_find4_61 (by decide) (pc' := 73) (by decide) (by decide) ?_
  refine o_iload K X2 d_find4_73 (pc' := 75) rfl rfl ?_
  refine o_ireturn K X2 d_find4_75 rfl ?_ (by decide) (by decide)
  exact ⟨rfl, rfl⟩
theorem d_cor4_0 : decode jdk_65_method_138_code 0 = .ok (.iload_n 1, 1) := by decide +kernel
theorem d_cor4_1 : decode jdk_65_method_138_code 1 = .ok (.ifCond .ne 9, 3) := by decide +kernel
theorem d_cor4_4 : decode jdk_65_method_138_code 4 = .ok (.iload_n 2, 1) := by decide +kernel
theorem d_cor4_5 : decode jdk_65_method_138_code 5 = .ok (.aload_n 0, 1) := by decide +kernel
theorem d_cor4_6 : decode jdk_65_method_138_code 6 = .ok (.arraylength, 1) := by decide +kernel
theorem d_cor4_7 : decode jdk_65_method_138_code 7 = .ok (.if_icmp .eq 10, 3) := by decide +kernel
theorem d_cor4_17 : decode jdk_65_method_138_code 17 = .ok (.aload_n 0, 1) := by decide +kernel
theorem d_cor4_18 : decode jdk_65_method_138_code 18 = .ok (.invokevirtual 319, 3) := by decide +kernel
theorem d_cor4_21 : decode jdk_65_method_138_code 21 = .ok (.checkcast 320, 3) := by decide +kernel
theorem d_cor4_24 : decode jdk_65_method_138_code 24 = .ok (.areturn, 1) := by decide +kernel
def r_cor4 : Room := { frames := 1, cells := 1, slots := 4, locals := 14 }
def Q_cor4 (Z : State) (b : Addr) (kb : ClassId) (d0 : Int64) (d1 : Int64) (d2 : Int64) (d3 : Int64) (h0 : Heap) (v : Option Value) (h : Heap) : Prop := ∃ r : Addr, ∃ k : ClassId, v = some (.ref r) ∧ Keep h0 h [] ∧ h0.size ≤ r ∧ oArr Z h r k .long [(.long d0), (.long d1), (.long d2), (.long d3)] ∧ Exa Z h r "[J"
set_option maxRecDepth 65536 in
set_option maxHeartbeats 40000000 in
theorem rm_cor4 (l : Launch) (Z : State) (a0 : Array Value) (hw : oHw Z a0) (b : Addr) (kb : ClassId) (d0 : Int64) (d1 : Int64) (d2 : Int64) (d3 : Int64) (h0 : Heap) (q0 : oArr Z h0 b kb .long [(.long d0), (.long d1), (.long d2), (.long d3)]) (q1 : Exa Z h0 b "[J") : oMet l Z (⟨"java/util/Arrays", "copyOfRange", "([JII)[J"⟩ : MethodName) jdk_65_method_138_code 3 (some (.array .long)) r_cor4 [] #[(.ref b), (.int (0 : Int32)), (.int (4 : Int32))] h0 (Q_cor4 Z b kb d0 d1 d2 d3 h0) := by
  refine oEnter (plainFor_of_name (by first | (simp [plainName, overriddenIn]; done) | decide +kernel)) (own := "java/util/Arrays") (nm := "copyOfRange") rfl rfl (L := #[.val (.ref b), .val (.int (0 : Int32)), .val (.int (4 : Int32))]) (fun m => by first | (simp [entryFrame, mkF, argsToLocals, Value.category]; done) | rfl) ?_
  intro pp ee ss mm bb mtd cc T0 K X0
  have E0 := X0.ext0
  refine o_iloadN K X0 d_cor4_0 (pc' := 1) rfl rfl ?_
  refine o_if_ne_f K X0 d_cor4_1 (pc' := 4) rfl (by decide) ?_
  refine o_iloadN K X0 d_cor4_4 (pc' := 5) rfl rfl ?_
  refine o_aloadN K X0 d_cor4_5 (pc' := 6) rfl rfl rfl ?_
  refine o_arraylength K X0 q0 (z := (4 : Int32)) rfl d_cor4_6 (pc' := 7) rfl ?_
  refine o_icmp_eq_t K X0 d_cor4_7 (by decide) (pc' := 17) (by decide) (by decide) ?_
  refine o_aloadN K X0 d_cor4_17 (pc' := 18) rfl rfl rfl ?_
  refine o_clone K X0 4 (w79 hw) (w64 hw) (w68 hw) (w66 hw) (w67 hw) (w69 hw) q0 rfl q1 d_cor4_18 (pc' := 21) rfl rfl (by decide) (W := 0) rfl (by decide) (by decide) (by decide) ?_
  intro T1 h1 b1 X1 g1 E1 A1 B1 G1
  refine o_checkcast K X1 (w80 hw) (Ins.self B1) d_cor4_21 (pc' := 24) rfl ?_
  intro T2 X2
  refine o_areturn K X2 (t := (.array .long)) d_cor4_24 rfl rfl rfl ?_ (by decide) (by decide)
  exact ⟨b1, kb, rfl, ((Keep.refl h0 []).ext E1), (Nat.le_of_eq g1.symm), A1, B1⟩
theorem d_get1_4_0 : decode prog_25_method_6_code 0 = .ok (.aload_n 0, 1) := by decide +kernel
theorem d_get1_4_1 : decode prog_25_method_6_code 1 = .ok (.lload_n 1, 1) := by decide +kernel
theorem d_get1_4_2 : decode prog_25_method_6_code 2 = .ok (.invokevirtual 37, 3) := by decide +kernel
theorem d_get1_4_5 : decode prog_25_method_6_code 5 = .ok (.istore_n 3, 1) := by decide +kernel
theorem d_get1_4_6 : decode prog_25_method_6_code 6 = .ok (.iload_n 3, 1) := by decide +kernel
theorem d_get1_4_7 : decode prog_25_method_6_code 7 = .ok (.aload_n 0, 1) := by decide +kernel
theorem d_get1_4_8 : decode prog_25_method_6_code 8 = .ok (.getfield 13, 3) := by decide +kernel
theorem d_get1_4_11 : decode prog_25_method_6_code 11 = .ok (.arraylength, 1) := by decide +kernel
theorem d_get1_4_12 : decode prog_25_method_6_code 12 = .ok (.if_icmp .ne 5, 3) := by decide +kernel
theorem d_get1_4_17 : decode prog_25_method_6_code 17 = .ok (.aload_n 0, 1) := by decide +kernel
theorem d_get1_4_18 : decode prog_25_method_6_code 18 = .ok (.aload_n 0, 1) := by decide +kernel
theorem d_get1_4_19 : decode prog_25_method_6_code 19 = .ok (.getfield 13, 3) := by decide +kernel
theorem d_get1_4_22 : decode prog_25_method_6_code 22 = .ok (.iload_n 3, 1) := by decide +kernel
theorem d_get1_4_23 : decode prog_25_method_6_code 23 = .ok (.aaload, 1) := by decide +kernel
theorem d_get1_4_24 : decode prog_25_method_6_code 24 = .ok (.lload_n 1, 1) := by decide +kernel
theorem d_get1_4_25 : decode prog_25_method_6_code 25 = .ok (.invokevirtual 41, 3) := by decide +kernel
theorem d_get1_4_28 : decode prog_25_method_6_code 28 = .ok (.istore 4, 2) := by decide +kernel
theorem d_get1_4_30 : decode prog_25_method_6_code 30 = .ok (.iload 4, 2) := by decide +kernel
theorem d_get1_4_32 : decode prog_25_method_6_code 32 = .ok (.ifCond .ge 7, 3) := by decide +kernel
theorem d_get1_4_39 : decode prog_25_method_6_code 39 = .ok (.aload_n 0, 1) := by decide +kernel
theorem d_get1_4_40 : decode prog_25_method_6_code 40 = .ok (.getfield 13, 3) := by decide +kernel
theorem d_get1_4_43 : decode prog_25_method_6_code 43 = .ok (.iload_n 3, 1) := by decide +kernel
theorem d_get1_4_44 : decode prog_25_method_6_code 44 = .ok (.aaload, 1) := by decide +kernel
theorem d_get1_4_45 : decode prog_25_method_6_code 45 = .ok (.iload 4, 2) := by decide +kernel
theorem d_get1_4_47 : decode prog_25_method_6_code 47 = .ok (.aload_n 0, 1) := by decide +kernel
theorem d_get1_4_48 : decode prog_25_method_6_code 48 = .ok (.getfield 7, 3) := by decide +kernel
theorem d_get1_4_51 : decode prog_25_method_6_code 51 = .ok (.imul, 1) := by decide +kernel
theorem d_get1_4_52 : decode prog_25_method_6_code 52 = .ok (.iload 4, 2) := by decide +kernel
theorem d_get1_4_54 : decode prog_25_method_6_code 54 = .ok (.iconst 1, 1) := by decide +kernel
theorem d_get1_4_55 : decode prog_25_method_6_code 55 = .ok (.iadd, 1) := by decide +kernel
theorem d_get1_4_56 : decode prog_25_method_6_code 56 = .ok (.aload_n 0, 1) := by decide +kernel
theorem d_get1_4_57 : decode prog_25_method_6_code 57 = .ok (.getfield 7, 3) := by decide +kernel
theorem d_get1_4_60 : decode prog_25_method_6_code 60 = .ok (.imul, 1) := by decide +kernel
theorem d_get1_4_61 : decode prog_25_method_6_code 61 = .ok (.invokestatic 31, 3) := by decide +kernel
theorem d_get1_4_64 : decode prog_25_method_6_code 64 = .ok (.areturn, 1) := by decide +kernel
theorem pd_get1_4_0 : parseMethodDescriptor "(J)I" = some ⟨[.long], some .int⟩ := by decide +kernel
theorem pd_get1_4_1 : parseMethodDescriptor "([JJ)I" = some ⟨[(.array .long), .long], some .int⟩ := by decide +kernel
theorem pd_get1_4_2 : parseMethodDescriptor "([JII)[J" = some ⟨[(.array .long), .int, .int], some (.array .long)⟩ := by decide +kernel
def r_get1_4 : Room := { frames := 2, cells := 1, slots := 4, locals := 28 }
def Q_get1_4 (Z : State) (a : Addr) (c : Addr) (kc : ClassId) (x : Addr) (kx : ClassId) (d0 : Int64) (d1 : Int64) (d2 : Int64) (d3 : Int64) (h0 : Heap) (v : Option Value) (h : Heap) : Prop := ∃ r : Addr, ∃ k : ClassId, v = some (.ref r) ∧ Keep h0 h [] ∧ h0.size ≤ r ∧ oArr Z h r k .long [(.long d0), (.long d1), (.long d2), (.long d3)] ∧ Exa Z h r "[J"
set_option maxRecDepth 65536 in
set_option maxHeartbeats 40000000 in
theorem rm_get1_4 (l : Launch) (Z : State) (a0 : Array Value) (hw : oHw Z a0) (a : Addr) (c : Addr) (kc : ClassId) (x : Addr) (kx : ClassId) (d0 : Int64) (d1 : Int64) (d2 : Int64) (d3 : Int64) (h0 : Heap) (q0 : Exa Z h0 a "com/example/rosterlink/rosterlink/model/IdChunks") (q1 : Fld Z h0 a "com/example/rosterlink/rosterlink/model/IdChunks" "width" "I" (.int (4 : Int32))) (q2 : Fld Z h0 a "com/example/rosterlink/rosterlink/model/IdChunks" "chunks" "[[J" (.ref c)) (q3 : Fld Z h0 a "com/example/rosterlink/rosterlink/model/IdChunks" "size" "I" (.int (1 : Int32))) (q4 : oArr Z h0 c kc (.array .long) [(.ref x)]) (q5 : oArr Z h0 x kx .long [(.long d0), (.long d1), (.long d2), (.long d3)]) (q6 : Exa Z h0 x "[J") : oMet l Z (⟨"com/example/rosterlink/rosterlink/model/IdChunks", "get", "(J)[J"⟩ : MethodName) prog_25_method_6_code 5 (some (.array .long)) r_get1_4 [] #[(.ref a), (.long d0)] h0 (Q_get1_4 Z a c kc x kx d0 d1 d2 d3 h0) := by
  refine oEnter (plainFor_of_name (by first | (simp [plainName, overriddenIn]; done) | decide +kernel)) (own := "com/example/rosterlink/rosterlink/model/IdChunks") (nm := "get") rfl rfl (L := #[.val (.ref a), .val (.long d0), .second, .unset, .unset]) (fun m => by first | (simp [entryFrame, mkF, argsToLocals, Value.category]; done) | rfl) ?_
  intro pp ee ss mm bb mtd cc T0 K X0
  have E0 := X0.ext0
  refine o_aloadN K X0 d_get1_4_0 (pc' := 1) rfl rfl rfl ?_
  refine o_lloadN K X0 d_get1_4_1 (pc' := 2) rfl rfl ?_
  refine o_private K X0 (y := (⟨"com/example/rosterlink/rosterlink/model/IdChunks", "chunkFor", "(J)I"⟩ : MethodName)) (w34 hw) (w35 hw) (oSelects (w8 hw) (w35 hw) (w36 hw) (by decide)) (w36 hw) (w3 hw) (w37 hw) (by decide) q0 (rm_cf1_4 l Z a0 hw a c kc x kx d0 d1 d2 d3 h0 q0 q1 q2 q3 q4 q5 q6) (by decide) rfl (argsL := [(.long d0)]) rfl (lenOf pd_get1_4_0 rfl) (W := 0) rfl (by decide) (by decide) (by decide) d_get1_4_2 (pc' := 5) rfl ?_
  intro v1 T1 h1 X1 U1
  obtain ⟨rfl, rfl⟩ := U1
  show oGoes pp ee bb ss Z T1 (mkF mm 5 #[.val (.ref a), .val (.long d0), .second, .unset, .unset] [(.int (0 : Int32))]) _ _ _
  refine o_istoreN K X1 d_get1_4_5 (pc' := 6) rfl (L' := #[.val (.ref a), .val (.long d0), .second, .val (.int (0 : Int32)), .unset]) rfl ?_
  refine o_iloadN K X1 d_get1_4_6 (pc' := 7) rfl rfl ?_
  refine o_aloadN K X1 d_get1_4_7 (pc' := 8) rfl rfl rfl ?_
  refine o_getfield K X1 (host := "") (Or.inl (w17 hw)) Via.refl q2 d_get1_4_8 (pc' := 11) rfl ?_
  intro T2 X2
  refine o_arraylength K X2 q4 (z := (1 : Int32)) rfl d_get1_4_11 (pc' := 12) rfl ?_
  refine o_icmp_ne_t K X2 d_get1_4_12 (by decide) (pc' := 17) (by decide) (by decide) ?_
  refine o_aloadN K X2 d_get1_4_17 (pc' := 18) rfl rfl rfl ?_
  refine o_aloadN K X2 d_get1_4_18 (pc' := 19) rfl rfl rfl ?_
  refine o_getfield K X2 (host := "") (Or.inl (w17 hw)) Via.refl q2 d_get1_4_19 (pc' := 22) rfl ?_
  intro T3 X3
  refine o_iloadN K X3 d_get1_4_22 (pc' := 23) rfl rfl ?_
  refine o_aaload K X3 rfl q4 (by decide) (v := (.ref x)) rfl d_get1_4_23 (pc' := 24) rfl ?_
  refine o_lloadN K X3 d_get1_4_24 (pc' := 25) rfl rfl ?_
  refine o_private K X3 (y := (⟨"com/example/rosterlink/rosterlink/model/IdChunks", "find", "([JJ)I"⟩ : MethodName)) (w71 hw) (w72 hw) (oSelects (w8 hw) (w72 hw) (w73 hw) (by decide)) (w73 hw) (w3 hw) (w74 hw) (by decide) q0 (rm_find4 l Z a0 hw a c kc x kx d0 d1 d2 d3 h0 q0 q1 q2 q3 q4 q5 q6) (by decide) rfl (argsL := [(.ref x), (.long d0)]) rfl (lenOf pd_get1_4_1 rfl) (W := 0) rfl (by decide) (by decide) (by decide) d_get1_4_25 (pc' := 28) rfl ?_
  intro v4 T4 h4 X4 U4
  obtain ⟨rfl, rfl⟩ := U4
  show oGoes pp ee bb ss Z T4 (mkF mm 28 #[.val (.ref a), .val (.long d0), .second, .val (.int (0 : Int32)), .unset] [(.int (0 : Int32))]) _ _ _
  refine o_istore K X4 d_get1_4_28 (pc' := 30) rfl (L' := #[.val (.ref a), .val (.long d0), .second, .val (.int (0 : Int32)), .val (.int (0 : Int32))]) rfl ?_
  refine o_iload K X4 d_get1_4_30 (pc' := 32) rfl rfl ?_
  refine o_if_ge_t K X4 d_get1_4_32 (by decide) (pc' := 39) (by decide) (by decide) ?_
  refine o_aloadN K X4 d_get1_4_39 (pc' := 40) rfl rfl rfl ?_
  refine o_getfield K X4 (host := "") (Or.inl (w17 hw)) Via.refl q2 d_get1_4_40 (pc' := 43) rfl ?_
  intro T5 X5
  refine o_iloadN K X5 d_get1_4_43 (pc' := 44) rfl rfl ?_
  refine o_aaload K X5 rfl q4 (by decide) (v := (.ref x)) rfl d_get1_4_44 (pc' := 45) rfl ?_
  refine o_iload K X5 d_get1_4_45 (pc' := 47) rfl rfl ?_
  refine o_aloadN K X5 d_get1_4_47 (pc' := 48) rfl rfl rfl ?_
  refine o_getfield K X5 (host := "") (Or.inl (w15 hw)) Via.refl q1 d_get1_4_48 (pc' := 51) rfl ?_
  intro T6 X6
  refine o_imul K X6 d_get1_4_51 (pc' := 52) rfl (z := (0 : Int32)) (by decide) ?_
  refine o_iload K X6 d_get1_4_52 (pc' := 54) rfl rfl ?_
  refine o_iconst K X6 d_get1_4_54 (pc' := 55) rfl (z := (1 : Int32)) rfl ?_
  refine o_iadd K X6 d_get1_4_55 (pc' := 56) rfl (z := (1 : Int32)) (by decide) ?_
  refine o_aloadN K X6 d_get1_4_56 (pc' := 57) rfl rfl rfl ?_
  refine o_getfield K X6 (host := "") (Or.inl (w15 hw)) Via.refl q1 d_get1_4_57 (pc' := 60) rfl ?_
  intro T7 X7
  refine o_imul K X7 d_get1_4_60 (pc' := 61) rfl (z := (4 : Int32)) (by decide) ?_
  refine o_static K X7 (y := (⟨"java/util/Arrays", "copyOfRange", "([JII)[J"⟩ : MethodName)) (w75 hw) (w76 hw) (w77 hw) (w78 hw) (by decide) (rm_cor4 l Z a0 hw x kx d0 d1 d2 d3 h0 q5 q6) (by decide) rfl (argsL := [(.ref x), (.int (0 : Int32)), (.int (4 : Int32))]) rfl (lenOf pd_get1_4_2 rfl) (W := 0) rfl (by decide) (by decide) (by decide) d_get1_4_61 (pc' := 64) rfl ?_
  intro v8 T8 h8 X8 U8
  obtain ⟨r_8, k_8, rfl, u8_0, u8_1, u8_2, u8_3⟩ := U8
  have G8_r : Z.heap.size ≤ r_8 := Nat.le_trans (Nat.le_trans E0.1 (Nat.le_refl _)) u8_1
  show oGoes pp ee bb ss Z T8 (mkF mm 64 #[.val (.ref a), .val (.long d0), .second, .val (.int (0 : Int32)), .val (.int (0 : Int32))] [(.ref r_8)]) _ _ _
  refine o_areturn K X8 (t := (.array .long)) d_get1_4_64 rfl rfl rfl ?_ (by decide) (by decide)
  exact ⟨r_8, k_8, rfl, ((Keep.refl h0 []).trans u8_0 all0), u8_1, u8_2, u8_3⟩
theorem d_ents4_0 : decode prog_25_method_12_code 0 = .ok (.aload_n 0, 1) := by decide +kernel
theorem d_ents4_1 : decode prog_25_method_12_code 1 = .ok (.getfield 17, 3) := by decide +kernel
theorem d_ents4_4 : decode prog_25_method_12_code 4 = .ok (.aload_n 0, 1) := by decide +kernel
theorem d_ents4_5 : decode prog_25_method_12_code 5 = .ok (.getfield 7, 3) := by decide +kernel
theorem d_ents4_8 : decode prog_25_method_12_code 8 = .ok (.imul, 1) := by decide +kernel
theorem d_ents4_9 : decode prog_25_method_12_code 9 = .ok (.newarray .long, 2) := by decide +kernel
theorem d_ents4_11 : decode prog_25_method_12_code 11 = .ok (.astore_n 1, 1) := by decide +kernel
theorem d_ents4_12 : decode prog_25_method_12_code 12 = .ok (.iconst 0, 1) := by decide +kernel
theorem d_ents4_13 : decode prog_25_method_12_code 13 = .ok (.istore_n 2, 1) := by decide +kernel
theorem d_ents4_14 : decode prog_25_method_12_code 14 = .ok (.aload_n 0, 1) := by decide +kernel
theorem d_ents4_15 : decode prog_25_method_12_code 15 = .ok (.getfield 13, 3) := by decide +kernel
theorem d_ents4_18 : decode prog_25_method_12_code 18 = .ok (.astore_n 3, 1) := by decide +kernel
theorem d_ents4_19 : decode prog_25_method_12_code 19 = .ok (.aload_n 3, 1) := by decide +kernel
theorem d_ents4_20 : decode prog_25_method_12_code 20 = .ok (.arraylength, 1) := by decide +kernel
theorem d_ents4_21 : decode prog_25_method_12_code 21 = .ok (.istore 4, 2) := by decide +kernel
theorem d_ents4_23 : decode prog_25_method_12_code 23 = .ok (.iconst 0, 1) := by decide +kernel
theorem d_ents4_24 : decode prog_25_method_12_code 24 = .ok (.istore 5, 2) := by decide +kernel
theorem d_ents4_26 : decode prog_25_method_12_code 26 = .ok (.iload 5, 2) := by decide +kernel
theorem d_ents4_28 : decode prog_25_method_12_code 28 = .ok (.iload 4, 2) := by decide +kernel
theorem d_ents4_30 : decode prog_25_method_12_code 30 = .ok (.if_icmp .ge 32, 3) := by decide +kernel
theorem d_ents4_33 : decode prog_25_method_12_code 33 = .ok (.aload_n 3, 1) := by decide +kernel
theorem d_ents4_34 : decode prog_25_method_12_code 34 = .ok (.iload 5, 2) := by decide +kernel
theorem d_ents4_36 : decode prog_25_method_12_code 36 = .ok (.aaload, 1) := by decide +kernel
theorem d_ents4_37 : decode prog_25_method_12_code 37 = .ok (.astore 6, 2) := by decide +kernel
theorem d_ents4_39 : decode prog_25_method_12_code 39 = .ok (.aload 6, 2) := by decide +kernel
theorem d_ents4_41 : decode prog_25_method_12_code 41 = .ok (.iconst 0, 1) := by decide +kernel
theorem d_ents4_42 : decode prog_25_method_12_code 42 = .ok (.aload_n 1, 1) := by decide +kernel
theorem d_ents4_43 : decode prog_25_method_12_code 43 = .ok (.iload_n 2, 1) := by decide +kernel
theorem d_ents4_44 : decode prog_25_method_12_code 44 = .ok (.aload 6, 2) := by decide +kernel
theorem d_ents4_46 : decode prog_25_method_12_code 46 = .ok (.arraylength, 1) := by decide +kernel
theorem d_ents4_47 : decode prog_25_method_12_code 47 = .ok (.invokestatic 53, 3) := by decide +kernel
theorem d_ents4_50 : decode prog_25_method_12_code 50 = .ok (.iload_n 2, 1) := by decide +kernel
theorem d_ents4_51 : decode prog_25_method_12_code 51 = .ok (.aload 6, 2) := by decide +kernel
theorem d_ents4_53 : decode prog_25_method_12_code 53 = .ok (.arraylength, 1) := by decide +kernel
theorem d_ents4_54 : decode prog_25_method_12_code 54 = .ok (.iadd, 1) := by decide +kernel
theorem d_ents4_55 : decode prog_25_method_12_code 55 = .ok (.istore_n 2, 1) := by decide +kernel
theorem d_ents4_56 : decode prog_25_method_12_code 56 = .ok (.iinc 5 1, 3) := by decide +kernel
theorem d_ents4_59 : decode prog_25_method_12_code 59 = .ok (.goto (-33), 3) := by decide +kernel
theorem d_ents4_62 : decode prog_25_method_12_code 62 = .ok (.aload_n 1, 1) := by decide +kernel
theorem d_ents4_63 : decode prog_25_method_12_code 63 = .ok (.areturn, 1) := by decide +kernel
def r_ents4 : Room := { frames := 1, cells := 1, slots := 4, locals := 18 }
def Q_ents4 (Z : State) (a : Addr) (c : Addr) (kc : ClassId) (x : Addr) (kx : ClassId) (d0 : Int64) (d1 : Int64) (d2 : Int64) (d3 : Int64) (h0 : Heap) (v : Option Value) (h : Heap) : Prop := ∃ r : Addr, ∃ k : ClassId, v = some (.ref r) ∧ Keep h0 h [] ∧ h0.size ≤ r ∧ oArr Z h r k .long [(.long d0), (.long d1), (.long d2), (.long d3)]
set_option maxRecDepth 65536 in
set_option maxHeartbeats 40000000 in
theorem rm_ents4 (l : Launch) (Z : State) (a0 : Array Value) (hw : oHw Z a0) (a : Addr) (c : Addr) (kc : ClassId) (x : Addr) (kx : ClassId) (d0 : Int64) (d1 : Int64) (d2 : Int64) (d3 : Int64) (h0 : Heap) (q0 : Exa Z h0 a "com/example/rosterlink/rosterlink/model/IdChunks") (q1 : Fld Z h0 a "com/example/rosterlink/rosterlink/model/IdChunks" "width" "I" (.int (4 : Int32))) (q2 : Fld Z h0 a "com/example/rosterlink/rosterlink/model/IdChunks" "chunks" "[[J" (.ref c)) (q3 : Fld Z h0 a "com/example/rosterlink/rosterlink/model/IdChunks" "size" "I" (.int (1 : Int32))) (q4 : oArr Z h0 c kc (.array .long) [(.ref x)]) (q5 : oArr Z h0 x kx .long [(.long d0), (.long d1), (.long d2), (.long d3)]) (q6 : Exa Z h0 x "[J") : oMet l Z (⟨"com/example/rosterlink/rosterlink/model/IdChunks", "entries", "()[J"⟩ : MethodName) prog_25_method_12_code 7 (some (.array .long)) r_ents4 [] #[(.ref a)] h0 (Q_ents4 Z a c kc x kx d0 d1 d2 d3 h0) := by
  refine oEnter (plainFor_of_name (by first | (simp [plainName, overriddenIn]; done) | decide +kernel)) (own := "com/example/rosterlink/rosterlink/model/IdChunks") (nm := "entries") rfl rfl (L := #[.val (.ref a), .unset, .unset, .unset, .unset, .unset, .unset]) (fun m => by first | (simp [entryFrame, mkF, argsToLocals, Value.category]; done) | rfl) ?_
  intro pp ee ss mm bb mtd cc T0 K X0
  have E0 := X0.ext0
  refine o_aloadN K X0 d_ents4_0 (pc' := 1) rfl rfl rfl ?_
  refine o_getfield K X0 (host := "") (Or.inl (w19 hw)) Via.refl q3 d_ents4_1 (pc' := 4) rfl ?_
  intro T1 X1
  refine o_aloadN K X1 d_ents4_4 (pc' := 5) rfl rfl rfl ?_
  refine o_getfield K X1 (host := "") (Or.inl (w15 hw)) Via.refl q1 d_ents4_5 (pc' := 8) rfl ?_
  intro T2 X2
  refine o_imul K X2 d_ents4_8 (pc' := 9) rfl (z := (4 : Int32)) (by decide) ?_
  refine o_newarray K X2 (aty := .long) 4 (w0 hw) (ad := "[J") (by decide +kernel) (by decide) (by decide) (by decide) rfl d_ents4_9 (pc' := 11) rfl (by decide) (by decide) ?_
  intro T3 h3 b3 k3 X3 g3 E3 A3 B3 G3
  replace A3 : oArr Z h3 b3 k3 .long [(.long (0 : Int64)), (.long (0 : Int64)), (.long (0 : Int64)), (.long (0 : Int64))] := A3
  refine o_astoreN K X3 d_ents4_11 (pc' := 12) rfl rfl (L' := #[.val (.ref a), .val (.ref b3), .unset, .unset, .unset, .unset, .unset]) rfl ?_
  refine o_iconst K X3 d_ents4_12 (pc' := 13) rfl (z := (0 : Int32)) rfl ?_
  refine o_istoreN K X3 d_ents4_13 (pc' := 14) rfl (L' := #[.val (.ref a), .val (.ref b3), .val (.int (0 : Int32)), .unset, .unset, .unset, .unset]) rfl ?_
  refine o_aloadN K X3 d_ents4_14 (pc' := 15) rfl rfl rfl ?_
  refine o_getfield K X3 (host := "") (Or.inl (w17 hw)) Via.refl (q2.ext E3) d_ents4_15 (pc' := 18) rfl ?_
  intro T4 X4
  refine o_astoreN K X4 d_ents4_18 (pc' := 19) rfl rfl (L' := #[.val (.ref a), .val (.ref b3), .val (.int (0 : Int32)), .val (.ref c), .unset, .unset, .unset]) rfl ?_
  refine o_aloadN K X4 d_ents4_19 (pc' := 20) rfl rfl rfl ?_
  refine o_arraylength K X4 (q4.ext E3) (z := (1 : Int32)) rfl d_ents4_20 (pc' := 21) rfl ?_
  refine o_istore K X4 d_ents4_21 (pc' := 23) rfl (L' := #[.val (.ref a), .val (.ref b3), .val (.int (0 : Int32)), .val (.ref c), .val (.int (1 : Int32)), .unset, .unset]) rfl ?_
  refine o_iconst K X4 d_ents4_23 (pc' := 24) rfl (z := (0 : Int32)) rfl ?_
  refine o_istore K X4 d_ents4_24 (pc' := 26) rfl (L' := #[.val (.ref a), .val (.ref b3), .val (.int (0 : Int32)), .val (.ref c), .val (.int (1 : Int32)), .val (.int (0 : Int32)), .unset]) rfl ?_
  refine o_iload K X4 d_ents4_26 (pc' := 28) rfl rfl ?_
  refine o_iload K X4 d_ents4_28 (pc' := 30) rfl rfl ?_
  refine o_icmp_ge_f K X4 d_ents4_30 (pc' := 33) rfl (by decide) ?_
  refine o_aloadN K X4 d_ents4_33 (pc' := 34) rfl rfl rfl ?_
  refine o_iload K X4 d_ents4_34 (pc' := 36) rfl rfl ?_
  refine o_aaload K X4 rfl (q4.ext E3) (by decide) (v := (.ref x)) rfl d_ents4_36 (pc' := 37) rfl ?_
  refine o_astore K X4 d_ents4_37 (pc' := 39) rfl rfl (L' := #[.val (.ref a), .val (.ref b3), .val (.int (0 : Int32)), .val (.ref c), .val (.int (1 : Int32)), .val (.int (0 : Int32)), .val (.ref x)]) rfl ?_
  refine o_aload K X4 d_ents4_39 (pc' := 41) rfl rfl rfl ?_
  refine o_iconst K X4 d_ents4_41 (pc' := 42) rfl (z := (0 : Int32)) rfl ?_
  refine o_aloadN K X4 d_ents4_42 (pc' := 43) rfl rfl rfl ?_
  refine o_iloadN K X4 d_ents4_43 (pc' := 44) rfl rfl ?_
  refine o_aload K X4 d_ents4_44 (pc' := 46) rfl rfl rfl ?_
  refine o_arraylength K X4 (q5.ext E3) (z := (4 : Int32)) rfl d_ents4_46 (pc' := 47) rfl ?_
  refine o_arraycopy K X4 [(.long d0), (.long d1), (.long d2), (.long d3)] [(.long d0), (.long d1), (.long d2), (.long d3)] (w90 hw) (w93 hw) (w91 hw) (w92 hw) (q5.ext E3) A3 (Or.inl ⟨rfl, rfl⟩) (by decide) (by decide) (by decide) (show (0 : Int32).toNatClampNeg + (4 : Int32).toNatClampNeg ≤ 4 from (by decide)) (show (0 : Int32).toNatClampNeg + (4 : Int32).toNatClampNeg ≤ 4 from (by decide)) rfl rfl rfl G3 d_ents4_47 (pc' := 50) rfl rfl (by decide) (W := 0) rfl (by decide) ?_
  intro T5 h5 X5 K5 A5
  refine o_iloadN K X5 d_ents4_50 (pc' := 51) rfl rfl ?_
  refine o_aload K X5 d_ents4_51 (pc' := 53) rfl rfl rfl ?_
  refine o_arraylength K X5 ((q5.ext E3).keep K5 (ninS (Nat.ne_of_lt (Nat.lt_of_lt_of_le q5.lt (Nat.le_of_eq g3.symm))) nin0)) (z := (4 : Int32)) rfl d_ents4_53 (pc' := 54) rfl ?_
  refine o_iadd K X5 d_ents4_54 (pc' := 55) rfl (z := (4 : Int32)) (by decide) ?_
  refine o_istoreN K X5 d_ents4_55 (pc' := 56) rfl (L' := #[.val (.ref a), .val (.ref b3), .val (.int (4 : Int32)), .val (.ref c), .val (.int (1 : Int32)), .val (.int (0 : Int32)), .val (.ref x)]) rfl ?_
  refine o_iinc K X5 d_ents4_56 (pc' := 59) rfl rfl (L' := #[.val (.ref a), .val (.ref b3), .val (.int (4 : Int32)), .val (.ref c), .val (.int (1 : Int32)), .val (.int (1 : Int32)), .val (.ref x)]) (by rw [show (0 : Int32) + Int32.ofInt 1 = (1 : Int32) from (by decide)]; rfl) ?_
  refine o_goto K X5 d_ents4_59 (by decide) (pc' := 26) (by decide) ?_
  refine o_iload K X5 d_ents4_26 (pc' := 28) rfl rfl ?_
  refine o_iload K X5 d_ents4_28 (pc' := 30) rfl rfl ?_
  refine o_icmp_ge_t K X5 d_ents4_30 (by decide) (pc' := 62) (by decide) (by decide) ?_
  refine o_aloadN K X5 d_ents4_62 (pc' := 63) rfl rfl rfl ?_
  refine o_areturn K X5 (t := (.array .long)) d_ents4_63 rfl rfl rfl ?_ (by decide) (by decide)
  exact ⟨b3, k3, rfl, (((Keep.refl h0 []).ext E3).trans K5 (allS (Or.inr (Nat.le_of_eq g3.symm)) all0)), (Nat.le_of_eq g3.symm), A5⟩
theorem d_same4_0 : decode method_3_code 0 = .ok (.aload_n 0, 1) := by decide +kernel
theorem d_same4_1 : decode method_3_code 1 = .ok (.arraylength, 1) := by decide +kernel
theorem d_same4_2 : decode method_3_code 2 = .ok (.aload_n 1, 1) := by decide +kernel
theorem d_same4_3 : decode method_3_code 3 = .ok (.arraylength, 1) := by decide +kernel
theorem d_same4_4 : decode method_3_code 4 = .ok (.if_icmp .eq 5, 3) := by decide +kernel
theorem d_same4_9 : decode method_3_code 9 = .ok (.aload_n 0, 1) := by decide +kernel
theorem d_same4_10 : decode method_3_code 10 = .ok (.arraylength, 1) := by decide +kernel
theorem d_same4_11 : decode method_3_code 11 = .ok (.istore_n 2, 1) := by decide +kernel
theorem d_same4_12 : decode method_3_code 12 = .ok (.iload_n 2, 1) := by decide +kernel
theorem d_same4_13 : decode method_3_code 13 = .ok (.iconst 4, 1) := by decide +kernel
theorem d_same4_14 : decode method_3_code 14 = .ok (.if_icmp .le 5, 3) := by decide +kernel
theorem d_same4_19 : decode method_3_code 19 = .ok (.iload_n 2, 1) := by decide +kernel
theorem d_same4_20 : decode method_3_code 20 = .ok (.iconst 1, 1) := by decide +kernel
theorem d_same4_21 : decode method_3_code 21 = .ok (.if_icmp .lt 15, 3) := by decide +kernel
theorem d_same4_24 : decode method_3_code 24 = .ok (.aload_n 0, 1) := by decide +kernel
theorem d_same4_25 : decode method_3_code 25 = .ok (.iconst 0, 1) := by decide +kernel
theorem d_same4_26 : decode method_3_code 26 = .ok (.laload, 1) := by decide +kernel
theorem d_same4_27 : decode method_3_code 27 = .ok (.aload_n 1, 1) := by decide +kernel
theorem d_same4_28 : decode method_3_code 28 = .ok (.iconst 0, 1) := by decide +kernel
theorem d_same4_29 : decode method_3_code 29 = .ok (.laload, 1) := by decide +kernel
theorem d_same4_30 : decode method_3_code 30 = .ok (.lcmp, 1) := by decide +kernel
theorem d_same4_31 : decode method_3_code 31 = .ok (.ifCond .eq 5, 3) := by decide +kernel
theorem d_same4_36 : decode method_3_code 36 = .ok (.iload_n 2, 1) := by decide +kernel
theorem d_same4_37 : decode method_3_code 37 = .ok (.iconst 2, 1) := by decide +kernel
theorem d_same4_38 : decode method_3_code 38 = .ok (.if_icmp .lt 15, 3) := by decide +kernel
theorem d_same4_41 : decode method_3_code 41 = .ok (.aload_n 0, 1) := by decide +kernel
theorem d_same4_42 : decode method_3_code 42 = .ok (.iconst 1, 1) := by decide +kernel
theorem d_same4_43 : decode method_3_code 43 = .ok (.laload, 1) := by decide +kernel
theorem d_same4_44 : decode method_3_code 44 = .ok (.aload_n 1, 1) := by decide +kernel
theorem d_same4_45 : decode method_3_code 45 = .ok (.iconst 1, 1) := by decide +kernel
theorem d_same4_46 : decode method_3_code 46 = .ok (.laload, 1) := by decide +kernel
theorem d_same4_47 : decode method_3_code 47 = .ok (.lcmp, 1) := by decide +kernel
theorem d_same4_48 : decode method_3_code 48 = .ok (.ifCond .eq 5, 3) := by decide +kernel
theorem d_same4_53 : decode method_3_code 53 = .ok (.iload_n 2, 1) := by decide +kernel
theorem d_same4_54 : decode method_3_code 54 = .ok (.iconst 3, 1) := by decide +kernel
theorem d_same4_55 : decode method_3_code 55 = .ok (.if_icmp .lt 15, 3) := by decide +kernel
theorem d_same4_58 : decode method_3_code 58 = .ok (.aload_n 0, 1) := by decide +kernel
theorem d_same4_59 : decode method_3_code 59 = .ok (.iconst 2, 1) := by decide +kernel
theorem d_same4_60 : decode method_3_code 60 = .ok (.laload, 1) := by decide +kernel
theorem d_same4_61 : decode method_3_code 61 = .ok (.aload_n 1, 1) := by decide +kernel
theorem d_same4_62 : decode method_3_code 62 = .ok (.iconst 2, 1) := by decide +kernel
theorem d_same4_63 : decode method_3_code 63 = .ok (.laload, 1) := by decide +kernel
theorem d_same4_64 : decode method_3_code 64 = .ok (.lcmp, 1) := by decide +kernel
theorem d_same4_65 : decode method_3_code 65 = .ok (.ifCond .eq 5, 3) := by decide +kernel
theorem d_same4_70 : decode method_3_code 70 = .ok (.iload_n 2, 1) := by decide +kernel
theorem d_same4_71 : decode method_3_code 71 = .ok (.iconst 4, 1) := by decide +kernel
theorem d_same4_72 : decode method_3_code 72 = .ok (.if_icmp .lt 15, 3) := by decide +kernel
theorem d_same4_75 : decode method_3_code 75 = .ok (.aload_n 0, 1) := by decide +kernel
theorem d_same4_76 : decode method_3_code 76 = .ok (.iconst 3, 1) := by decide +kernel
theorem d_same4_77 : decode method_3_code 77 = .ok (.laload, 1) := by decide +kernel
theorem d_same4_78 : decode method_3_code 78 = .ok (.aload_n 1, 1) := by decide +kernel
theorem d_same4_79 : decode method_3_code 79 = .ok (.iconst 3, 1) := by decide +kernel
theorem d_same4_80 : decode method_3_code 80 = .ok (.laload, 1) := by decide +kernel
theorem d_same4_81 : decode method_3_code 81 = .ok (.lcmp, 1) := by decide +kernel
theorem d_same4_82 : decode method_3_code 82 = .ok (.ifCond .eq 5, 3) := by decide +kernel
theorem d_same4_87 : decode method_3_code 87 = .ok (.iconst 1, 1) := by decide +kernel
theorem d_same4_88 : decode method_3_code 88 = .ok (.ireturn, 1) := by decide +kernel
def r_same4 : Room := { frames := 0, cells := 0, slots := 0, locals := 0 }
def Q_same4 (Z : State) (a : Addr) (ka : ClassId) (b : Addr) (kb : ClassId) (d0 : Int64) (d1 : Int64) (d2 : Int64) (d3 : Int64) (h0 : Heap) (v : Option Value) (h : Heap) : Prop := v = some (.int (1 : Int32)) ∧ h0 = h
set_option maxRecDepth 65536 in
set_option maxHeartbeats 40000000 in
theorem rm_same4 (l : Launch) (Z : State) (a0 : Array Value) (hw : oHw Z a0) (a : Addr) (ka : ClassId) (b : Addr) (kb : ClassId) (d0 : Int64) (d1 : Int64) (d2 : Int64) (d3 : Int64) (h0 : Heap) (q0 : oArr Z h0 a ka .long [(.long d0), (.long d1), (.long d2), (.long d3)]) (q1 : oArr Z h0 b kb .long [(.long d0), (.long d1), (.long d2), (.long d3)]) : oMet l Z (⟨"com/example/rosterlink/rosterlink/model/IdChunksEmptyPinLaw", "same", "([J[J)Z"⟩ : MethodName) method_3_code 3 (some .boolean) r_same4 [] #[(.ref a), (.ref b)] h0 (Q_same4 Z a ka b kb d0 d1 d2 d3 h0) := by
  refine oEnter (plainFor_of_name (by first | (simp [plainName, overriddenIn]; done) | decide +kernel)) (own := "com/example/rosterlink/rosterlink/model/IdChunksEmptyPinLaw") (nm := "same") rfl rfl (L := #[.val (.ref a), .val (.ref b), .unset]) (fun m => by first | (simp [entryFrame, mkF, argsToLocals, Value.category]; done) | rfl) ?_
  intro pp ee ss mm bb mtd cc T0 K X0
  have E0 := X0.ext0
  refine o_aloadN K X0 d_same4_0 (pc' := 1) rfl rfl rfl ?_
  refine o_arraylength K X0 q0 (z := (4 : Int32)) rfl d_same4_1 (pc' := 2) rfl ?_
  refine o_aloadN K X0 d_same4_2 (pc' := 3) rfl rfl rfl ?_
  refine o_arraylength K X0 q1 (z := (4 : Int32)) rfl d_same4_3 (pc' := 4) rfl ?_
  refine o_icmp_eq_t K X0 d_same4_4 (by decide) (pc' := 9) (by decide) (by decide) ?_
  refine o_aloadN K X0 d_same4_9 (pc' := 10) rfl rfl rfl ?_
  refine o_arraylength K X0 q0 (z := (4 : Int32)) rfl d_same4_10 (pc' := 11) rfl ?_
  refine o_istoreN K X0 d_same4_11 (pc' := 12) rfl (L' := #[.val (.ref a), .val (.ref b), .val (.int (4 : Int32))]) rfl ?_
  refine o_iloadN K X0 d_same4_12 (pc' := 13) rfl rfl ?_
  refine o_iconst K X0 d_same4_13 (pc' := 14) rfl (z := (4 : Int32)) rfl ?_
  refine o_icmp_le_t K X0 d_same4_14 (by decide) (pc' := 19) (by decide) (by decide) ?_
  refine o_iloadN K X0 d_same4_19 (pc' := 20) rfl rfl ?_
  refine o_iconst K X0 d_same4_20 (pc' := 21) rfl (z := (1 : Int32)) rfl ?_
  refine o_icmp_lt_f K X0 d_same4_21 (pc' := 24) rfl (by decide) ?_
  refine o_aloadN K X0 d_same4_24 (pc' := 25) rfl rfl rfl ?_
  refine o_iconst K X0 d_same4_25 (pc' := 26) rfl (z := (0 : Int32)) rfl ?_
  refine o_laload K X0 q0 (by decide) (v := (.long d0)) rfl d_same4_26 (pc' := 27) rfl ?_
  refine o_aloadN K X0 d_same4_27 (pc' := 28) rfl rfl rfl ?_
  refine o_iconst K X0 d_same4_28 (pc' := 29) rfl (z := (0 : Int32)) rfl ?_
  refine o_laload K X0 q1 (by decide) (v := (.long d0)) rfl d_same4_29 (pc' := 30) rfl ?_
  refine o_lcmp K X0 d_same4_30 (pc' := 31) rfl (z := (0 : Int32)) (oLcmp _) ?_
  refine o_if_eq_t K X0 d_same4_31 (by decide) (pc' := 36) (by decide) (by decide) ?_
  refine o_iloadN K X0 d_same4_36 (pc' := 37) rfl rfl ?_
  refine o_iconst K X0 d_same4_37 (pc' := 38) rfl (z := (2 : Int32)) rfl ?_
  refine o_icmp_lt_f K X0 d_same4_38 (pc' := 41) rfl (by decide) ?_
  refine o_aloadN K X0 d_same4_41 (pc' := 42) rfl rfl rfl ?_
  refine o_iconst K X0 d_same4_42 (pc' := 43) rfl (z := (1 : Int32)) rfl ?_
  refine o_laload K X0 q0 (by decide) (v := (.long d1)) rfl d_same4_43 (pc' := 44) rfl ?_
  refine o_aloadN K X0 d_same4_44 (pc' := 45) rfl rfl rfl ?_
  refine o_iconst K X0 d_same4_45 (pc' := 46) rfl (z := (1 : Int32)) rfl ?_
  refine o_laload K X0 q1 (by decide) (v := (.long d1)) rfl d_same4_46 (pc' := 47) rfl ?_
  refine o_lcmp K X0 d_same4_47 (pc' := 48) rfl (z := (0 : Int32)) (oLcmp _) ?_
  refine o_if_eq_t K X0 d_same4_48 (by decide) (pc' := 53) (by decide) (by decide) ?_
  refine o_iloadN K X0 d_same4_53 (pc' := 54) rfl rfl ?_
  refine o_iconst K X0 d_same4_54 (pc' := 55) rfl (z := (3 : Int32)) rfl ?_
  refine o_icmp_lt_f K X0 d_same4_55 (pc' := 58) rfl (by decide) ?_
  refine o_aloadN K X0 d_same4_58 (pc' := 59) rfl rfl rfl ?_
  refine o_iconst K X0 d_same4_59 (pc' := 60) rfl (z := (2 : Int32)) rfl ?_
  refine o_laload K X0 q0 (by decide) (v := (.long d2)) rfl d_same4_60 (pc' := 61) rfl ?_
  refine o_aloadN K X0 d_same4_61 (pc' := 62) rfl rfl rfl ?_
  refine o_iconst K X0 d_same4_62 (pc' := 63) rfl (z := (2 : Int32)) rfl ?_
  refine o_laload K X0 q1 (by decide) (v := (.long d2)) rfl d_same4_63 (pc' := 64) rfl ?_
  refine o_lcmp K X0 d_same4_64 (pc' := 65) rfl (z := (0 : Int32)) (oLcmp _) ?_
  refine o_if_eq_t K X0 d_same4_65 (by decide) (pc' := 70) (by decide) (by decide) ?_
  refine o_iloadN K X0 d_same4_70 (pc' := 71) rfl rfl ?_
  refine o_iconst K X0 d_same4_71 (pc' := 72) rfl (z := (4 : Int32)) rfl ?_
  refine o_icmp_lt_f K X0 d_same4_72 (pc' := 75) rfl (by decide) ?_
  refine o_aloadN K X0 d_same4_75 (pc' := 76) rfl rfl rfl ?_
  refine o_iconst K X0 d_same4_76 (pc' := 77) rfl (z := (3 : Int32)) rfl ?_
  refine o_laload K X0 q0 (by decide) (v := (.long d3)) rfl d_same4_77 (pc' := 78) rfl ?_
  refine o_aloadN K X0 d_same4_78 (pc' := 79) rfl rfl rfl ?_
  refine o_iconst K X0 d_same4_79 (pc' := 80) rfl (z := (3 : Int32)) rfl ?_
  refine o_laload K X0 q1 (by decide) (v := (.long d3)) rfl d_same4_80 (pc' := 81) rfl ?_
  refine o_lcmp K X0 d_same4_81 (pc' := 82) rfl (z := (0 : Int32)) (oLcmp _) ?_
  refine o_if_eq_t K X0 d_same4_82 (by decide) (pc' := 87) (by decide) (by decide) ?_
  refine o_iconst K X0 d_same4_87 (pc' := 88) rfl (z := (1 : Int32)) rfl ?_
  refine o_ireturnN K X0 .boolean d_same4_88 rfl (by simp) (z' := (1 : Int32)) (by decide) ?_ (by decide) (by decide)
  exact ⟨rfl, rfl⟩
theorem pd_law_0 : parseMethodDescriptor "(I[J)Lcom/example/rosterlink/rosterlink/model/IdChunks;" = some ⟨[.int, (.array .long)], some (.object "com/example/rosterlink/rosterlink/model/IdChunks")⟩ := by decide +kernel
theorem pd_law_1 : parseMethodDescriptor "(I)Lcom/example/rosterlink/rosterlink/model/IdChunks;" = some ⟨[.int], some (.object "com/example/rosterlink/rosterlink/model/IdChunks")⟩ := by decide +kernel
theorem pd_law_2 : parseMethodDescriptor "()I" = some ⟨[], some .int⟩ := by decide +kernel
theorem pd_law_3 : parseMethodDescriptor "(J)Z" = some ⟨[.long], some .boolean⟩ := by decide +kernel
theorem pd_law_4 : parseMethodDescriptor "(J)[J" = some ⟨[.long], some (.array .long)⟩ := by decide +kernel
theorem pd_law_5 : parseMethodDescriptor "(J)Lcom/example/rosterlink/rosterlink/model/IdChunks;" = some ⟨[.long], some (.object "com/example/rosterlink/rosterlink/model/IdChunks")⟩ := by decide +kernel
theorem pd_law_6 : parseMethodDescriptor "(Ljava/lang/Object;)Z" = some ⟨[(.object "java/lang/Object")], some .boolean⟩ := by decide +kernel
theorem pd_law_7 : parseMethodDescriptor "([J)Lcom/example/rosterlink/rosterlink/model/IdChunks;" = some ⟨[(.array .long)], some (.object "com/example/rosterlink/rosterlink/model/IdChunks")⟩ := by decide +kernel
theorem pd_law_8 : parseMethodDescriptor "([J[J)Z" = some ⟨[(.array .long), (.array .long)], some .boolean⟩ := by decide +kernel
theorem pd_law_9 : parseMethodDescriptor "()[J" = some ⟨[], some (.array .long)⟩ := by decide +kernel
def Q_law (Z : State) (i0 : Int32) (i1 : Int64) (i2 : Int64) (i3 : Int64) (i4 : Int64) (h0 : Heap) (v : Option Value) (h : Heap) : Prop := v = some (.int (1 : Int32))
set_option maxRecDepth 65536 in
set_option maxHeartbeats 40000000 in
theorem rm_law (l : Launch) (Z : State) (a0 : Array Value) (hw : oHw Z a0) (i0 : Int32) (i1 : Int64) (i2 : Int64) (i3 : Int64) (i4 : Int64) (h0 : Heap) (ws : List Jvm.Cond) : oMet l Z x code maxLocals ret room_1 ws #[(.int i0), (.long i1), (.long i2), (.long i3), (.long i4)] h0 (Q_law Z i0 i1 i2 i3 i4 h0) := by
  refine oEnter (plainFor_of_name (by first | (simp [plainName, overriddenIn]; done) | decide +kernel)) (own := "com/example/rosterlink/rosterlink/model/IdChunksEmptyPinLaw") (nm := "law") rfl rfl (L := #[.val (.int i0), .val (.long i1), .second, .val (.long i2), .second, .val (.long i3), .second, .val (.long i4), .second, .unset, .unset, .unset, .unset, .unset, .unset, .unset]) (fun m => by first | (simp [entryFrame, mkF, argsToLocals, Value.category, maxLocals]; done) | rfl) ?_
  intro pp ee ss mm bb mtd cc T0 K X0
  have E0 := X0.ext0
  refine o_iconst K X0 at_0 (pc' := 1) rfl (z := (1 : Int32)) rfl ?_
  refine o_iloadN K X0 at_1 (pc' := 2) rfl rfl ?_
  refine o_iconst K X0 at_2 (pc' := 3) rfl (z := (3 : Int32)) rfl ?_
  refine o_iand K X0 at_3 (pc' := 4) rfl (z := (i0 &&& (3 : Int32))) rfl ?_
  rcases oAnd3 i0 with e0 | e1 | e2 | e3
  · refine o_iadd K X0 at_4 (pc' := 5) rfl (z := (1 : Int32)) (by rw [e0]; decide) ?_
    refine o_istore K X0 at_5 (pc' := 7) rfl (L' := #[.val (.int i0), .val (.long i1), .second, .val (.long i2), .second, .val (.long i3), .second, .val (.long i4), .second, .val (.int (1 : Int32)), .unset, .unset, .unset, .unset, .unset, .unset]) rfl ?_
    refine o_iload K X0 at_7 (pc' := 9) rfl rfl ?_
    refine o_iconst K X0 at_9 (pc' := 10) rfl (z := (1 : Int32)) rfl ?_
    refine o_icmp_ne_f K X0 at_10 (pc' := 13) rfl (by decide) ?_
    refine o_iconst K X0 at_13 (pc' := 14) rfl (z := (1 : Int32)) rfl ?_
    refine o_newarray K X0 (aty := .long) 1 (w0 hw) (ad := "[J") (by decide +kernel) (by decide) (by decide) (by decide) rfl at_14 (pc' := 16) rfl (by decide) (by decide) ?_
    intro T1 h1 b1 k1 X1 g1 E1 A1 B1 G1
    replace A1 : oArr Z h1 b1 k1 .long [(.long (0 : Int64))] := A1
    refine o_dup K X1 at_16 (pc' := 17) rfl rfl ?_
    refine o_iconst K X1 at_17 (pc' := 18) rfl (z := (0 : Int32)) rfl ?_
    refine o_lloadN K X1 at_18 (pc' := 19) rfl rfl ?_
    refine o_lastore K X1 A1 (by decide) (show (0 : Int32).toNatClampNeg < 1 from (by decide)) G1 (z := (.long i2)) rfl at_19 (pc' := 20) rfl ?_
    intro T2 h2 X2 W2 A2
    replace A2 : oArr Z h2 b1 k1 .long [(.long i2)] := A2
    refine o_astore K X2 at_20 (pc' := 22) rfl rfl (L' := #[.val (.int i0), .val (.long i1), .second, .val (.long i2), .second, .val (.long i3), .second, .val (.long i4), .second, .val (.int (1 : Int32)), .val (.ref b1), .unset, .unset, .unset, .unset, .unset]) rfl ?_
    refine o_goto K X2 at_22 (by decide) (pc' := 99) (by decide) ?_
    refine o_iload K X2 at_99 (pc' := 101) rfl rfl ?_
    refine o_iconst K X2 at_101 (pc' := 102) rfl (z := (0 : Int32)) rfl ?_
    refine o_newarray K X2 (aty := .long) 0 (w0 hw) (ad := "[J") (by decide +kernel) (by decide) (by decide) (by decide) rfl at_102 (pc' := 104) rfl (by decide) (by decide) ?_
    intro T3 h3 b3 k3 X3 g3 E3 A3 B3 G3
    replace A3 : oArr Z h3 b3 k3 .long [] := A3
    refine o_static K X3 (y := (⟨"com/example/rosterlink/rosterlink/model/IdChunks", "of", "(I[J)Lcom/example/rosterlink/rosterlink/model/IdChunks;"⟩ : MethodName)) (w1 hw) (w2 hw) (w3 hw) (w4 hw) (by decide) (rm_of1 l Z a0 hw b3 k3 h3 A3) (by decide) rfl (argsL := [(.int (1 : Int32)), (.ref b3)]) rfl (lenOf pd_law_0 rfl) (W := 0) rfl (by decide) (by decide) (by decide) at_104 (pc' := 107) rfl ?_
    intro v4 T4 h4 X4 U4
    obtain ⟨r_4, ch_4, k_4, rfl, u4_0, u4_1, u4_2, u4_3, u4_4, u4_5, u4_6, u4_7, u4_8⟩ := U4
    have G4_r : Z.heap.size ≤ r_4 := Nat.le_trans (Nat.le_trans E0.1 (Nat.le_trans (Nat.le_trans E1.1 (Keep.of_wr W2).1) E3.1)) u4_1
    have G4_ch : Z.heap.size ≤ ch_4 := Nat.le_trans (Nat.le_trans E0.1 (Nat.le_trans (Nat.le_trans E1.1 (Keep.of_wr W2).1) E3.1)) u4_6
    show oGoes pp ee bb ss Z T4 (mkF mm 107 #[.val (.int i0), .val (.long i1), .second, .val (.long i2), .second, .val (.long i3), .second, .val (.long i4), .second, .val (.int (1 : Int32)), .val (.ref b1), .unset, .unset, .unset, .unset, .unset] [(.ref r_4)]) _ _ _
    refine o_astore K X4 at_107 (pc' := 109) rfl rfl (L' := #[.val (.int i0), .val (.long i1), .second, .val (.long i2), .second, .val (.long i3), .second, .val (.long i4), .second, .val (.int (1 : Int32)), .val (.ref b1), .val (.ref r_4), .unset, .unset, .unset, .unset]) rfl ?_
    refine o_iload K X4 at_109 (pc' := 111) rfl rfl ?_
    refine o_static K X4 (y := (⟨"com/example/rosterlink/rosterlink/model/IdChunks", "empty", "(I)Lcom/example/rosterlink/rosterlink/model/IdChunks;"⟩ : MethodName)) (w21 hw) (w22 hw) (w3 hw) (w23 hw) (by decide) (rm_empty l Z a0 hw (1 : Int32) h4) (by decide) rfl (argsL := [(.int (1 : Int32))]) rfl (lenOf pd_law_1 rfl) (W := 0) rfl (by decide) (by decide) (by decide) at_111 (pc' := 114) rfl ?_
    intro v5 T5 h5 X5 U5
    obtain ⟨r_5, ch_5, k_5, rfl, u5_0, u5_1, u5_2, u5_3, u5_4, u5_5, u5_6, u5_7, u5_8⟩ := U5
    have G5_r : Z.heap.size ≤ r_5 := Nat.le_trans (Nat.le_trans E0.1 (Nat.le_trans (Nat.le_trans (Nat.le_trans E1.1 (Keep.of_wr W2).1) E3.1) u4_0.1)) u5_1
    have G5_ch : Z.heap.size ≤ ch_5 := Nat.le_trans (Nat.le_trans E0.1 (Nat.le_trans (Nat.le_trans (Nat.le_trans E1.1 (Keep.of_wr W2).1) E3.1) u4_0.1)) u5_6
    show oGoes pp ee bb ss Z T5 (mkF mm 114 #[.val (.int i0), .val (.long i1), .second, .val (.long i2), .second, .val (.long i3), .second, .val (.long i4), .second, .val (.int (1 : Int32)), .val (.ref b1), .val (.ref r_4), .unset, .unset, .unset, .unset] [(.ref r_5)]) _ _ _
    refine o_astore K X5 at_114 (pc' := 116) rfl rfl (L' := #[.val (.int i0), .val (.long i1), .second, .val (.long i2), .second, .val (.long i3), .second, .val (.long i4), .second, .val (.int (1 : Int32)), .val (.ref b1), .val (.ref r_4), .val (.ref r_5), .unset, .unset, .unset]) rfl ?_
    refine o_aload K X5 at_116 (pc' := 118) rfl rfl rfl ?_
    refine o_virtual K X5 (y := (⟨"com/example/rosterlink/rosterlink/model/IdChunks", "size", "()I"⟩ : MethodName)) (z := (⟨"com/example/rosterlink/rosterlink/model/IdChunks", "size", "()I"⟩ : MethodName)) (w24 hw) (w25 hw) (notFace_of_selects (args := #[]) (mvT K.2.1 (w27 hw))) (w27 hw) (w26 hw) (w3 hw) (w28 hw) (by decide) u5_2 (rm_size l Z a0 hw r_5 (0 : Int32) h5 u5_5) (by decide) rfl (argsL := []) rfl (lenOf pd_law_2 rfl) (W := 0) rfl (by decide) (by decide) (by decide) at_118 (pc' := 121) rfl ?_
    intro v6 T6 h6 X6 U6
    obtain ⟨rfl, rfl⟩ := U6
    show oGoes pp ee bb ss Z T6 (mkF mm 121 #[.val (.int i0), .val (.long i1), .second, .val (.long i2), .second, .val (.long i3), .second, .val (.long i4), .second, .val (.int (1 : Int32)), .val (.ref b1), .val (.ref r_4), .val (.ref r_5), .unset, .unset, .unset] [(.int (0 : Int32))]) _ _ _
    refine o_if_ne_f K X6 at_121 (pc' := 124) rfl (by decide) ?_
    refine o_aload K X6 at_124 (pc' := 126) rfl rfl rfl ?_
    refine o_lloadN K X6 at_126 (pc' := 127) rfl rfl ?_
    refine o_virtual K X6 (y := (⟨"com/example/rosterlink/rosterlink/model/IdChunks", "contains", "(J)Z"⟩ : MethodName)) (z := (⟨"com/example/rosterlink/rosterlink/model/IdChunks", "contains", "(J)Z"⟩ : MethodName)) (w29 hw) (w30 hw) (notFace_of_selects (args := #[]) (mvT K.2.1 (w32 hw))) (w32 hw) (w31 hw) (w3 hw) (w33 hw) (by decide) u5_2 (rm_con0 l Z a0 hw r_5 (1 : Int32) ch_5 (0 : Int32) k_5 i1 h5 u5_2 u5_3 u5_4 u5_5 u5_7) (by decide) rfl (argsL := [(.long i1)]) rfl (lenOf pd_law_3 rfl) (W := 0) rfl (by decide) (by decide) (by decide) at_127 (pc' := 130) rfl ?_
    intro v7 T7 h7 X7 U7
    obtain ⟨rfl, rfl⟩ := U7
    show oGoes pp ee bb ss Z T7 (mkF mm 130 #[.val (.int i0), .val (.long i1), .second, .val (.long i2), .second, .val (.long i3), .second, .val (.long i4), .second, .val (.int (1 : Int32)), .val (.ref b1), .val (.ref r_4), .val (.ref r_5), .unset, .unset, .unset] [(.int (0 : Int32))]) _ _ _
    refine o_if_ne_f K X7 at_130 (pc' := 133) rfl (by decide) ?_
    refine o_aload K X7 at_133 (pc' := 135) rfl rfl rfl ?_
    refine o_lloadN K X7 at_135 (pc' := 136) rfl rfl ?_
    refine o_virtual K X7 (y := (⟨"com/example/rosterlink/rosterlink/model/IdChunks", "get", "(J)[J"⟩ : MethodName)) (z := (⟨"com/example/rosterlink/rosterlink/model/IdChunks", "get", "(J)[J"⟩ : MethodName)) (w38 hw) (w39 hw) (notFace_of_selects (args := #[]) (mvT K.2.1 (w41 hw))) (w41 hw) (w40 hw) (w3 hw) (w42 hw) (by decide) u5_2 (rm_get0 l Z a0 hw r_5 (1 : Int32) ch_5 (0 : Int32) k_5 i1 h5 u5_2 u5_3 u5_4 u5_5 u5_7) (by decide) rfl (argsL := [(.long i1)]) rfl (lenOf pd_law_4 rfl) (W := 0) rfl (by decide) (by decide) (by decide) at_136 (pc' := 139) rfl ?_
    intro v8 T8 h8 X8 U8
    obtain ⟨rfl, rfl⟩ := U8
    show oGoes pp ee bb ss Z T8 (mkF mm 139 #[.val (.int i0), .val (.long i1), .second, .val (.long i2), .second, .val (.long i3), .second, .val (.long i4), .second, .val (.int (1 : Int32)), .val (.ref b1), .val (.ref r_4), .val (.ref r_5), .unset, .unset, .unset] [.null]) _ _ _
    refine o_ifnonnull_f K X8 at_139 (pc' := 142) rfl ?_
    refine o_aload K X8 at_142 (pc' := 144) rfl rfl rfl ?_
    refine o_lloadN K X8 at_144 (pc' := 145) rfl rfl ?_
    refine o_virtual K X8 (y := (⟨"com/example/rosterlink/rosterlink/model/IdChunks", "without", "(J)Lcom/example/rosterlink/rosterlink/model/IdChunks;"⟩ : MethodName)) (z := (⟨"com/example/rosterlink/rosterlink/model/IdChunks", "without", "(J)Lcom/example/rosterlink/rosterlink/model/IdChunks;"⟩ : MethodName)) (w43 hw) (w44 hw) (notFace_of_selects (args := #[]) (mvT K.2.1 (w46 hw))) (w46 hw) (w45 hw) (w3 hw) (w47 hw) (by decide) u5_2 (rm_wo0 l Z a0 hw r_5 (1 : Int32) ch_5 (0 : Int32) k_5 i1 h5 u5_2 u5_3 u5_4 u5_5 u5_7) (by decide) rfl (argsL := [(.long i1)]) rfl (lenOf pd_law_5 rfl) (W := 0) rfl (by decide) (by decide) (by decide) at_145 (pc' := 148) rfl ?_
    intro v9 T9 h9 X9 U9
    obtain ⟨rfl, rfl⟩ := U9
    show oGoes pp ee bb ss Z T9 (mkF mm 148 #[.val (.int i0), .val (.long i1), .second, .val (.long i2), .second, .val (.long i3), .second, .val (.long i4), .second, .val (.int (1 : Int32)), .val (.ref b1), .val (.ref r_4), .val (.ref r_5), .unset, .unset, .unset] [(.ref r_5)]) _ _ _
    refine o_aload K X9 at_148 (pc' := 150) rfl rfl rfl ?_
    refine o_acmp K X9 true at_150 (by decide) rfl rfl (decide_eq_true rfl) (pc' := 153) (by decide) ?_
    refine o_aload K X9 at_153 (pc' := 155) rfl rfl rfl ?_
    refine o_aload K X9 at_155 (pc' := 157) rfl rfl rfl ?_
    refine o_virtual K X9 (y := (⟨"com/example/rosterlink/rosterlink/model/IdChunks", "equals", "(Ljava/lang/Object;)Z"⟩ : MethodName)) (z := (⟨"com/example/rosterlink/rosterlink/model/IdChunks", "equals", "(Ljava/lang/Object;)Z"⟩ : MethodName)) (w48 hw) (w49 hw) (notFace_of_selects (args := #[]) (mvT K.2.1 (w51 hw))) (w51 hw) (w50 hw) (w3 hw) (w52 hw) (by decide) u5_2 (rm_eq0 l Z a0 hw r_5 (1 : Int32) ch_5 (0 : Int32) k_5 r_4 ch_4 k_4 h5 u5_2 u5_3 u5_4 u5_5 u5_7 (u4_2.keep u5_0) (u4_3.keep u5_0 nin0) (u4_4.keep u5_0 nin0) (u4_5.keep u5_0 nin0) (u4_7.keep u5_0 nin0) (Ne.symm (Nat.ne_of_lt (Nat.lt_of_lt_of_le u4_2.lt u5_1)))) (by decide) rfl (argsL := [(.ref r_4)]) rfl (lenOf pd_law_6 rfl) (W := 0) rfl (by decide) (by decide) (by decide) at_157 (pc' := 160) rfl ?_
    intro v10 T10 h10 X10 U10
    obtain ⟨rfl, rfl⟩ := U10
    show oGoes pp ee bb ss Z T10 (mkF mm 160 #[.val (.int i0), .val (.long i1), .second, .val (.long i2), .second, .val (.long i3), .second, .val (.long i4), .second, .val (.int (1 : Int32)), .val (.ref b1), .val (.ref r_4), .val (.ref r_5), .unset, .unset, .unset] [(.int (1 : Int32))]) _ _ _
    refine o_if_eq_f K X10 at_160 (pc' := 163) rfl (by decide) ?_
    refine o_iconst K X10 at_163 (pc' := 164) rfl (z := (1 : Int32)) rfl ?_
    refine o_goto K X10 at_164 (by decide) (pc' := 168) (by decide) ?_
    refine o_istore K X10 at_168 (pc' := 170) rfl (L' := #[.val (.int i0), .val (.long i1), .second, .val (.long i2), .second, .val (.long i3), .second, .val (.long i4), .second, .val (.int (1 : Int32)), .val (.ref b1), .val (.ref r_4), .val (.ref r_5), .val (.int (1 : Int32)), .unset, .unset]) rfl ?_
    refine o_aload K X10 at_170 (pc' := 172) rfl rfl rfl ?_
    refine o_aload K X10 at_172 (pc' := 174) rfl rfl rfl ?_
    refine o_virtual K X10 (y := (⟨"com/example/rosterlink/rosterlink/model/IdChunks", "with", "([J)Lcom/example/rosterlink/rosterlink/model/IdChunks;"⟩ : MethodName)) (z := (⟨"com/example/rosterlink/rosterlink/model/IdChunks", "with", "([J)Lcom/example/rosterlink/rosterlink/model/IdChunks;"⟩ : MethodName)) (w58 hw) (w59 hw) (notFace_of_selects (args := #[]) (mvT K.2.1 (w61 hw))) (w61 hw) (w60 hw) (w3 hw) (w62 hw) (by decide) u5_2 (rm_with1 l Z a0 hw r_5 ch_5 (0 : Int32) k_5 b1 k1 i2 h5 u5_2 u5_3 u5_4 u5_5 u5_7 (((A2.ext E3).keep u4_0 nin0).keep u5_0 nin0) ((((Exa.wr W2 B1).ext E3).keep u4_0).keep u5_0)) (by decide) rfl (argsL := [(.ref b1)]) rfl (lenOf pd_law_7 rfl) (W := 0) rfl (by decide) (by decide) (by decide) at_174 (pc' := 177) rfl ?_
    intro v11 T11 h11 X11 U11
    obtain ⟨r_11, ch_11, k_11, x_11, kx_11, rfl, u11_0, u11_1, u11_2, u11_3, u11_4, u11_5, u11_6, u11_7, u11_8, u11_9, u11_10⟩ := U11
    have G11_r : Z.heap.size ≤ r_11 := Nat.le_trans (Nat.le_trans E0.1 (Nat.le_trans (Nat.le_trans (Nat.le_trans (Nat.le_trans E1.1 (Keep.of_wr W2).1) E3.1) u4_0.1) u5_0.1)) u11_1
    have G11_ch : Z.heap.size ≤ ch_11 := Nat.le_trans (Nat.le_trans E0.1 (Nat.le_trans (Nat.le_trans (Nat.le_trans (Nat.le_trans E1.1 (Keep.of_wr W2).1) E3.1) u4_0.1) u5_0.1)) u11_6
    have G11_x : Z.heap.size ≤ x_11 := Nat.le_trans (Nat.le_trans E0.1 (Nat.le_trans (Nat.le_trans (Nat.le_trans (Nat.le_trans E1.1 (Keep.of_wr W2).1) E3.1) u4_0.1) u5_0.1)) u11_8
    show oGoes pp ee bb ss Z T11 (mkF mm 177 #[.val (.int i0), .val (.long i1), .second, .val (.long i2), .second, .val (.long i3), .second, .val (.long i4), .second, .val (.int (1 : Int32)), .val (.ref b1), .val (.ref r_4), .val (.ref r_5), .val (.int (1 : Int32)), .unset, .unset] [(.ref r_11)]) _ _ _
    refine o_astore K X11 at_177 (pc' := 179) rfl rfl (L' := #[.val (.int i0), .val (.long i1), .second, .val (.long i2), .second, .val (.long i3), .second, .val (.long i4), .second, .val (.int (1 : Int32)), .val (.ref b1), .val (.ref r_4), .val (.ref r_5), .val (.int (1 : Int32)), .val (.ref r_11), .unset]) rfl ?_
    refine o_aload K X11 at_179 (pc' := 181) rfl rfl rfl ?_
    refine o_lloadN K X11 at_181 (pc' := 182) rfl rfl ?_
    refine o_virtual K X11 (y := (⟨"com/example/rosterlink/rosterlink/model/IdChunks", "get", "(J)[J"⟩ : MethodName)) (z := (⟨"com/example/rosterlink/rosterlink/model/IdChunks", "get", "(J)[J"⟩ : MethodName)) (w38 hw) (w39 hw) (notFace_of_selects (args := #[]) (mvT K.2.1 (w41 hw))) (w41 hw) (w40 hw) (w3 hw) (w42 hw) (by decide) u11_2 (rm_get1_1 l Z a0 hw r_11 ch_11 k_11 x_11 kx_11 i2 h11 u11_2 u11_3 u11_4 u11_5 u11_7 u11_9 u11_10) (by decide) rfl (argsL := [(.long i2)]) rfl (lenOf pd_law_4 rfl) (W := 0) rfl (by decide) (by decide) (by decide) at_182 (pc' := 185) rfl ?_
    intro v12 T12 h12 X12 U12
    obtain ⟨r_12, k_12, rfl, u12_0, u12_1, u12_2, u12_3⟩ := U12
    have G12_r : Z.heap.size ≤ r_12 := Nat.le_trans (Nat.le_trans E0.1 (Nat.le_trans (Nat.le_trans (Nat.le_trans (Nat.le_trans (Nat.le_trans E1.1 (Keep.of_wr W2).1) E3.1) u4_0.1) u5_0.1) u11_0.1)) u12_1
    show oGoes pp ee bb ss Z T12 (mkF mm 185 #[.val (.int i0), .val (.long i1), .second, .val (.long i2), .second, .val (.long i3), .second, .val (.long i4), .second, .val (.int (1 : Int32)), .val (.ref b1), .val (.ref r_4), .val (.ref r_5), .val (.int (1 : Int32)), .val (.ref r_11), .unset] [(.ref r_12)]) _ _ _
    refine o_astore K X12 at_185 (pc' := 187) rfl rfl (L' := #[.val (.int i0), .val (.long i1), .second, .val (.long i2), .second, .val (.long i3), .second, .val (.long i4), .second, .val (.int (1 : Int32)), .val (.ref b1), .val (.ref r_4), .val (.ref r_5), .val (.int (1 : Int32)), .val (.ref r_11), .val (.ref r_12)]) rfl ?_
    refine o_iload K X12 at_187 (pc' := 189) rfl rfl ?_
    refine o_if_eq_f K X12 at_189 (pc' := 192) rfl (by decide) ?_
    refine o_aload K X12 at_192 (pc' := 194) rfl rfl rfl ?_
    refine o_virtual K X12 (y := (⟨"com/example/rosterlink/rosterlink/model/IdChunks", "size", "()I"⟩ : MethodName)) (z := (⟨"com/example/rosterlink/rosterlink/model/IdChunks", "size", "()I"⟩ : MethodName)) (w24 hw) (w25 hw) (notFace_of_selects (args := #[]) (mvT K.2.1 (w27 hw))) (w27 hw) (w26 hw) (w3 hw) (w28 hw) (by decide) (u11_2.keep u12_0) (rm_size l Z a0 hw r_11 (1 : Int32) h12 (u11_5.keep u12_0 nin0)) (by decide) rfl (argsL := []) rfl (lenOf pd_law_2 rfl) (W := 0) rfl (by decide) (by decide) (by decide) at_194 (pc' := 197) rfl ?_
    intro v13 T13 h13 X13 U13
    obtain ⟨rfl, rfl⟩ := U13
    show oGoes pp ee bb ss Z T13 (mkF mm 197 #[.val (.int i0), .val (.long i1), .second, .val (.long i2), .second, .val (.long i3), .second, .val (.long i4), .second, .val (.int (1 : Int32)), .val (.ref b1), .val (.ref r_4), .val (.ref r_5), .val (.int (1 : Int32)), .val (.ref r_11), .val (.ref r_12)] [(.int (1 : Int32))]) _ _ _
    refine o_iconst K X13 at_197 (pc' := 198) rfl (z := (1 : Int32)) rfl ?_
    refine o_icmp_ne_f K X13 at_198 (pc' := 201) rfl (by decide) ?_
    refine o_aload K X13 at_201 (pc' := 203) rfl rfl rfl ?_
    refine o_virtual K X13 (y := (⟨"com/example/rosterlink/rosterlink/model/IdChunks", "size", "()I"⟩ : MethodName)) (z := (⟨"com/example/rosterlink/rosterlink/model/IdChunks", "size", "()I"⟩ : MethodName)) (w24 hw) (w25 hw) (notFace_of_selects (args := #[]) (mvT K.2.1 (w27 hw))) (w27 hw) (w26 hw) (w3 hw) (w28 hw) (by decide) ((u5_2.keep u11_0).keep u12_0) (rm_size l Z a0 hw r_5 (0 : Int32) h12 ((u5_5.keep u11_0 nin0).keep u12_0 nin0)) (by decide) rfl (argsL := []) rfl (lenOf pd_law_2 rfl) (W := 0) rfl (by decide) (by decide) (by decide) at_203 (pc' := 206) rfl ?_
    intro v14 T14 h14 X14 U14
    obtain ⟨rfl, rfl⟩ := U14
    show oGoes pp ee bb ss Z T14 (mkF mm 206 #[.val (.int i0), .val (.long i1), .second, .val (.long i2), .second, .val (.long i3), .second, .val (.long i4), .second, .val (.int (1 : Int32)), .val (.ref b1), .val (.ref r_4), .val (.ref r_5), .val (.int (1 : Int32)), .val (.ref r_11), .val (.ref r_12)] [(.int (0 : Int32))]) _ _ _
    refine o_if_ne_f K X14 at_206 (pc' := 209) rfl (by decide) ?_
    refine o_aload K X14 at_209 (pc' := 211) rfl rfl rfl ?_
    refine o_ifnull_f K X14 at_211 (pc' := 214) rfl ?_
    refine o_aload K X14 at_214 (pc' := 216) rfl rfl rfl ?_
    refine o_aload K X14 at_216 (pc' := 218) rfl rfl rfl ?_
    refine o_static K X14 (y := (⟨"com/example/rosterlink/rosterlink/model/IdChunksEmptyPinLaw", "same", "([J[J)Z"⟩ : MethodName)) (w81 hw) (w82 hw) (w83 hw) (w84 hw) (by decide) (rm_same1 l Z a0 hw r_12 k_12 b1 k1 i2 h12 u12_2 (((((A2.ext E3).keep u4_0 nin0).keep u5_0 nin0).keep u11_0 nin0).keep u12_0 nin0)) (by decide) rfl (argsL := [(.ref r_12), (.ref b1)]) rfl (lenOf pd_law_8 rfl) (W := 0) rfl (by decide) (by decide) (by decide) at_218 (pc' := 221) rfl ?_
    intro v15 T15 h15 X15 U15
    obtain ⟨rfl, rfl⟩ := U15
    show oGoes pp ee bb ss Z T15 (mkF mm 221 #[.val (.int i0), .val (.long i1), .second, .val (.long i2), .second, .val (.long i3), .second, .val (.long i4), .second, .val (.int (1 : Int32)), .val (.ref b1), .val (.ref r_4), .val (.ref r_5), .val (.int (1 : Int32)), .val (.ref r_11), .val (.ref r_12)] [(.int (1 : Int32))]) _ _ _
    refine o_if_eq_f K X15 at_221 (pc' := 224) rfl (by decide) ?_
    refine o_aload K X15 at_224 (pc' := 226) rfl rfl rfl ?_
    refine o_virtual K X15 (y := (⟨"com/example/rosterlink/rosterlink/model/IdChunks", "entries", "()[J"⟩ : MethodName)) (z := (⟨"com/example/rosterlink/rosterlink/model/IdChunks", "entries", "()[J"⟩ : MethodName)) (w85 hw) (w86 hw) (notFace_of_selects (args := #[]) (mvT K.2.1 (w88 hw))) (w88 hw) (w87 hw) (w3 hw) (w89 hw) (by decide) (u11_2.keep u12_0) (rm_ents1 l Z a0 hw r_11 ch_11 k_11 x_11 kx_11 i2 h12 (u11_2.keep u12_0) (u11_3.keep u12_0 nin0) (u11_4.keep u12_0 nin0) (u11_5.keep u12_0 nin0) (u11_7.keep u12_0 nin0) (u11_9.keep u12_0 nin0) (u11_10.keep u12_0)) (by decide) rfl (argsL := []) rfl (lenOf pd_law_9 rfl) (W := 0) rfl (by decide) (by decide) (by decide) at_226 (pc' := 229) rfl ?_
    intro v16 T16 h16 X16 U16
    obtain ⟨r_16, k_16, rfl, u16_0, u16_1, u16_2⟩ := U16
    have G16_r : Z.heap.size ≤ r_16 := Nat.le_trans (Nat.le_trans E0.1 (Nat.le_trans (Nat.le_trans (Nat.le_trans (Nat.le_trans (Nat.le_trans (Nat.le_trans E1.1 (Keep.of_wr W2).1) E3.1) u4_0.1) u5_0.1) u11_0.1) u12_0.1)) u16_1
    show oGoes pp ee bb ss Z T16 (mkF mm 229 #[.val (.int i0), .val (.long i1), .second, .val (.long i2), .second, .val (.long i3), .second, .val (.long i4), .second, .val (.int (1 : Int32)), .val (.ref b1), .val (.ref r_4), .val (.ref r_5), .val (.int (1 : Int32)), .val (.ref r_11), .val (.ref r_12)] [(.ref r_16)]) _ _ _
    refine o_arraylength K X16 u16_2 (z := (1 : Int32)) rfl at_229 (pc' := 230) rfl ?_
    refine o_iload K X16 at_230 (pc' := 232) rfl rfl ?_
    refine o_icmp_ne_f K X16 at_232 (pc' := 235) rfl (by decide) ?_
    refine o_iconst K X16 at_235 (pc' := 236) rfl (z := (1 : Int32)) rfl ?_
    refine o_goto K X16 at_236 (by decide) (pc' := 240) (by decide) ?_
    refine o_istore K X16 at_240 (pc' := 242) rfl (L' := #[.val (.int i0), .val (.long i1), .second, .val (.long i2), .second, .val (.long i3), .second, .val (.long i4), .second, .val (.int (1 : Int32)), .val (.ref b1), .val (.ref r_4), .val (.ref r_5), .val (.int (1 : Int32)), .val (.ref r_11), .val (.ref r_12)]) rfl ?_
    refine o_iload K X16 at_242 (pc' := 244) rfl rfl ?_
    refine o_ireturnN K X16 .boolean at_244 rfl (by simp) (z' := (1 : Int32)) (by decide) ?_ (by decide) (by decide)
    exact rfl
  · refine o_iadd K X0 at_4 (pc' := 5) rfl (z := (2 : Int32)) (by rw [e1]; decide) ?_
    refine o_istore K X0 at_5 (pc' := 7) rfl (L' := #[.val (.int i0), .val (.long i1), .second, .val (.long i2), .second, .val (.long i3), .second, .val (.long i4), .second, .val (.int (2 : Int32)), .unset, .unset, .unset, .unset, .unset, .unset]) rfl ?_
    refine o_iload K X0 at_7 (pc' := 9) rfl rfl ?_
    refine o_iconst K X0 at_9 (pc' := 10) rfl (z := (1 : Int32)) rfl ?_
    refine o_icmp_ne_t K X0 at_10 (by decide) (pc' := 25) (by decide) (by decide) ?_
    refine o_iload K X0 at_25 (pc' := 27) rfl rfl ?_
    refine o_iconst K X0 at_27 (pc' := 28) rfl (z := (2 : Int32)) rfl ?_
    refine o_icmp_ne_f K X0 at_28 (pc' := 31) rfl (by decide) ?_
    refine o_iconst K X0 at_31 (pc' := 32) rfl (z := (2 : Int32)) rfl ?_
    refine o_newarray K X0 (aty := .long) 2 (w0 hw) (ad := "[J") (by decide +kernel) (by decide) (by decide) (by decide) rfl at_32 (pc' := 34) rfl (by decide) (by decide) ?_
    intro T17 h17 b17 k17 X17 g17 E17 A17 B17 G17
    replace A17 : oArr Z h17 b17 k17 .long [(.long (0 : Int64)), (.long (0 : Int64))] := A17
    refine o_dup K X17 at_34 (pc' := 35) rfl rfl ?_
    refine o_iconst K X17 at_35 (pc' := 36) rfl (z := (0 : Int32)) rfl ?_
    refine o_lloadN K X17 at_36 (pc' := 37) rfl rfl ?_
    refine o_lastore K X17 A17 (by decide) (show (0 : Int32).toNatClampNeg < 2 from (by decide)) G17 (z := (.long i2)) rfl at_37 (pc' := 38) rfl ?_
    intro T18 h18 X18 W18 A18
    replace A18 : oArr Z h18 b17 k17 .long [(.long i2), (.long (0 : Int64))] := A18
    refine o_dup K X18 at_38 (pc' := 39) rfl rfl ?_
    refine o_iconst K X18 at_39 (pc' := 40) rfl (z := (1 : Int32)) rfl ?_
    refine o_lload K X18 at_40 (pc' := 42) rfl rfl ?_
    refine o_lastore K X18 A18 (by decide) (show (1 : Int32).toNatClampNeg < 2 from (by decide)) G17 (z := (.long i3)) rfl at_42 (pc' := 43) rfl ?_
    intro T19 h19 X19 W19 A19
    replace A19 : oArr Z h19 b17 k17 .long [(.long i2), (.long i3)] := A19
    refine o_astore K X19 at_43 (pc' := 45) rfl rfl (L' := #[.val (.int i0), .val (.long i1), .second, .val (.long i2), .second, .val (.long i3), .second, .val (.long i4), .second, .val (.int (2 : Int32)), .val (.ref b17), .unset, .unset, .unset, .unset, .unset]) rfl ?_
    refine o_goto K X19 at_45 (by decide) (pc' := 99) (by decide) ?_
    refine o_iload K X19 at_99 (pc' := 101) rfl rfl ?_
    refine o_iconst K X19 at_101 (pc' := 102) rfl (z := (0 : Int32)) rfl ?_
    refine o_newarray K X19 (aty := .long) 0 (w0 hw) (ad := "[J") (by decide +kernel) (by decide) (by decide) (by decide) rfl at_102 (pc' := 104) rfl (by decide) (by decide) ?_
    intro T20 h20 b20 k20 X20 g20 E20 A20 B20 G20
    replace A20 : oArr Z h20 b20 k20 .long [] := A20
    refine o_static K X20 (y := (⟨"com/example/rosterlink/rosterlink/model/IdChunks", "of", "(I[J)Lcom/example/rosterlink/rosterlink/model/IdChunks;"⟩ : MethodName)) (w1 hw) (w2 hw) (w3 hw) (w4 hw) (by decide) (rm_of2 l Z a0 hw b20 k20 h20 A20) (by decide) rfl (argsL := [(.int (2 : Int32)), (.ref b20)]) rfl (lenOf pd_law_0 rfl) (W := 0) rfl (by decide) (by decide) (by decide) at_104 (pc' := 107) rfl ?_
    intro v21 T21 h21 X21 U21
    obtain ⟨r_21, ch_21, k_21, rfl, u21_0, u21_1, u21_2, u21_3, u21_4, u21_5, u21_6, u21_7, u21_8⟩ := U21
    have G21_r : Z.heap.size ≤ r_21 := Nat.le_trans (Nat.le_trans E0.1 (Nat.le_trans (Nat.le_trans (Nat.le_trans E17.1 (Keep.of_wr W18).1) (Keep.of_wr W19).1) E20.1)) u21_1
    have G21_ch : Z.heap.size ≤ ch_21 := Nat.le_trans (Nat.le_trans E0.1 (Nat.le_trans (Nat.le_trans (Nat.le_trans E17.1 (Keep.of_wr W18).1) (Keep.of_wr W19).1) E20.1)) u21_6
    show oGoes pp ee bb ss Z T21 (mkF mm 107 #[.val (.int i0), .val (.long i1), .second, .val (.long i2), .second, .val (.long i3), .second, .val (.long i4), .second, .val (.int (2 : Int32)), .val (.ref b17), .unset, .unset, .unset, .unset, .unset] [(.ref r_21)]) _ _ _
    refine o_astore K X21 at_107 (pc' := 109) rfl rfl (L' := #[.val (.int i0), .val (.long i1), .second, .val (.long i2), .second, .val (.long i3), .second, .val (.long i4), .second, .val (.int (2 : Int32)), .val (.ref b17), .val (.ref r_21), .unset, .unset, .unset, .unset]) rfl ?_
    refine o_iload K X21 at_109 (pc' := 111) rfl rfl ?_
    refine o_static K X21 (y := (⟨"com/example/rosterlink/rosterlink/model/IdChunks", "empty", "(I)Lcom/example/rosterlink/rosterlink/model/IdChunks;"⟩ : MethodName)) (w21 hw) (w22 hw) (w3 hw) (w23 hw) (by decide) (rm_empty l Z a0 hw (2 : Int32) h21) (by decide) rfl (argsL := [(.int (2 : Int32))]) rfl (lenOf pd_law_1 rfl) (W := 0) rfl (by decide) (by decide) (by decide) at_111 (pc' := 114) rfl ?_
    intro v22 T22 h22 X22 U22
    obtain ⟨r_22, ch_22, k_22, rfl, u22_0, u22_1, u22_2, u22_3, u22_4, u22_5, u22_6, u22_7, u22_8⟩ := U22
    have G22_r : Z.heap.size ≤ r_22 := Nat.le_trans (Nat.le_trans E0.1 (Nat.le_trans (Nat.le_trans (Nat.le_trans (Nat.le_trans E17.1 (Keep.of_wr W18).1) (Keep.of_wr W19).1) E20.1) u21_0.1)) u22_1
    have G22_ch : Z.heap.size ≤ ch_22 := Nat.le_trans (Nat.le_trans E0.1 (Nat.le_trans (Nat.le_trans (Nat.le_trans (Nat.le_trans E17.1 (Keep.of_wr W18).1) (Keep.of_wr W19).1) E20.1) u21_0.1)) u22_6
    show oGoes pp ee bb ss Z T22 (mkF mm 114 #[.val (.int i0), .val (.long i1), .second, .val (.long i2), .second, .val (.long i3), .second, .val (.long i4), .second, .val (.int (2 : Int32)), .val (.ref b17), .val (.ref r_21), .unset, .unset, .unset, .unset] [(.ref r_22)]) _ _ _
    refine o_astore K X22 at_114 (pc' := 116) rfl rfl (L' := #[.val (.int i0), .val (.long i1), .second, .val (.long i2), .second, .val (.long i3), .second, .val (.long i4), .second, .val (.int (2 : Int32)), .val (.ref b17), .val (.ref r_21), .val (.ref r_22), .unset, .unset, .unset]) rfl ?_
    refine o_aload K X22 at_116 (pc' := 118) rfl rfl rfl ?_
    refine o_virtual K X22 (y := (⟨"com/example/rosterlink/rosterlink/model/IdChunks", "size", "()I"⟩ : MethodName)) (z := (⟨"com/example/rosterlink/rosterlink/model/IdChunks", "size", "()I"⟩ : MethodName)) (w24 hw) (w25 hw) (notFace_of_selects (args := #[]) (mvT K.2.1 (w27 hw))) (w27 hw) (w26 hw) (w3 hw) (w28 hw) (by decide) u22_2 (rm_size l Z a0 hw r_22 (0 : Int32) h22 u22_5) (by decide) rfl (argsL := []) rfl (lenOf pd_law_2 rfl) (W := 0) rfl (by decide) (by decide) (by decide) at_118 (pc' := 121) rfl ?_
    intro v23 T23 h23 X23 U23
    obtain ⟨rfl, rfl⟩ := U23
    show oGoes pp ee bb ss Z T23 (mkF mm 121 #[.val (.int i0), .val (.long i1), .second, .val (.long i2), .second, .val (.long i3), .second, .val (.long i4), .second, .val (.int (2 : Int32)), .val (.ref b17), .val (.ref r_21), .val (.ref r_22), .unset, .unset, .unset] [(.int (0 : Int32))]) _ _ _
    refine o_if_ne_f K X23 at_121 (pc' := 124) rfl (by decide) ?_
    refine o_aload K X23 at_124 (pc' := 126) rfl rfl rfl ?_
    refine o_lloadN K X23 at_126 (pc' := 127) rfl rfl ?_
    refine o_virtual K X23 (y := (⟨"com/example/rosterlink/rosterlink/model/IdChunks", "contains", "(J)Z"⟩ : MethodName)) (z := (⟨"com/example/rosterlink/rosterlink/model/IdChunks", "contains", "(J)Z"⟩ : MethodName)) (w29 hw) (w30 hw) (notFace_of_selects (args := #[]) (mvT K.2.1 (w32 hw))) (w32 hw) (w31 hw) (w3 hw) (w33 hw) (by decide) u22_2 (rm_con0 l Z a0 hw r_22 (2 : Int32) ch_22 (0 : Int32) k_22 i1 h22 u22_2 u22_3 u22_4 u22_5 u22_7) (by decide) rfl (argsL := [(.long i1)]) rfl (lenOf pd_law_3 rfl) (W := 0) rfl (by decide) (by decide) (by decide) at_127 (pc' := 130) rfl ?_
    intro v24 T24 h24 X24 U24
    obtain ⟨rfl, rfl⟩ := U24
    show oGoes pp ee bb ss Z T24 (mkF mm 130 #[.val (.int i0), .val (.long i1), .second, .val (.long i2), .second, .val (.long i3), .second, .val (.long i4), .second, .val (.int (2 : Int32)), .val (.ref b17), .val (.ref r_21), .val (.ref r_22), .unset, .unset, .unset] [(.int (0 : Int32))]) _ _ _
    refine o_if_ne_f K X24 at_130 (pc' := 133) rfl (by decide) ?_
    refine o_aload K X24 at_133 (pc' := 135) rfl rfl rfl ?_
    refine o_lloadN K X24 at_135 (pc' := 136) rfl rfl ?_
    refine o_virtual K X24 (y := (⟨"com/example/rosterlink/rosterlink/model/IdChunks", "get", "(J)[J"⟩ : MethodName)) (z := (⟨"com/example/rosterlink/rosterlink/model/IdChunks", "get", "(J)[J"⟩ : MethodName)) (w38 hw) (w39 hw) (notFace_of_selects (args := #[]) (mvT K.2.1 (w41 hw))) (w41 hw) (w40 hw) (w3 hw) (w42 hw) (by decide) u22_2 (rm_get0 l Z a0 hw r_22 (2 : Int32) ch_22 (0 : Int32) k_22 i1 h22 u22_2 u22_3 u22_4 u22_5 u22_7) (by decide) rfl (argsL := [(.long i1)]) rfl (lenOf pd_law_4 rfl) (W := 0) rfl (by decide) (by decide) (by decide) at_136 (pc' := 139) rfl ?_
    intro v25 T25 h25 X25 U25
    obtain ⟨rfl, rfl⟩ := U25
    show oGoes pp ee bb ss Z T25 (mkF mm 139 #[.val (.int i0), .val (.long i1), .second, .val (.long i2), .second, .val (.long i3), .second, .val (.long i4), .second, .val (.int (2 : Int32)), .val (.ref b17), .val (.ref r_21), .val (.ref r_22), .unset, .unset, .unset] [.null]) _ _ _
    refine o_ifnonnull_f K X25 at_139 (pc' := 142) rfl ?_
    refine o_aload K X25 at_142 (pc' := 144) rfl rfl rfl ?_
    refine o_lloadN K X25 at_144 (pc' := 145) rfl rfl ?_
    refine o_virtual K X25 (y := (⟨"com/example/rosterlink/rosterlink/model/IdChunks", "without", "(J)Lcom/example/rosterlink/rosterlink/model/IdChunks;"⟩ : MethodName)) (z := (⟨"com/example/rosterlink/rosterlink/model/IdChunks", "without", "(J)Lcom/example/rosterlink/rosterlink/model/IdChunks;"⟩ : MethodName)) (w43 hw) (w44 hw) (notFace_of_selects (args := #[]) (mvT K.2.1 (w46 hw))) (w46 hw) (w45 hw) (w3 hw) (w47 hw) (by decide) u22_2 (rm_wo0 l Z a0 hw r_22 (2 : Int32) ch_22 (0 : Int32) k_22 i1 h22 u22_2 u22_3 u22_4 u22_5 u22_7) (by decide) rfl (argsL := [(.long i1)]) rfl (lenOf pd_law_5 rfl) (W := 0) rfl (by decide) (by decide) (by decide) at_145 (pc' := 148) rfl ?_
    intro v26 T26 h26 X26 U26
    obtain ⟨rfl, rfl⟩ := U26
    show oGoes pp ee bb ss Z T26 (mkF mm 148 #[.val (.int i0), .val (.long i1), .second, .val (.long i2), .second, .val (.long i3), .second, .val (.long i4), .second, .val (.int (2 : Int32)), .val (.ref b17), .val (.ref r_21), .val (.ref r_22), .unset, .unset, .unset] [(.ref r_22)]) _ _ _
    refine o_aload K X26 at_148 (pc' := 150) rfl rfl rfl ?_
    refine o_acmp K X26 true at_150 (by decide) rfl rfl (decide_eq_true rfl) (pc' := 153) (by decide) ?_
    refine o_aload K X26 at_153 (pc' := 155) rfl rfl rfl ?_
    refine o_aload K X26 at_155 (pc' := 157) rfl rfl rfl ?_
    refine o_virtual K X26 (y := (⟨"com/example/rosterlink/rosterlink/model/IdChunks", "equals", "(Ljava/lang/Object;)Z"⟩ : MethodName)) (z := (⟨"com/example/rosterlink/rosterlink/model/IdChunks", "equals", "(Ljava/lang/Object;)Z"⟩ : MethodName)) (w48 hw) (w49 hw) (notFace_of_selects (args := #[]) (mvT K.2.1 (w51 hw))) (w51 hw) (w50 hw) (w3 hw) (w52 hw) (by decide) u22_2 (rm_eq0 l Z a0 hw r_22 (2 : Int32) ch_22 (0 : Int32) k_22 r_21 ch_21 k_21 h22 u22_2 u22_3 u22_4 u22_5 u22_7 (u21_2.keep u22_0) (u21_3.keep u22_0 nin0) (u21_4.keep u22_0 nin0) (u21_5.keep u22_0 nin0) (u21_7.keep u22_0 nin0) (Ne.symm (Nat.ne_of_lt (Nat.lt_of_lt_of_le u21_2.lt u22_1)))) (by decide) rfl (argsL := [(.ref r_21)]) rfl (lenOf pd_law_6 rfl) (W := 0) rfl (by decide) (by decide) (by decide) at_157 (pc' := 160) rfl ?_
    intro v27 T27 h27 X27 U27
    obtain ⟨rfl, rfl⟩ := U27
    show oGoes pp ee bb ss Z T27 (mkF mm 160 #[.val (.int i0), .val (.long i1), .second, .val (.long i2), .second, .val (.long i3), .second, .val (.long i4), .second, .val (.int (2 : Int32)), .val (.ref b17), .val (.ref r_21), .val (.ref r_22), .unset, .unset, .unset] [(.int (1 : Int32))]) _ _ _
    refine o_if_eq_f K X27 at_160 (pc' := 163) rfl (by decide) ?_
    refine o_iconst K X27 at_163 (pc' := 164) rfl (z := (1 : Int32)) rfl ?_
    refine o_goto K X27 at_164 (by decide) (pc' := 168) (by decide) ?_
    refine o_istore K X27 at_168 (pc' := 170) rfl (L' := #[.val (.int i0), .val (.long i1), .second, .val (.long i2), .second, .val (.long i3), .second, .val (.long i4), .second, .val (.int (2 : Int32)), .val (.ref b17), .val (.ref r_21), .val (.ref r_22), .val (.int (1 : Int32)), .unset, .unset]) rfl ?_
    refine o_aload K X27 at_170 (pc' := 172) rfl rfl rfl ?_
    refine o_aload K X27 at_172 (pc' := 174) rfl rfl rfl ?_
    refine o_virtual K X27 (y := (⟨"com/example/rosterlink/rosterlink/model/IdChunks", "with", "([J)Lcom/example/rosterlink/rosterlink/model/IdChunks;"⟩ : MethodName)) (z := (⟨"com/example/rosterlink/rosterlink/model/IdChunks", "with", "([J)Lcom/example/rosterlink/rosterlink/model/IdChunks;"⟩ : MethodName)) (w58 hw) (w59 hw) (notFace_of_selects (args := #[]) (mvT K.2.1 (w61 hw))) (w61 hw) (w60 hw) (w3 hw) (w62 hw) (by decide) u22_2 (rm_with2 l Z a0 hw r_22 ch_22 (0 : Int32) k_22 b17 k17 i2 i3 h22 u22_2 u22_3 u22_4 u22_5 u22_7 (((A19.ext E20).keep u21_0 nin0).keep u22_0 nin0) ((((Exa.wr W19 (Exa.wr W18 B17)).ext E20).keep u21_0).keep u22_0)) (by decide) rfl (argsL := [(.ref b17)]) rfl (lenOf pd_law_7 rfl) (W := 0) rfl (by decide) (by decide) (by decide) at_174 (pc' := 177) rfl ?_
    intro v28 T28 h28 X28 U28
    obtain ⟨r_28, ch_28, k_28, x_28, kx_28, rfl, u28_0, u28_1, u28_2, u28_3, u28_4, u28_5, u28_6, u28_7, u28_8, u28_9, u28_10⟩ := U28
    have G28_r : Z.heap.size ≤ r_28 := Nat.le_trans (Nat.le_trans E0.1 (Nat.le_trans (Nat.le_trans (Nat.le_trans (Nat.le_trans (Nat.le_trans E17.1 (Keep.of_wr W18).1) (Keep.of_wr W19).1) E20.1) u21_0.1) u22_0.1)) u28_1
    have G28_ch : Z.heap.size ≤ ch_28 := Nat.le_trans (Nat.le_trans E0.1 (Nat.le_trans (Nat.le_trans (Nat.le_trans (Nat.le_trans (Nat.le_trans E17.1 (Keep.of_wr W18).1) (Keep.of_wr W19).1) E20.1) u21_0.1) u22_0.1)) u28_6
    have G28_x : Z.heap.size ≤ x_28 := Nat.le_trans (Nat.le_trans E0.1 (Nat.le_trans (Nat.le_trans (Nat.le_trans (Nat.le_trans (Nat.le_trans E17.1 (Keep.of_wr W18).1) (Keep.of_wr W19).1) E20.1) u21_0.1) u22_0.1)) u28_8
    show oGoes pp ee bb ss Z T28 (mkF mm 177 #[.val (.int i0), .val (.long i1), .second, .val (.long i2), .second, .val (.long i3), .second, .val (.long i4), .second, .val (.int (2 : Int32)), .val (.ref b17), .val (.ref r_21), .val (.ref r_22), .val (.int (1 : Int32)), .unset, .unset] [(.ref r_28)]) _ _ _
    refine o_astore K X28 at_177 (pc' := 179) rfl rfl (L' := #[.val (.int i0), .val (.long i1), .second, .val (.long i2), .second, .val (.long i3), .second, .val (.long i4), .second, .val (.int (2 : Int32)), .val (.ref b17), .val (.ref r_21), .val (.ref r_22), .val (.int (1 : Int32)), .val (.ref r_28), .unset]) rfl ?_
    refine o_aload K X28 at_179 (pc' := 181) rfl rfl rfl ?_
    refine o_lloadN K X28 at_181 (pc' := 182) rfl rfl ?_
    refine o_virtual K X28 (y := (⟨"com/example/rosterlink/rosterlink/model/IdChunks", "get", "(J)[J"⟩ : MethodName)) (z := (⟨"com/example/rosterlink/rosterlink/model/IdChunks", "get", "(J)[J"⟩ : MethodName)) (w38 hw) (w39 hw) (notFace_of_selects (args := #[]) (mvT K.2.1 (w41 hw))) (w41 hw) (w40 hw) (w3 hw) (w42 hw) (by decide) u28_2 (rm_get1_2 l Z a0 hw r_28 ch_28 k_28 x_28 kx_28 i2 i3 h28 u28_2 u28_3 u28_4 u28_5 u28_7 u28_9 u28_10) (by decide) rfl (argsL := [(.long i2)]) rfl (lenOf pd_law_4 rfl) (W := 0) rfl (by decide) (by decide) (by decide) at_182 (pc' := 185) rfl ?_
    intro v29 T29 h29 X29 U29
    obtain ⟨r_29, k_29, rfl, u29_0, u29_1, u29_2, u29_3⟩ := U29
    have G29_r : Z.heap.size ≤ r_29 := Nat.le_trans (Nat.le_trans E0.1 (Nat.le_trans (Nat.le_trans (Nat.le_trans (Nat.le_trans (Nat.le_trans (Nat.le_trans E17.1 (Keep.of_wr W18).1) (Keep.of_wr W19).1) E20.1) u21_0.1) u22_0.1) u28_0.1)) u29_1
    show oGoes pp ee bb ss Z T29 (mkF mm 185 #[.val (.int i0), .val (.long i1), .second, .val (.long i2), .second, .val (.long i3), .second, .val (.long i4), .second, .val (.int (2 : Int32)), .val (.ref b17), .val (.ref r_21), .val (.ref r_22), .val (.int (1 : Int32)), .val (.ref r_28), .unset] [(.ref r_29)]) _ _ _
    refine o_astore K X29 at_185 (pc' := 187) rfl rfl (L' := #[.val (.int i0), .val (.long i1), .second, .val (.long i2), .second, .val (.long i3), .second, .val (.long i4), .second, .val (.int (2 : Int32)), .val (.ref b17), .val (.ref r_21), .val (.ref r_22), .val (.int (1 : Int32)), .val (.ref r_28), .val (.ref r_29)]) rfl ?_
    refine o_iload K X29 at_187 (pc' := 189) rfl rfl ?_
    refine o_if_eq_f K X29 at_189 (pc' := 192) rfl (by decide) ?_
    refine o_aload K X29 at_192 (pc' := 194) rfl rfl rfl ?_
    refine o_virtual K X29 (y := (⟨"com/example/rosterlink/rosterlink/model/IdChunks", "size", "()I"⟩ : MethodName)) (z := (⟨"com/example/rosterlink/rosterlink/model/IdChunks", "size", "()I"⟩ : MethodName)) (w24 hw) (w25 hw) (notFace_of_selects (args := #[]) (mvT K.2.1 (w27 hw))) (w27 hw) (w26 hw) (w3 hw) (w28 hw) (by decide) (u28_2.keep u29_0) (rm_size l Z a0 hw r_28 (1 : Int32) h29 (u28_5.keep u29_0 nin0)) (by decide) rfl (argsL := []) rfl (lenOf pd_law_2 rfl) (W := 0) rfl (by decide) (by decide) (by decide) at_194 (pc' := 197) rfl ?_
    intro v30 T30 h30 X30 U30
    obtain ⟨rfl, rfl⟩ := U30
    show oGoes pp ee bb ss Z T30 (mkF mm 197 #[.val (.int i0), .val (.long i1), .second, .val (.long i2), .second, .val (.long i3), .second, .val (.long i4), .second, .val (.int (2 : Int32)), .val (.ref b17), .val (.ref r_21), .val (.ref r_22), .val (.int (1 : Int32)), .val (.ref r_28), .val (.ref r_29)] [(.int (1 : Int32))]) _ _ _
    refine o_iconst K X30 at_197 (pc' := 198) rfl (z := (1 : Int32)) rfl ?_
    refine o_icmp_ne_f K X30 at_198 (pc' := 201) rfl (by decide) ?_
    refine o_aload K X30 at_201 (pc' := 203) rfl rfl rfl ?_
    refine o_virtual K X30 (y := (⟨"com/example/rosterlink/rosterlink/model/IdChunks", "size", "()I"⟩ : MethodName)) (z := (⟨"com/example/rosterlink/rosterlink/model/IdChunks", "size", "()I"⟩ : MethodName)) (w24 hw) (w25 hw) (notFace_of_selects (args := #[]) (mvT K.2.1 (w27 hw))) (w27 hw) (w26 hw) (w3 hw) (w28 hw) (by decide) ((u22_2.keep u28_0).keep u29_0) (rm_size l Z a0 hw r_22 (0 : Int32) h29 ((u22_5.keep u28_0 nin0).keep u29_0 nin0)) (by decide) rfl (argsL := []) rfl (lenOf pd_law_2 rfl) (W := 0) rfl (by decide) (by decide) (by decide) at_203 (pc' := 206) rfl ?_
    intro v31 T31 h31 X31 U31
    obtain ⟨rfl, rfl⟩ := U31
    show oGoes pp ee bb ss Z T31 (mkF mm 206 #[.val (.int i0), .val (.long i1), .second, .val (.long i2), .second, .val (.long i3), .second, .val (.long i4), .second, .val (.int (2 : Int32)), .val (.ref b17), .val (.ref r_21), .val (.ref r_22), .val (.int (1 : Int32)), .val (.ref r_28), .val (.ref r_29)] [(.int (0 : Int32))]) _ _ _
    refine o_if_ne_f K X31 at_206 (pc' := 209) rfl (by decide) ?_
    refine o_aload K X31 at_209 (pc' := 211) rfl rfl rfl ?_
    refine o_ifnull_f K X31 at_211 (pc' := 214) rfl ?_
    refine o_aload K X31 at_214 (pc' := 216) rfl rfl rfl ?_
    refine o_aload K X31 at_216 (pc' := 218) rfl rfl rfl ?_
    refine o_static K X31 (y := (⟨"com/example/rosterlink/rosterlink/model/IdChunksEmptyPinLaw", "same", "([J[J)Z"⟩ : MethodName)) (w81 hw) (w82 hw) (w83 hw) (w84 hw) (by decide) (rm_same2 l Z a0 hw r_29 k_29 b17 k17 i2 i3 h29 u29_2 (((((A19.ext E20).keep u21_0 nin0).keep u22_0 nin0).keep u28_0 nin0).keep u29_0 nin0)) (by decide) rfl (argsL := [(.ref r_29), (.ref b17)]) rfl (lenOf pd_law_8 rfl) (W := 0) rfl (by decide) (by decide) (by decide) at_218 (pc' := 221) rfl ?_
    intro v32 T32 h32 X32 U32
    obtain ⟨rfl, rfl⟩ := U32
    show oGoes pp ee bb ss Z T32 (mkF mm 221 #[.val (.int i0), .val (.long i1), .second, .val (.long i2), .second, .val (.long i3), .second, .val (.long i4), .second, .val (.int (2 : Int32)), .val (.ref b17), .val (.ref r_21), .val (.ref r_22), .val (.int (1 : Int32)), .val (.ref r_28), .val (.ref r_29)] [(.int (1 : Int32))]) _ _ _
    refine o_if_eq_f K X32 at_221 (pc' := 224) rfl (by decide) ?_
    refine o_aload K X32 at_224 (pc' := 226) rfl rfl rfl ?_
    refine o_virtual K X32 (y := (⟨"com/example/rosterlink/rosterlink/model/IdChunks", "entries", "()[J"⟩ : MethodName)) (z := (⟨"com/example/rosterlink/rosterlink/model/IdChunks", "entries", "()[J"⟩ : MethodName)) (w85 hw) (w86 hw) (notFace_of_selects (args := #[]) (mvT K.2.1 (w88 hw))) (w88 hw) (w87 hw) (w3 hw) (w89 hw) (by decide) (u28_2.keep u29_0) (rm_ents2 l Z a0 hw r_28 ch_28 k_28 x_28 kx_28 i2 i3 h29 (u28_2.keep u29_0) (u28_3.keep u29_0 nin0) (u28_4.keep u29_0 nin0) (u28_5.keep u29_0 nin0) (u28_7.keep u29_0 nin0) (u28_9.keep u29_0 nin0) (u28_10.keep u29_0)) (by decide) rfl (argsL := []) rfl (lenOf pd_law_9 rfl) (W := 0) rfl (by decide) (by decide) (by decide) at_226 (pc' := 229) rfl ?_
    intro v33 T33 h33 X33 U33
    obtain ⟨r_33, k_33, rfl, u33_0, u33_1, u33_2⟩ := U33
    have G33_r : Z.heap.size ≤ r_33 := Nat.le_trans (Nat.le_trans E0.1 (Nat.le_trans (Nat.le_trans (Nat.le_trans (Nat.le_trans (Nat.le_trans (Nat.le_trans (Nat.le_trans E17.1 (Keep.of_wr W18).1) (Keep.of_wr W19).1) E20.1) u21_0.1) u22_0.1) u28_0.1) u29_0.1)) u33_1
    show oGoes pp ee bb ss Z T33 (mkF mm 229 #[.val (.int i0), .val (.long i1), .second, .val (.long i2), .second, .val (.long i3), .second, .val (.long i4), .second, .val (.int (2 : Int32)), .val (.ref b17), .val (.ref r_21), .val (.ref r_22), .val (.int (1 : Int32)), .val (.ref r_28), .val (.ref r_29)] [(.ref r_33)]) _ _ _
    refine o_arraylength K X33 u33_2 (z := (2 : Int32)) rfl at_229 (pc' := 230) rfl ?_
    refine o_iload K X33 at_230 (pc' := 232) rfl rfl ?_
    refine o_icmp_ne_f K X33 at_232 (pc' := 235) rfl (by decide) ?_
    refine o_iconst K X33 at_235 (pc' := 236) rfl (z := (1 : Int32)) rfl ?_
    refine o_goto K X33 at_236 (by decide) (pc' := 240) (by decide) ?_
    refine o_istore K X33 at_240 (pc' := 242) rfl (L' := #[.val (.int i0), .val (.long i1), .second, .val (.long i2), .second, .val (.long i3), .second, .val (.long i4), .second, .val (.int (2 : Int32)), .val (.ref b17), .val (.ref r_21), .val (.ref r_22), .val (.int (1 : Int32)), .val (.ref r_28), .val (.ref r_29)]) rfl ?_
    refine o_iload K X33 at_242 (pc' := 244) rfl rfl ?_
    refine o_ireturnN K X33 .boolean at_244 rfl (by simp) (z' := (1 : Int32)) (by decide) ?_ (by decide) (by decide)
    exact rfl
  · refine o_iadd K X0 at_4 (pc' := 5) rfl (z := (3 : Int32)) (by rw [e2]; decide) ?_
    refine o_istore K X0 at_5 (pc' := 7) rfl (L' := #[.val (.int i0), .val (.long i1), .second, .val (.long i2), .second, .val (.long i3), .second, .val (.long i4), .second, .val (.int (3 : Int32)), .unset, .unset, .unset, .unset, .unset, .unset]) rfl ?_
    refine o_iload K X0 at_7 (pc' := 9) rfl rfl ?_
    refine o_iconst K X0 at_9 (pc' := 10) rfl (z := (1 : Int32)) rfl ?_
    refine o_icmp_ne_t K X0 at_10 (by decide) (pc' := 25) (by decide) (by decide) ?_
    refine o_iload K X0 at_25 (pc' := 27) rfl rfl ?_
    refine o_iconst K X0 at_27 (pc' := 28) rfl (z := (2 : Int32)) rfl ?_
    refine o_icmp_ne_t K X0 at_28 (by decide) (pc' := 48) (by decide) (by decide) ?_
    refine o_iload K X0 at_48 (pc' := 50) rfl rfl ?_
    refine o_iconst K X0 at_50 (pc' := 51) rfl (z := (3 : Int32)) rfl ?_
    refine o_icmp_ne_f K X0 at_51 (pc' := 54) rfl (by decide) ?_
    refine o_iconst K X0 at_54 (pc' := 55) rfl (z := (3 : Int32)) rfl ?_
    refine o_newarray K X0 (aty := .long) 3 (w0 hw) (ad := "[J") (by decide +kernel) (by decide) (by decide) (by decide) rfl at_55 (pc' := 57) rfl (by decide) (by decide) ?_
    intro T34 h34 b34 k34 X34 g34 E34 A34 B34 G34
    replace A34 : oArr Z h34 b34 k34 .long [(.long (0 : Int64)), (.long (0 : Int64)), (.long (0 : Int64))] := A34
    refine o_dup K X34 at_57 (pc' := 58) rfl rfl ?_
    refine o_iconst K X34 at_58 (pc' := 59) rfl (z := (0 : Int32)) rfl ?_
    refine o_lloadN K X34 at_59 (pc' := 60) rfl rfl ?_
    refine o_lastore K X34 A34 (by decide) (show (0 : Int32).toNatClampNeg < 3 from (by decide)) G34 (z := (.long i2)) rfl at_60 (pc' := 61) rfl ?_
    intro T35 h35 X35 W35 A35
    replace A35 : oArr Z h35 b34 k34 .long [(.long i2), (.long (0 : Int64)), (.long (0 : Int64))] := A35
    refine o_dup K X35 at_61 (pc' := 62) rfl rfl ?_
    refine o_iconst K X35 at_62 (pc' := 63) rfl (z := (1 : Int32)) rfl ?_
    refine o_lload K X35 at_63 (pc' := 65) rfl rfl ?_
    refine o_lastore K X35 A35 (by decide) (show (1 : Int32).toNatClampNeg < 3 from (by decide)) G34 (z := (.long i3)) rfl at_65 (pc' := 66) rfl ?_
    intro T36 h36 X36 W36 A36
    replace A36 : oArr Z h36 b34 k34 .long [(.long i2), (.long i3), (.long (0 : Int64))] := A36
    refine o_dup K X36 at_66 (pc' := 67) rfl rfl ?_
    refine o_iconst K X36 at_67 (pc' := 68) rfl (z := (2 : Int32)) rfl ?_
    refine o_lload K X36 at_68 (pc' := 70) rfl rfl ?_
    refine o_lastore K X36 A36 (by decide) (show (2 : Int32).toNatClampNeg < 3 from (by decide)) G34 (z := (.long i4)) rfl at_70 (pc' := 71) rfl ?_
    intro T37 h37 X37 W37 A37
    replace A37 : oArr Z h37 b34 k34 .long [(.long i2), (.long i3), (.long i4)] := A37
    refine o_astore K X37 at_71 (pc' := 73) rfl rfl (L' := #[.val (.int i0), .val (.long i1), .second, .val (.long i2), .second, .val (.long i3), .second, .val (.long i4), .second, .val (.int (3 : Int32)), .val (.ref b34), .unset, .unset, .unset, .unset, .unset]) rfl ?_
    refine o_goto K X37 at_73 (by decide) (pc' := 99) (by decide) ?_
    refine o_iload K X37 at_99 (pc' := 101) rfl rfl ?_
    refine o_iconst K X37 at_101 (pc' := 102) rfl (z := (0 : Int32)) rfl ?_
    refine o_newarray K X37 (aty := .long) 0 (w0 hw) (ad := "[J") (by decide +kernel) (by decide) (by decide) (by decide) rfl at_102 (pc' := 104) rfl (by decide) (by decide) ?_
    intro T38 h38 b38 k38 X38 g38 E38 A38 B38 G38
    replace A38 : oArr Z h38 b38 k38 .long [] := A38
    refine o_static K X38 (y := (⟨"com/example/rosterlink/rosterlink/model/IdChunks", "of", "(I[J)Lcom/example/rosterlink/rosterlink/model/IdChunks;"⟩ : MethodName)) (w1 hw) (w2 hw) (w3 hw) (w4 hw) (by decide) (rm_of3 l Z a0 hw b38 k38 h38 A38) (by decide) rfl (argsL := [(.int (3 : Int32)), (.ref b38)]) rfl (lenOf pd_law_0 rfl) (W := 0) rfl (by decide) (by decide) (by decide) at_104 (pc' := 107) rfl ?_
    intro v39 T39 h39 X39 U39
    obtain ⟨r_39, ch_39, k_39, rfl, u39_0, u39_1, u39_2, u39_3, u39_4, u39_5, u39_6, u39_7, u39_8⟩ := U39
    have G39_r : Z.heap.size ≤ r_39 := Nat.le_trans (Nat.le_trans E0.1 (Nat.le_trans (Nat.le_trans (Nat.le_trans (Nat.le_trans E34.1 (Keep.of_wr W35).1) (Keep.of_wr W36).1) (Keep.of_wr W37).1) E38.1)) u39_1
    have G39_ch : Z.heap.size ≤ ch_39 := Nat.le_trans (Nat.le_trans E0.1 (Nat.le_trans (Nat.le_trans (Nat.le_trans (Nat.le_trans E34.1 (Keep.of_wr W35).1) (Keep.of_wr W36).1) (Keep.of_wr W37).1) E38.1)) u39_6
    show oGoes pp ee bb ss Z T39 (mkF mm 107 #[.val (.int i0), .val (.long i1), .second, .val (.long i2), .second, .val (.long i3), .second, .val (.long i4), .second, .val (.int (3 : Int32)), .val (.ref b34), .unset, .unset, .unset, .unset, .unset] [(.ref r_39)]) _ _ _
    refine o_astore K X39 at_107 (pc' := 109) rfl rfl (L' := #[.val (.int i0), .val (.long i1), .second, .val (.long i2), .second, .val (.long i3), .second, .val (.long i4), .second, .val (.int (3 : Int32)), .val (.ref b34), .val (.ref r_39), .unset, .unset, .unset, .unset]) rfl ?_
    refine o_iload K X39 at_109 (pc' := 111) rfl rfl ?_
    refine o_static K X39 (y := (⟨"com/example/rosterlink/rosterlink/model/IdChunks", "empty", "(I)Lcom/example/rosterlink/rosterlink/model/IdChunks;"⟩ : MethodName)) (w21 hw) (w22 hw) (w3 hw) (w23 hw) (by decide) (rm_empty l Z a0 hw (3 : Int32) h39) (by decide) rfl (argsL := [(.int (3 : Int32))]) rfl (lenOf pd_law_1 rfl) (W := 0) rfl (by decide) (by decide) (by decide) at_111 (pc' := 114) rfl ?_
    intro v40 T40 h40 X40 U40
    obtain ⟨r_40, ch_40, k_40, rfl, u40_0, u40_1, u40_2, u40_3, u40_4, u40_5, u40_6, u40_7, u40_8⟩ := U40
    have G40_r : Z.heap.size ≤ r_40 := Nat.le_trans (Nat.le_trans E0.1 (Nat.le_trans (Nat.le_trans (Nat.le_trans (Nat.le_trans (Nat.le_trans E34.1 (Keep.of_wr W35).1) (Keep.of_wr W36).1) (Keep.of_wr W37).1) E38.1) u39_0.1)) u40_1
    have G40_ch : Z.heap.size ≤ ch_40 := Nat.le_trans (Nat.le_trans E0.1 (Nat.le_trans (Nat.le_trans (Nat.le_trans (Nat.le_trans (Nat.le_trans E34.1 (Keep.of_wr W35).1) (Keep.of_wr W36).1) (Keep.of_wr W37).1) E38.1) u39_0.1)) u40_6
    show oGoes pp ee bb ss Z T40 (mkF mm 114 #[.val (.int i0), .val (.long i1), .second, .val (.long i2), .second, .val (.long i3), .second, .val (.long i4), .second, .val (.int (3 : Int32)), .val (.ref b34), .val (.ref r_39), .unset, .unset, .unset, .unset] [(.ref r_40)]) _ _ _
    refine o_astore K X40 at_114 (pc' := 116) rfl rfl (L' := #[.val (.int i0), .val (.long i1), .second, .val (.long i2), .second, .val (.long i3), .second, .val (.long i4), .second, .val (.int (3 : Int32)), .val (.ref b34), .val (.ref r_39), .val (.ref r_40), .unset, .unset, .unset]) rfl ?_
    refine o_aload K X40 at_116 (pc' := 118) rfl rfl rfl ?_
    refine o_virtual K X40 (y := (⟨"com/example/rosterlink/rosterlink/model/IdChunks", "size", "()I"⟩ : MethodName)) (z := (⟨"com/example/rosterlink/rosterlink/model/IdChunks", "size", "()I"⟩ : MethodName)) (w24 hw) (w25 hw) (notFace_of_selects (args := #[]) (mvT K.2.1 (w27 hw))) (w27 hw) (w26 hw) (w3 hw) (w28 hw) (by decide) u40_2 (rm_size l Z a0 hw r_40 (0 : Int32) h40 u40_5) (by decide) rfl (argsL := []) rfl (lenOf pd_law_2 rfl) (W := 0) rfl (by decide) (by decide) (by decide) at_118 (pc' := 121) rfl ?_
    intro v41 T41 h41 X41 U41
    obtain ⟨rfl, rfl⟩ := U41
    show oGoes pp ee bb ss Z T41 (mkF mm 121 #[.val (.int i0), .val (.long i1), .second, .val (.long i2), .second, .val (.long i3), .second, .val (.long i4), .second, .val (.int (3 : Int32)), .val (.ref b34), .val (.ref r_39), .val (.ref r_40), .unset, .unset, .unset] [(.int (0 : Int32))]) _ _ _
    refine o_if_ne_f K X41 at_121 (pc' := 124) rfl (by decide) ?_
    refine o_aload K X41 at_124 (pc' := 126) rfl rfl rfl ?_
    refine o_lloadN K X41 at_126 (pc' := 127) rfl rfl ?_
    refine o_virtual K X41 (y := (⟨"com/example/rosterlink/rosterlink/model/IdChunks", "contains", "(J)Z"⟩ : MethodName)) (z := (⟨"com/example/rosterlink/rosterlink/model/IdChunks", "contains", "(J)Z"⟩ : MethodName)) (w29 hw) (w30 hw) (notFace_of_selects (args := #[]) (mvT K.2.1 (w32 hw))) (w32 hw) (w31 hw) (w3 hw) (w33 hw) (by decide) u40_2 (rm_con0 l Z a0 hw r_40 (3 : Int32) ch_40 (0 : Int32) k_40 i1 h40 u40_2 u40_3 u40_4 u40_5 u40_7) (by decide) rfl (argsL := [(.long i1)]) rfl (lenOf pd_law_3 rfl) (W := 0) rfl (by decide) (by decide) (by decide) at_127 (pc' := 130) rfl ?_
    intro v42 T42 h42 X42 U42
    obtain ⟨rfl, rfl⟩ := U42
    show oGoes pp ee bb ss Z T42 (mkF mm 130 #[.val (.int i0), .val (.long i1), .second, .val (.long i2), .second, .val (.long i3), .second, .val (.long i4), .second, .val (.int (3 : Int32)), .val (.ref b34), .val (.ref r_39), .val (.ref r_40), .unset, .unset, .unset] [(.int (0 : Int32))]) _ _ _
    refine o_if_ne_f K X42 at_130 (pc' := 133) rfl (by decide) ?_
    refine o_aload K X42 at_133 (pc' := 135) rfl rfl rfl ?_
    refine o_lloadN K X42 at_135 (pc' := 136) rfl rfl ?_
    refine o_virtual K X42 (y := (⟨"com/example/rosterlink/rosterlink/model/IdChunks", "get", "(J)[J"⟩ : MethodName)) (z := (⟨"com/example/rosterlink/rosterlink/model/IdChunks", "get", "(J)[J"⟩ : MethodName)) (w38 hw) (w39 hw) (notFace_of_selects (args := #[]) (mvT K.2.1 (w41 hw))) (w41 hw) (w40 hw) (w3 hw) (w42 hw) (by decide) u40_2 (rm_get0 l Z a0 hw r_40 (3 : Int32) ch_40 (0 : Int32) k_40 i1 h40 u40_2 u40_3 u40_4 u40_5 u40_7) (by decide) rfl (argsL := [(.long i1)]) rfl (lenOf pd_law_4 rfl) (W := 0) rfl (by decide) (by decide) (by decide) at_136 (pc' := 139) rfl ?_
    intro v43 T43 h43 X43 U43
    obtain ⟨rfl, rfl⟩ := U43
    show oGoes pp ee bb ss Z T43 (mkF mm 139 #[.val (.int i0), .val (.long i1), .second, .val (.long i2), .second, .val (.long i3), .second, .val (.long i4), .second, .val (.int (3 : Int32)), .val (.ref b34), .val (.ref r_39), .val (.ref r_40), .unset, .unset, .unset] [.null]) _ _ _
    refine o_ifnonnull_f K X43 at_139 (pc' := 142) rfl ?_
    refine o_aload K X43 at_142 (pc' := 144) rfl rfl rfl ?_
    refine o_lloadN K X43 at_144 (pc' := 145) rfl rfl ?_
    refine o_virtual K X43 (y := (⟨"com/example/rosterlink/rosterlink/model/IdChunks", "without", "(J)Lcom/example/rosterlink/rosterlink/model/IdChunks;"⟩ : MethodName)) (z := (⟨"com/example/rosterlink/rosterlink/model/IdChunks", "without", "(J)Lcom/example/rosterlink/rosterlink/model/IdChunks;"⟩ : MethodName)) (w43 hw) (w44 hw) (notFace_of_selects (args := #[]) (mvT K.2.1 (w46 hw))) (w46 hw) (w45 hw) (w3 hw) (w47 hw) (by decide) u40_2 (rm_wo0 l Z a0 hw r_40 (3 : Int32) ch_40 (0 : Int32) k_40 i1 h40 u40_2 u40_3 u40_4 u40_5 u40_7) (by decide) rfl (argsL := [(.long i1)]) rfl (lenOf pd_law_5 rfl) (W := 0) rfl (by decide) (by decide) (by decide) at_145 (pc' := 148) rfl ?_
    intro v44 T44 h44 X44 U44
    obtain ⟨rfl, rfl⟩ := U44
    show oGoes pp ee bb ss Z T44 (mkF mm 148 #[.val (.int i0), .val (.long i1), .second, .val (.long i2), .second, .val (.long i3), .second, .val (.long i4), .second, .val (.int (3 : Int32)), .val (.ref b34), .val (.ref r_39), .val (.ref r_40), .unset, .unset, .unset] [(.ref r_40)]) _ _ _
    refine o_aload K X44 at_148 (pc' := 150) rfl rfl rfl ?_
    refine o_acmp K X44 true at_150 (by decide) rfl rfl (decide_eq_true rfl) (pc' := 153) (by decide) ?_
    refine o_aload K X44 at_153 (pc' := 155) rfl rfl rfl ?_
    refine o_aload K X44 at_155 (pc' := 157) rfl rfl rfl ?_
    refine o_virtual K X44 (y := (⟨"com/example/rosterlink/rosterlink/model/IdChunks", "equals", "(Ljava/lang/Object;)Z"⟩ : MethodName)) (z := (⟨"com/example/rosterlink/rosterlink/model/IdChunks", "equals", "(Ljava/lang/Object;)Z"⟩ : MethodName)) (w48 hw) (w49 hw) (notFace_of_selects (args := #[]) (mvT K.2.1 (w51 hw))) (w51 hw) (w50 hw) (w3 hw) (w52 hw) (by decide) u40_2 (rm_eq0 l Z a0 hw r_40 (3 : Int32) ch_40 (0 : Int32) k_40 r_39 ch_39 k_39 h40 u40_2 u40_3 u40_4 u40_5 u40_7 (u39_2.keep u40_0) (u39_3.keep u40_0 nin0) (u39_4.keep u40_0 nin0) (u39_5.keep u40_0 nin0) (u39_7.keep u40_0 nin0) (Ne.symm (Nat.ne_of_lt (Nat.lt_of_lt_of_le u39_2.lt u40_1)))) (by decide) rfl (argsL := [(.ref r_39)]) rfl (lenOf pd_law_6 rfl) (W := 0) rfl (by decide) (by decide) (by decide) at_157 (pc' := 160) rfl ?_
    intro v45 T45 h45 X45 U45
    obtain ⟨rfl, rfl⟩ := U45
    show oGoes pp ee bb ss Z T45 (mkF mm 160 #[.val (.int i0), .val (.long i1), .second, .val (.long i2), .second, .val (.long i3), .second, .val (.long i4), .second, .val (.int (3 : Int32)), .val (.ref b34), .val (.ref r_39), .val (.ref r_40), .unset, .unset, .unset] [(.int (1 : Int32))]) _ _ _
    refine o_if_eq_f K X45 at_160 (pc' := 163) rfl (by decide) ?_
    refine o_iconst K X45 at_163 (pc' := 164) rfl (z := (1 : Int32)) rfl ?_
    refine o_goto K X45 at_164 (by decide) (pc' := 168) (by decide) ?_
    refine o_istore K X45 at_168 (pc' := 170) rfl (L' := #[.val (.int i0), .val (.long i1), .second, .val (.long i2), .second, .val (.long i3), .second, .val (.long i4), .second, .val (.int (3 : Int32)), .val (.ref b34), .val (.ref r_39), .val (.ref r_40), .val (.int (1 : Int32)), .unset, .unset]) rfl ?_
    refine o_aload K X45 at_170 (pc' := 172) rfl rfl rfl ?_
    refine o_aload K X45 at_172 (pc' := 174) rfl rfl rfl ?_
    refine o_virtual K X45 (y := (⟨"com/example/rosterlink/rosterlink/model/IdChunks", "with", "([J)Lcom/example/rosterlink/rosterlink/model/IdChunks;"⟩ : MethodName)) (z := (⟨"com/example/rosterlink/rosterlink/model/IdChunks", "with", "([J)Lcom/example/rosterlink/rosterlink/model/IdChunks;"⟩ : MethodName)) (w58 hw) (w59 hw) (notFace_of_selects (args := #[]) (mvT K.2.1 (w61 hw))) (w61 hw) (w60 hw) (w3 hw) (w62 hw) (by decide) u40_2 (rm_with3 l Z a0 hw r_40 ch_40 (0 : Int32) k_40 b34 k34 i2 i3 i4 h40 u40_2 u40_3 u40_4 u40_5 u40_7 (((A37.ext E38).keep u39_0 nin0).keep u40_0 nin0) ((((Exa.wr W37 (Exa.wr W36 (Exa.wr W35 B34))).ext E38).keep u39_0).keep u40_0)) (by decide) rfl (argsL := [(.ref b34)]) rfl (lenOf pd_law_7 rfl) (W := 0) rfl (by decide) (by decide) (by decide) at_174 (pc' := 177) rfl ?_
    intro v46 T46 h46 X46 U46
    obtain ⟨r_46, ch_46, k_46, x_46, kx_46, rfl, u46_0, u46_1, u46_2, u46_3, u46_4, u46_5, u46_6, u46_7, u46_8, u46_9, u46_10⟩ := U46
    have G46_r : Z.heap.size ≤ r_46 := Nat.le_trans (Nat.le_trans E0.1 (Nat.le_trans (Nat.le_trans (Nat.le_trans (Nat.le_trans (Nat.le_trans (Nat.le_trans E34.1 (Keep.of_wr W35).1) (Keep.of_wr W36).1) (Keep.of_wr W37).1) E38.1) u39_0.1) u40_0.1)) u46_1
    have G46_ch : Z.heap.size ≤ ch_46 := Nat.le_trans (Nat.le_trans E0.1 (Nat.le_trans (Nat.le_trans (Nat.le_trans (Nat.le_trans (Nat.le_trans (Nat.le_trans E34.1 (Keep.of_wr W35).1) (Keep.of_wr W36).1) (Keep.of_wr W37).1) E38.1) u39_0.1) u40_0.1)) u46_6
    have G46_x : Z.heap.size ≤ x_46 := Nat.le_trans (Nat.le_trans E0.1 (Nat.le_trans (Nat.le_trans (Nat.le_trans (Nat.le_trans (Nat.le_trans (Nat.le_trans E34.1 (Keep.of_wr W35).1) (Keep.of_wr W36).1) (Keep.of_wr W37).1) E38.1) u39_0.1) u40_0.1)) u46_8
    show oGoes pp ee bb ss Z T46 (mkF mm 177 #[.val (.int i0), .val (.long i1), .second, .val (.long i2), .second, .val (.long i3), .second, .val (.long i4), .second, .val (.int (3 : Int32)), .val (.ref b34), .val (.ref r_39), .val (.ref r_40), .val (.int (1 : Int32)), .unset, .unset] [(.ref r_46)]) _ _ _
    refine o_astore K X46 at_177 (pc' := 179) rfl rfl (L' := #[.val (.int i0), .val (.long i1), .second, .val (.long i2), .second, .val (.long i3), .second, .val (.long i4), .second, .val (.int (3 : Int32)), .val (.ref b34), .val (.ref r_39), .val (.ref r_40), .val (.int (1 : Int32)), .val (.ref r_46), .unset]) rfl ?_
    refine o_aload K X46 at_179 (pc' := 181) rfl rfl rfl ?_
    refine o_lloadN K X46 at_181 (pc' := 182) rfl rfl ?_
    refine o_virtual K X46 (y := (⟨"com/example/rosterlink/rosterlink/model/IdChunks", "get", "(J)[J"⟩ : MethodName)) (z := (⟨"com/example/rosterlink/rosterlink/model/IdChunks", "get", "(J)[J"⟩ : MethodName)) (w38 hw) (w39 hw) (notFace_of_selects (args := #[]) (mvT K.2.1 (w41 hw))) (w41 hw) (w40 hw) (w3 hw) (w42 hw) (by decide) u46_2 (rm_get1_3 l Z a0 hw r_46 ch_46 k_46 x_46 kx_46 i2 i3 i4 h46 u46_2 u46_3 u46_4 u46_5 u46_7 u46_9 u46_10) (by decide) rfl (argsL := [(.long i2)]) rfl (lenOf pd_law_4 rfl) (W := 0) rfl (by decide) (by decide) (by decide) at_182 (pc' := 185) rfl ?_
    intro v47 T47 h47 X47 U47
    obtain ⟨r_47, k_47, rfl, u47_0, u47_1, u47_2, u47_3⟩ := U47
    have G47_r : Z.heap.size ≤ r_47 := Nat.le_trans (Nat.le_trans E0.1 (Nat.le_trans (Nat.le_trans (Nat.le_trans (Nat.le_trans (Nat.le_trans (Nat.le_trans (Nat.le_trans E34.1 (Keep.of_wr W35).1) (Keep.of_wr W36).1) (Keep.of_wr W37).1) E38.1) u39_0.1) u40_0.1) u46_0.1)) u47_1
    show oGoes pp ee bb ss Z T47 (mkF mm 185 #[.val (.int i0), .val (.long i1), .second, .val (.long i2), .second, .val (.long i3), .second, .val (.long i4), .second, .val (.int (3 : Int32)), .val (.ref b34), .val (.ref r_39), .val (.ref r_40), .val (.int (1 : Int32)), .val (.ref r_46), .unset] [(.ref r_47)]) _ _ _
    refine o_astore K X47 at_185 (pc' := 187) rfl rfl (L' := #[.val (.int i0), .val (.long i1), .second, .val (.long i2), .second, .val (.long i3), .second, .val (.long i4), .second, .val (.int (3 : Int32)), .val (.ref b34), .val (.ref r_39), .val (.ref r_40), .val (.int (1 : Int32)), .val (.ref r_46), .val (.ref r_47)]) rfl ?_
    refine o_iload K X47 at_187 (pc' := 189) rfl rfl ?_
    refine o_if_eq_f K X47 at_189 (pc' := 192) rfl (by decide) ?_
    refine o_aload K X47 at_192 (pc' := 194) rfl rfl rfl ?_
    refine o_virtual K X47 (y := (⟨"com/example/rosterlink/rosterlink/model/IdChunks", "size", "()I"⟩ : MethodName)) (z := (⟨"com/example/rosterlink/rosterlink/model/IdChunks", "size", "()I"⟩ : MethodName)) (w24 hw) (w25 hw) (notFace_of_selects (args := #[]) (mvT K.2.1 (w27 hw))) (w27 hw) (w26 hw) (w3 hw) (w28 hw) (by decide) (u46_2.keep u47_0) (rm_size l Z a0 hw r_46 (1 : Int32) h47 (u46_5.keep u47_0 nin0)) (by decide) rfl (argsL := []) rfl (lenOf pd_law_2 rfl) (W := 0) rfl (by decide) (by decide) (by decide) at_194 (pc' := 197) rfl ?_
    intro v48 T48 h48 X48 U48
    obtain ⟨rfl, rfl⟩ := U48
    show oGoes pp ee bb ss Z T48 (mkF mm 197 #[.val (.int i0), .val (.long i1), .second, .val (.long i2), .second, .val (.long i3), .second, .val (.long i4), .second, .val (.int (3 : Int32)), .val (.ref b34), .val (.ref r_39), .val (.ref r_40), .val (.int (1 : Int32)), .val (.ref r_46), .val (.ref r_47)] [(.int (1 : Int32))]) _ _ _
    refine o_iconst K X48 at_197 (pc' := 198) rfl (z := (1 : Int32)) rfl ?_
    refine o_icmp_ne_f K X48 at_198 (pc' := 201) rfl (by decide) ?_
    refine o_aload K X48 at_201 (pc' := 203) rfl rfl rfl ?_
    refine o_virtual K X48 (y := (⟨"com/example/rosterlink/rosterlink/model/IdChunks", "size", "()I"⟩ : MethodName)) (z := (⟨"com/example/rosterlink/rosterlink/model/IdChunks", "size", "()I"⟩ : MethodName)) (w24 hw) (w25 hw) (notFace_of_selects (args := #[]) (mvT K.2.1 (w27 hw))) (w27 hw) (w26 hw) (w3 hw) (w28 hw) (by decide) ((u40_2.keep u46_0).keep u47_0) (rm_size l Z a0 hw r_40 (0 : Int32) h47 ((u40_5.keep u46_0 nin0).keep u47_0 nin0)) (by decide) rfl (argsL := []) rfl (lenOf pd_law_2 rfl) (W := 0) rfl (by decide) (by decide) (by decide) at_203 (pc' := 206) rfl ?_
    intro v49 T49 h49 X49 U49
    obtain ⟨rfl, rfl⟩ := U49
    show oGoes pp ee bb ss Z T49 (mkF mm 206 #[.val (.int i0), .val (.long i1), .second, .val (.long i2), .second, .val (.long i3), .second, .val (.long i4), .second, .val (.int (3 : Int32)), .val (.ref b34), .val (.ref r_39), .val (.ref r_40), .val (.int (1 : Int32)), .val (.ref r_46), .val (.ref r_47)] [(.int (0 : Int32))]) _ _ _
    refine o_if_ne_f K X49 at_206 (pc' := 209) rfl (by decide) ?_
    refine o_aload K X49 at_209 (pc' := 211) rfl rfl rfl ?_
    refine o_ifnull_f K X49 at_211 (pc' := 214) rfl ?_
    refine o_aload K X49 at_214 (pc' := 216) rfl rfl rfl ?_
    refine o_aload K X49 at_216 (pc' := 218) rfl rfl rfl ?_
    refine o_static K X49 (y := (⟨"com/example/rosterlink/rosterlink/model/IdChunksEmptyPinLaw", "same", "([J[J)Z"⟩ : MethodName)) (w81 hw) (w82 hw) (w83 hw) (w84 hw) (by decide) (rm_same3 l Z a0 hw r_47 k_47 b34 k34 i2 i3 i4 h47 u47_2 (((((A37.ext E38).keep u39_0 nin0).keep u40_0 nin0).keep u46_0 nin0).keep u47_0 nin0)) (by decide) rfl (argsL := [(.ref r_47), (.ref b34)]) rfl (lenOf pd_law_8 rfl) (W := 0) rfl (by decide) (by decide) (by decide) at_218 (pc' := 221) rfl ?_
    intro v50 T50 h50 X50 U50
    obtain ⟨rfl, rfl⟩ := U50
    show oGoes pp ee bb ss Z T50 (mkF mm 221 #[.val (.int i0), .val (.long i1), .second, .val (.long i2), .second, .val (.long i3), .second, .val (.long i4), .second, .val (.int (3 : Int32)), .val (.ref b34), .val (.ref r_39), .val (.ref r_40), .val (.int (1 : Int32)), .val (.ref r_46), .val (.ref r_47)] [(.int (1 : Int32))]) _ _ _
    refine o_if_eq_f K X50 at_221 (pc' := 224) rfl (by decide) ?_
    refine o_aload K X50 at_224 (pc' := 226) rfl rfl rfl ?_
    refine o_virtual K X50 (y := (⟨"com/example/rosterlink/rosterlink/model/IdChunks", "entries", "()[J"⟩ : MethodName)) (z := (⟨"com/example/rosterlink/rosterlink/model/IdChunks", "entries", "()[J"⟩ : MethodName)) (w85 hw) (w86 hw) (notFace_of_selects (args := #[]) (mvT K.2.1 (w88 hw))) (w88 hw) (w87 hw) (w3 hw) (w89 hw) (by decide) (u46_2.keep u47_0) (rm_ents3 l Z a0 hw r_46 ch_46 k_46 x_46 kx_46 i2 i3 i4 h47 (u46_2.keep u47_0) (u46_3.keep u47_0 nin0) (u46_4.keep u47_0 nin0) (u46_5.keep u47_0 nin0) (u46_7.keep u47_0 nin0) (u46_9.keep u47_0 nin0) (u46_10.keep u47_0)) (by decide) rfl (argsL := []) rfl (lenOf pd_law_9 rfl) (W := 0) rfl (by decide) (by decide) (by decide) at_226 (pc' := 229) rfl ?_
    intro v51 T51 h51 X51 U51
    obtain ⟨r_51, k_51, rfl, u51_0, u51_1, u51_2⟩ := U51
    have G51_r : Z.heap.size ≤ r_51 := Nat.le_trans (Nat.le_trans E0.1 (Nat.le_trans (Nat.le_trans (Nat.le_trans (Nat.le_trans (Nat.le_trans (Nat.le_trans (Nat.le_trans (Nat.le_trans E34.1 (Keep.of_wr W35).1) (Keep.of_wr W36).1) (Keep.of_wr W37).1) E38.1) u39_0.1) u40_0.1) u46_0.1) u47_0.1)) u51_1
    show oGoes pp ee bb ss Z T51 (mkF mm 229 #[.val (.int i0), .val (.long i1), .second, .val (.long i2), .second, .val (.long i3), .second, .val (.long i4), .second, .val (.int (3 : Int32)), .val (.ref b34), .val (.ref r_39), .val (.ref r_40), .val (.int (1 : Int32)), .val (.ref r_46), .val (.ref r_47)] [(.ref r_51)]) _ _ _
    refine o_arraylength K X51 u51_2 (z := (3 : Int32)) rfl at_229 (pc' := 230) rfl ?_
    refine o_iload K X51 at_230 (pc' := 232) rfl rfl ?_
    refine o_icmp_ne_f K X51 at_232 (pc' := 235) rfl (by decide) ?_
    refine o_iconst K X51 at_235 (pc' := 236) rfl (z := (1 : Int32)) rfl ?_
    refine o_goto K X51 at_236 (by decide) (pc' := 240) (by decide) ?_
    refine o_istore K X51 at_240 (pc' := 242) rfl (L' := #[.val (.int i0), .val (.long i1), .second, .val (.long i2), .second, .val (.long i3), .second, .val (.long i4), .second, .val (.int (3 : Int32)), .val (.ref b34), .val (.ref r_39), .val (.ref r_40), .val (.int (1 : Int32)), .val (.ref r_46), .val (.ref r_47)]) rfl ?_
    refine o_iload K X51 at_242 (pc' := 244) rfl rfl ?_
    refine o_ireturnN K X51 .boolean at_244 rfl (by simp) (z' := (1 : Int32)) (by decide) ?_ (by decide) (by decide)
    exact rfl
  · refine o_iadd K X0 at_4 (pc' := 5) rfl (z := (4 : Int32)) (by rw [e3]; decide) ?_
    refine o_istore K X0 at_5 (pc' := 7) rfl (L' := #[.val (.int i0), .val (.long i1), .second, .val (.long i2), .second, .val (.long i3), .second, .val (.long i4), .second, .val (.int (4 : Int32)), .unset, .unset, .unset, .unset, .unset, .unset]) rfl ?_
    refine o_iload K X0 at_7 (pc' := 9) rfl rfl ?_
    refine o_iconst K X0 at_9 (pc' := 10) rfl (z := (1 : Int32)) rfl ?_
    refine o_icmp_ne_t K X0 at_10 (by decide) (pc' := 25) (by decide) (by decide) ?_
    refine o_iload K X0 at_25 (pc' := 27) rfl rfl ?_
    refine o_iconst K X0 at_27 (pc' := 28) rfl (z := (2 : Int32)) rfl ?_
    refine o_icmp_ne_t K X0 at_28 (by decide) (pc' := 48) (by decide) (by decide) ?_
    refine o_iload K X0 at_48 (pc' := 50) rfl rfl ?_
    refine o_iconst K X0 at_50 (pc' := 51) rfl (z := (3 : Int32)) rfl ?_
    refine o_icmp_ne_t K X0 at_51 (by decide) (pc' := 76) (by decide) (by decide) ?_
    refine o_iconst K X0 at_76 (pc' := 77) rfl (z := (4 : Int32)) rfl ?_
    refine o_newarray K X0 (aty := .long) 4 (w0 hw) (ad := "[J") (by decide +kernel) (by decide) (by decide) (by decide) rfl at_77 (pc' := 79) rfl (by decide) (by decide) ?_
    intro T52 h52 b52 k52 X52 g52 E52 A52 B52 G52
    replace A52 : oArr Z h52 b52 k52 .long [(.long (0 : Int64)), (.long (0 : Int64)), (.long (0 : Int64)), (.long (0 : Int64))] := A52
    refine o_dup K X52 at_79 (pc' := 80) rfl rfl ?_
    refine o_iconst K X52 at_80 (pc' := 81) rfl (z := (0 : Int32)) rfl ?_
    refine o_lloadN K X52 at_81 (pc' := 82) rfl rfl ?_
    refine o_lastore K X52 A52 (by decide) (show (0 : Int32).toNatClampNeg < 4 from (by decide)) G52 (z := (.long i2)) rfl at_82 (pc' := 83) rfl ?_
    intro T53 h53 X53 W53 A53
    replace A53 : oArr Z h53 b52 k52 .long [(.long i2), (.long (0 : Int64)), (.long (0 : Int64)), (.long (0 : Int64))] := A53
    refine o_dup K X53 at_83 (pc' := 84) rfl rfl ?_
    refine o_iconst K X53 at_84 (pc' := 85) rfl (z := (1 : Int32)) rfl ?_
    refine o_lload K X53 at_85 (pc' := 87) rfl rfl ?_
    refine o_lastore K X53 A53 (by decide) (show (1 : Int32).toNatClampNeg < 4 from (by decide)) G52 (z := (.long i3)) rfl at_87 (pc' := 88) rfl ?_
    intro T54 h54 X54 W54 A54
    replace A54 : oArr Z h54 b52 k52 .long [(.long i2), (.long i3), (.long (0 : Int64)), (.long (0 : Int64))] := A54
    refine o_dup K X54 at_88 (pc' := 89) rfl rfl ?_
    refine o_iconst K X54 at_89 (pc' := 90) rfl (z := (2 : Int32)) rfl ?_
    refine o_lload K X54 at_90 (pc' := 92) rfl rfl ?_
    refine o_lastore K X54 A54 (by decide) (show (2 : Int32).toNatClampNeg < 4 from (by decide)) G52 (z := (.long i4)) rfl at_92 (pc' := 93) rfl ?_
    intro T55 h55 X55 W55 A55
    replace A55 : oArr Z h55 b52 k52 .long [(.long i2), (.long i3), (.long i4), (.long (0 : Int64))] := A55
    refine o_dup K X55 at_93 (pc' := 94) rfl rfl ?_
    refine o_iconst K X55 at_94 (pc' := 95) rfl (z := (3 : Int32)) rfl ?_
    refine o_lloadN K X55 at_95 (pc' := 96) rfl rfl ?_
    refine o_lastore K X55 A55 (by decide) (show (3 : Int32).toNatClampNeg < 4 from (by decide)) G52 (z := (.long i1)) rfl at_96 (pc' := 97) rfl ?_
    intro T56 h56 X56 W56 A56
    replace A56 : oArr Z h56 b52 k52 .long [(.long i2), (.long i3), (.long i4), (.long i1)] := A56
    refine o_astore K X56 at_97 (pc' := 99) rfl rfl (L' := #[.val (.int i0), .val (.long i1), .second, .val (.long i2), .second, .val (.long i3), .second, .val (.long i4), .second, .val (.int (4 : Int32)), .val (.ref b52), .unset, .unset, .unset, .unset, .unset]) rfl ?_
    refine o_iload K X56 at_99 (pc' := 101) rfl rfl ?_
    refine o_iconst K X56 at_101 (pc' := 102) rfl (z := (0 : Int32)) rfl ?_
    refine o_newarray K X56 (aty := .long) 0 (w0 hw) (ad := "[J") (by decide +kernel) (by decide) (by decide) (by decide) rfl at_102 (pc' := 104) rfl (by decide) (by decide) ?_
    intro T57 h57 b57 k57 X57 g57 E57 A57 B57 G57
    replace A57 : oArr Z h57 b57 k57 .long [] := A57
    refine o_static K X57 (y := (⟨"com/example/rosterlink/rosterlink/model/IdChunks", "of", "(I[J)Lcom/example/rosterlink/rosterlink/model/IdChunks;"⟩ : MethodName)) (w1 hw) (w2 hw) (w3 hw) (w4 hw) (by decide) (rm_of4 l Z a0 hw b57 k57 h57 A57) (by decide) rfl (argsL := [(.int (4 : Int32)), (.ref b57)]) rfl (lenOf pd_law_0 rfl) (W := 0) rfl (by decide) (by decide) (by decide) at_104 (pc' := 107) rfl ?_
    intro v58 T58 h58 X58 U58
    obtain ⟨r_58, ch_58, k_58, rfl, u58_0, u58_1, u58_2, u58_3, u58_4, u58_5, u58_6, u58_7, u58_8⟩ := U58
    have G58_r : Z.heap.size ≤ r_58 := Nat.le_trans (Nat.le_trans E0.1 (Nat.le_trans (Nat.le_trans (Nat.le_trans (Nat.le_trans (Nat.le_trans E52.1 (Keep.of_wr W53).1) (Keep.of_wr W54).1) (Keep.of_wr W55).1) (Keep.of_wr W56).1) E57.1)) u58_1
    have G58_ch : Z.heap.size ≤ ch_58 := Nat.le_trans (Nat.le_trans E0.1 (Nat.le_trans (Nat.le_trans (Nat.le_trans (Nat.le_trans (Nat.le_trans E52.1 (Keep.of_wr W53).1) (Keep.of_wr W54).1) (Keep.of_wr W55).1) (Keep.of_wr W56).1) E57.1)) u58_6
    show oGoes pp ee bb ss Z T58 (mkF mm 107 #[.val (.int i0), .val (.long i1), .second, .val (.long i2), .second, .val (.long i3), .second, .val (.long i4), .second, .val (.int (4 : Int32)), .val (.ref b52), .unset, .unset, .unset, .unset, .unset] [(.ref r_58)]) _ _ _
    refine o_astore K X58 at_107 (pc' := 109) rfl rfl (L' := #[.val (.int i0), .val (.long i1), .second, .val (.long i2), .second, .val (.long i3), .second, .val (.long i4), .second, .val (.int (4 : Int32)), .val (.ref b52), .val (.ref r_58), .unset, .unset, .unset, .unset]) rfl ?_
    refine o_iload K X58 at_109 (pc' := 111) rfl rfl ?_
    refine o_static K X58 (y := (⟨"com/example/rosterlink/rosterlink/model/IdChunks", "empty", "(I)Lcom/example/rosterlink/rosterlink/model/IdChunks;"⟩ : MethodName)) (w21 hw) (w22 hw) (w3 hw) (w23 hw) (by decide) (rm_empty l Z a0 hw (4 : Int32) h58) (by decide) rfl (argsL := [(.int (4 : Int32))]) rfl (lenOf pd_law_1 rfl) (W := 0) rfl (by decide) (by decide) (by decide) at_111 (pc' := 114) rfl ?_
    intro v59 T59 h59 X59 U59
    obtain ⟨r_59, ch_59, k_59, rfl, u59_0, u59_1, u59_2, u59_3, u59_4, u59_5, u59_6, u59_7, u59_8⟩ := U59
    have G59_r : Z.heap.size ≤ r_59 := Nat.le_trans (Nat.le_trans E0.1 (Nat.le_trans (Nat.le_trans (Nat.le_trans (Nat.le_trans (Nat.le_trans (Nat.le_trans E52.1 (Keep.of_wr W53).1) (Keep.of_wr W54).1) (Keep.of_wr W55).1) (Keep.of_wr W56).1) E57.1) u58_0.1)) u59_1
    have G59_ch : Z.heap.size ≤ ch_59 := Nat.le_trans (Nat.le_trans E0.1 (Nat.le_trans (Nat.le_trans (Nat.le_trans (Nat.le_trans (Nat.le_trans (Nat.le_trans E52.1 (Keep.of_wr W53).1) (Keep.of_wr W54).1) (Keep.of_wr W55).1) (Keep.of_wr W56).1) E57.1) u58_0.1)) u59_6
    show oGoes pp ee bb ss Z T59 (mkF mm 114 #[.val (.int i0), .val (.long i1), .second, .val (.long i2), .second, .val (.long i3), .second, .val (.long i4), .second, .val (.int (4 : Int32)), .val (.ref b52), .val (.ref r_58), .unset, .unset, .unset, .unset] [(.ref r_59)]) _ _ _
    refine o_astore K X59 at_114 (pc' := 116) rfl rfl (L' := #[.val (.int i0), .val (.long i1), .second, .val (.long i2), .second, .val (.long i3), .second, .val (.long i4), .second, .val (.int (4 : Int32)), .val (.ref b52), .val (.ref r_58), .val (.ref r_59), .unset, .unset, .unset]) rfl ?_
    refine o_aload K X59 at_116 (pc' := 118) rfl rfl rfl ?_
    refine o_virtual K X59 (y := (⟨"com/example/rosterlink/rosterlink/model/IdChunks", "size", "()I"⟩ : MethodName)) (z := (⟨"com/example/rosterlink/rosterlink/model/IdChunks", "size", "()I"⟩ : MethodName)) (w24 hw) (w25 hw) (notFace_of_selects (args := #[]) (mvT K.2.1 (w27 hw))) (w27 hw) (w26 hw) (w3 hw) (w28 hw) (by decide) u59_2 (rm_size l Z a0 hw r_59 (0 : Int32) h59 u59_5) (by decide) rfl (argsL := []) rfl (lenOf pd_law_2 rfl) (W := 0) rfl (by decide) (by decide) (by decide) at_118 (pc' := 121) rfl ?_
    intro v60 T60 h60 X60 U60
    obtain ⟨rfl, rfl⟩ := U60
    show oGoes pp ee bb ss Z T60 (mkF mm 121 #[.val (.int i0), .val (.long i1), .second, .val (.long i2), .second, .val (.long i3), .second, .val (.long i4), .second, .val (.int (4 : Int32)), .val (.ref b52), .val (.ref r_58), .val (.ref r_59), .unset, .unset, .unset] [(.int (0 : Int32))]) _ _ _
    refine o_if_ne_f K X60 at_121 (pc' := 124) rfl (by decide) ?_
    refine o_aload K X60 at_124 (pc' := 126) rfl rfl rfl ?_
    refine o_lloadN K X60 at_126 (pc' := 127) rfl rfl ?_
    refine o_virtual K X60 (y := (⟨"com/example/rosterlink/rosterlink/model/IdChunks", "contains", "(J)Z"⟩ : MethodName)) (z := (⟨"com/example/rosterlink/rosterlink/model/IdChunks", "contains", "(J)Z"⟩ : MethodName)) (w29 hw) (w30 hw) (notFace_of_selects (args := #[]) (mvT K.2.1 (w32 hw))) (w32 hw) (w31 hw) (w3 hw) (w33 hw) (by decide) u59_2 (rm_con0 l Z a0 hw r_59 (4 : Int32) ch_59 (0 : Int32) k_59 i1 h59 u59_2 u59_3 u59_4 u59_5 u59_7) (by decide) rfl (argsL := [(.long i1)]) rfl (lenOf pd_law_3 rfl) (W := 0) rfl (by decide) (by decide) (by decide) at_127 (pc' := 130) rfl ?_
    intro v61 T61 h61 X61 U61
    obtain ⟨rfl, rfl⟩ := U61
    show oGoes pp ee bb ss Z T61 (mkF mm 130 #[.val (.int i0), .val (.long i1), .second, .val (.long i2), .second, .val (.long i3), .second, .val (.long i4), .second, .val (.int (4 : Int32)), .val (.ref b52), .val (.ref r_58), .val (.ref r_59), .unset, .unset, .unset] [(.int (0 : Int32))]) _ _ _
    refine o_if_ne_f K X61 at_130 (pc' := 133) rfl (by decide) ?_
    refine o_aload K X61 at_133 (pc' := 135) rfl rfl rfl ?_
    refine o_lloadN K X61 at_135 (pc' := 136) rfl rfl ?_
    refine o_virtual K X61 (y := (⟨"com/example/rosterlink/rosterlink/model/IdChunks", "get", "(J)[J"⟩ : MethodName)) (z := (⟨"com/example/rosterlink/rosterlink/model/IdChunks", "get", "(J)[J"⟩ : MethodName)) (w38 hw) (w39 hw) (notFace_of_selects (args := #[]) (mvT K.2.1 (w41 hw))) (w41 hw) (w40 hw) (w3 hw) (w42 hw) (by decide) u59_2 (rm_get0 l Z a0 hw r_59 (4 : Int32) ch_59 (0 : Int32) k_59 i1 h59 u59_2 u59_3 u59_4 u59_5 u59_7) (by decide) rfl (argsL := [(.long i1)]) rfl (lenOf pd_law_4 rfl) (W := 0) rfl (by decide) (by decide) (by decide) at_136 (pc' := 139) rfl ?_
    intro v62 T62 h62 X62 U62
    obtain ⟨rfl, rfl⟩ := U62
    show oGoes pp ee bb ss Z T62 (mkF mm 139 #[.val (.int i0), .val (.long i1), .second, .val (.long i2), .second, .val (.long i3), .second, .val (.long i4), .second, .val (.int (4 : Int32)), .val (.ref b52), .val (.ref r_58), .val (.ref r_59), .unset, .unset, .unset] [.null]) _ _ _
    refine o_ifnonnull_f K X62 at_139 (pc' := 142) rfl ?_
    refine o_aload K X62 at_142 (pc' := 144) rfl rfl rfl ?_
    refine o_lloadN K X62 at_144 (pc' := 145) rfl rfl ?_
    refine o_virtual K X62 (y := (⟨"com/example/rosterlink/rosterlink/model/IdChunks", "without", "(J)Lcom/example/rosterlink/rosterlink/model/IdChunks;"⟩ : MethodName)) (z := (⟨"com/example/rosterlink/rosterlink/model/IdChunks", "without", "(J)Lcom/example/rosterlink/rosterlink/model/IdChunks;"⟩ : MethodName)) (w43 hw) (w44 hw) (notFace_of_selects (args := #[]) (mvT K.2.1 (w46 hw))) (w46 hw) (w45 hw) (w3 hw) (w47 hw) (by decide) u59_2 (rm_wo0 l Z a0 hw r_59 (4 : Int32) ch_59 (0 : Int32) k_59 i1 h59 u59_2 u59_3 u59_4 u59_5 u59_7) (by decide) rfl (argsL := [(.long i1)]) rfl (lenOf pd_law_5 rfl) (W := 0) rfl (by decide) (by decide) (by decide) at_145 (pc' := 148) rfl ?_
    intro v63 T63 h63 X63 U63
    obtain ⟨rfl, rfl⟩ := U63
    show oGoes pp ee bb ss Z T63 (mkF mm 148 #[.val (.int i0), .val (.long i1), .second, .val (.long i2), .second, .val (.long i3), .second, .val (.long i4), .second, .val (.int (4 : Int32)), .val (.ref b52), .val (.ref r_58), .val (.ref r_59), .unset, .unset, .unset] [(.ref r_59)]) _ _ _
    refine o_aload K X63 at_148 (pc' := 150) rfl rfl rfl ?_
    refine o_acmp K X63 true at_150 (by decide) rfl rfl (decide_eq_true rfl) (pc' := 153) (by decide) ?_
    refine o_aload K X63 at_153 (pc' := 155) rfl rfl rfl ?_
    refine o_aload K X63 at_155 (pc' := 157) rfl rfl rfl ?_
    refine o_virtual K X63 (y := (⟨"com/example/rosterlink/rosterlink/model/IdChunks", "equals", "(Ljava/lang/Object;)Z"⟩ : MethodName)) (z := (⟨"com/example/rosterlink/rosterlink/model/IdChunks", "equals", "(Ljava/lang/Object;)Z"⟩ : MethodName)) (w48 hw) (w49 hw) (notFace_of_selects (args := #[]) (mvT K.2.1 (w51 hw))) (w51 hw) (w50 hw) (w3 hw) (w52 hw) (by decide) u59_2 (rm_eq0 l Z a0 hw r_59 (4 : Int32) ch_59 (0 : Int32) k_59 r_58 ch_58 k_58 h59 u59_2 u59_3 u59_4 u59_5 u59_7 (u58_2.keep u59_0) (u58_3.keep u59_0 nin0) (u58_4.keep u59_0 nin0) (u58_5.keep u59_0 nin0) (u58_7.keep u59_0 nin0) (Ne.symm (Nat.ne_of_lt (Nat.lt_of_lt_of_le u58_2.lt u59_1)))) (by decide) rfl (argsL := [(.ref r_58)]) rfl (lenOf pd_law_6 rfl) (W := 0) rfl (by decide) (by decide) (by decide) at_157 (pc' := 160) rfl ?_
    intro v64 T64 h64 X64 U64
    obtain ⟨rfl, rfl⟩ := U64
    show oGoes pp ee bb ss Z T64 (mkF mm 160 #[.val (.int i0), .val (.long i1), .second, .val (.long i2), .second, .val (.long i3), .second, .val (.long i4), .second, .val (.int (4 : Int32)), .val (.ref b52), .val (.ref r_58), .val (.ref r_59), .unset, .unset, .unset] [(.int (1 : Int32))]) _ _ _
    refine o_if_eq_f K X64 at_160 (pc' := 163) rfl (by decide) ?_
    refine o_iconst K X64 at_163 (pc' := 164) rfl (z := (1 : Int32)) rfl ?_
    refine o_goto K X64 at_164 (by decide) (pc' := 168) (by decide) ?_
    refine o_istore K X64 at_168 (pc' := 170) rfl (L' := #[.val (.int i0), .val (.long i1), .second, .val (.long i2), .second, .val (.long i3), .second, .val (.long i4), .second, .val (.int (4 : Int32)), .val (.ref b52), .val (.ref r_58), .val (.ref r_59), .val (.int (1 : Int32)), .unset, .unset]) rfl ?_
    refine o_aload K X64 at_170 (pc' := 172) rfl rfl rfl ?_
    refine o_aload K X64 at_172 (pc' := 174) rfl rfl rfl ?_
    refine o_virtual K X64 (y := (⟨"com/example/rosterlink/rosterlink/model/IdChunks", "with", "([J)Lcom/example/rosterlink/rosterlink/model/IdChunks;"⟩ : MethodName)) (z := (⟨"com/example/rosterlink/rosterlink/model/IdChunks", "with", "([J)Lcom/example/rosterlink/rosterlink/model/IdChunks;"⟩ : MethodName)) (w58 hw) (w59 hw) (notFace_of_selects (args := #[]) (mvT K.2.1 (w61 hw))) (w61 hw) (w60 hw) (w3 hw) (w62 hw) (by decide) u59_2 (rm_with4 l Z a0 hw r_59 ch_59 (0 : Int32) k_59 b52 k52 i2 i3 i4 i1 h59 u59_2 u59_3 u59_4 u59_5 u59_7 (((A56.ext E57).keep u58_0 nin0).keep u59_0 nin0) ((((Exa.wr W56 (Exa.wr W55 (Exa.wr W54 (Exa.wr W53 B52)))).ext E57).keep u58_0).keep u59_0)) (by decide) rfl (argsL := [(.ref b52)]) rfl (lenOf pd_law_7 rfl) (W := 0) rfl (by decide) (by decide) (by decide) at_174 (pc' := 177) rfl ?_
    intro v65 T65 h65 X65 U65
    obtain ⟨r_65, ch_65, k_65, x_65, kx_65, rfl, u65_0, u65_1, u65_2, u65_3, u65_4, u65_5, u65_6, u65_7, u65_8, u65_9, u65_10⟩ := U65
    have G65_r : Z.heap.size ≤ r_65 := Nat.le_trans (Nat.le_trans E0.1 (Nat.le_trans (Nat.le_trans (Nat.le_trans (Nat.le_trans (Nat.le_trans (Nat.le_trans (Nat.le_trans E52.1 (Keep.of_wr W53).1) (Keep.of_wr W54).1) (Keep.of_wr W55).1) (Keep.of_wr W56).1) E57.1) u58_0.1) u59_0.1)) u65_1
    have G65_ch : Z.heap.size ≤ ch_65 := Nat.le_trans (Nat.le_trans E0.1 (Nat.le_trans (Nat.le_trans (Nat.le_trans (Nat.le_trans (Nat.le_trans (Nat.le_trans (Nat.le_trans E52.1 (Keep.of_wr W53).1) (Keep.of_wr W54).1) (Keep.of_wr W55).1) (Keep.of_wr W56).1) E57.1) u58_0.1) u59_0.1)) u65_6
    have G65_x : Z.heap.size ≤ x_65 := Nat.le_trans (Nat.le_trans E0.1 (Nat.le_trans (Nat.le_trans (Nat.le_trans (Nat.le_trans (Nat.le_trans (Nat.le_trans (Nat.le_trans E52.1 (Keep.of_wr W53).1) (Keep.of_wr W54).1) (Keep.of_wr W55).1) (Keep.of_wr W56).1) E57.1) u58_0.1) u59_0.1)) u65_8
    show oGoes pp ee bb ss Z T65 (mkF mm 177 #[.val (.int i0), .val (.long i1), .second, .val (.long i2), .second, .val (.long i3), .second, .val (.long i4), .second, .val (.int (4 : Int32)), .val (.ref b52), .val (.ref r_58), .val (.ref r_59), .val (.int (1 : Int32)), .unset, .unset] [(.ref r_65)]) _ _ _
    refine o_astore K X65 at_177 (pc' := 179) rfl rfl (L' := #[.val (.int i0), .val (.long i1), .second, .val (.long i2), .second, .val (.long i3), .second, .val (.long i4), .second, .val (.int (4 : Int32)), .val (.ref b52), .val (.ref r_58), .val (.ref r_59), .val (.int (1 : Int32)), .val (.ref r_65), .unset]) rfl ?_
    refine o_aload K X65 at_179 (pc' := 181) rfl rfl rfl ?_
    refine o_lloadN K X65 at_181 (pc' := 182) rfl rfl ?_
    refine o_virtual K X65 (y := (⟨"com/example/rosterlink/rosterlink/model/IdChunks", "get", "(J)[J"⟩ : MethodName)) (z := (⟨"com/example/rosterlink/rosterlink/model/IdChunks", "get", "(J)[J"⟩ : MethodName)) (w38 hw) (w39 hw) (notFace_of_selects (args := #[]) (mvT K.2.1 (w41 hw))) (w41 hw) (w40 hw) (w3 hw) (w42 hw) (by decide) u65_2 (rm_get1_4 l Z a0 hw r_65 ch_65 k_65 x_65 kx_65 i2 i3 i4 i1 h65 u65_2 u65_3 u65_4 u65_5 u65_7 u65_9 u65_10) (by decide) rfl (argsL := [(.long i2)]) rfl (lenOf pd_law_4 rfl) (W := 0) rfl (by decide) (by decide) (by decide) at_182 (pc' := 185) rfl ?_
    intro v66 T66 h66 X66 U66
    obtain ⟨r_66, k_66, rfl, u66_0, u66_1, u66_2, u66_3⟩ := U66
    have G66_r : Z.heap.size ≤ r_66 := Nat.le_trans (Nat.le_trans E0.1 (Nat.le_trans (Nat.le_trans (Nat.le_trans (Nat.le_trans (Nat.le_trans (Nat.le_trans (Nat.le_trans (Nat.le_trans E52.1 (Keep.of_wr W53).1) (Keep.of_wr W54).1) (Keep.of_wr W55).1) (Keep.of_wr W56).1) E57.1) u58_0.1) u59_0.1) u65_0.1)) u66_1
    show oGoes pp ee bb ss Z T66 (mkF mm 185 #[.val (.int i0), .val (.long i1), .second, .val (.long i2), .second, .val (.long i3), .second, .val (.long i4), .second, .val (.int (4 : Int32)), .val (.ref b52), .val (.ref r_58), .val (.ref r_59), .val (.int (1 : Int32)), .val (.ref r_65), .unset] [(.ref r_66)]) _ _ _
    refine o_astore K X66 at_185 (pc' := 187) rfl rfl (L' := #[.val (.int i0), .val (.long i1), .second, .val (.long i2), .second, .val (.long i3), .second, .val (.long i4), .second, .val (.int (4 : Int32)), .val (.ref b52), .val (.ref r_58), .val (.ref r_59), .val (.int (1 : Int32)), .val (.ref r_65), .val (.ref r_66)]) rfl ?_
    refine o_iload K X66 at_187 (pc' := 189) rfl rfl ?_
    refine o_if_eq_f K X66 at_189 (pc' := 192) rfl (by decide) ?_
    refine o_aload K X66 at_192 (pc' := 194) rfl rfl rfl ?_
    refine o_virtual K X66 (y := (⟨"com/example/rosterlink/rosterlink/model/IdChunks", "size", "()I"⟩ : MethodName)) (z := (⟨"com/example/rosterlink/rosterlink/model/IdChunks", "size", "()I"⟩ : MethodName)) (w24 hw) (w25 hw) (notFace_of_selects (args := #[]) (mvT K.2.1 (w27 hw))) (w27 hw) (w26 hw) (w3 hw) (w28 hw) (by decide) (u65_2.keep u66_0) (rm_size l Z a0 hw r_65 (1 : Int32) h66 (u65_5.keep u66_0 nin0)) (by decide) rfl (argsL := []) rfl (lenOf pd_law_2 rfl) (W := 0) rfl (by decide) (by decide) (by decide) at_194 (pc' := 197) rfl ?_
    intro v67 T67 h67 X67 U67
    obtain ⟨rfl, rfl⟩ := U67
    show oGoes pp ee bb ss Z T67 (mkF mm 197 #[.val (.int i0), .val (.long i1), .second, .val (.long i2), .second, .val (.long i3), .second, .val (.long i4), .second, .val (.int (4 : Int32)), .val (.ref b52), .val (.ref r_58), .val (.ref r_59), .val (.int (1 : Int32)), .val (.ref r_65), .val (.ref r_66)] [(.int (1 : Int32))]) _ _ _
    refine o_iconst K X67 at_197 (pc' := 198) rfl (z := (1 : Int32)) rfl ?_
    refine o_icmp_ne_f K X67 at_198 (pc' := 201) rfl (by decide) ?_
    refine o_aload K X67 at_201 (pc' := 203) rfl rfl rfl ?_
    refine o_virtual K X67 (y := (⟨"com/example/rosterlink/rosterlink/model/IdChunks", "size", "()I"⟩ : MethodName)) (z := (⟨"com/example/rosterlink/rosterlink/model/IdChunks", "size", "()I"⟩ : MethodName)) (w24 hw) (w25 hw) (notFace_of_selects (args := #[]) (mvT K.2.1 (w27 hw))) (w27 hw) (w26 hw) (w3 hw) (w28 hw) (by decide) ((u59_2.keep u65_0).keep u66_0) (rm_size l Z a0 hw r_59 (0 : Int32) h66 ((u59_5.keep u65_0 nin0).keep u66_0 nin0)) (by decide) rfl (argsL := []) rfl (lenOf pd_law_2 rfl) (W := 0) rfl (by decide) (by decide) (by decide) at_203 (pc' := 206) rfl ?_
    intro v68 T68 h68 X68 U68
    obtain ⟨rfl, rfl⟩ := U68
    show oGoes pp ee bb ss Z T68 (mkF mm 206 #[.val (.int i0), .val (.long i1), .second, .val (.long i2), .second, .val (.long i3), .second, .val (.long i4), .second, .val (.int (4 : Int32)), .val (.ref b52), .val (.ref r_58), .val (.ref r_59), .val (.int (1 : Int32)), .val (.ref r_65), .val (.ref r_66)] [(.int (0 : Int32))]) _ _ _
    refine o_if_ne_f K X68 at_206 (pc' := 209) rfl (by decide) ?_
    refine o_aload K X68 at_209 (pc' := 211) rfl rfl rfl ?_
    refine o_ifnull_f K X68 at_211 (pc' := 214) rfl ?_
    refine o_aload K X68 at_214 (pc' := 216) rfl rfl rfl ?_
    refine o_aload K X68 at_216 (pc' := 218) rfl rfl rfl ?_
    refine o_static K X68 (y := (⟨"com/example/rosterlink/rosterlink/model/IdChunksEmptyPinLaw", "same", "([J[J)Z"⟩ : MethodName)) (w81 hw) (w82 hw) (w83 hw) (w84 hw) (by decide) (rm_same4 l Z a0 hw r_66 k_66 b52 k52 i2 i3 i4 i1 h66 u66_2 (((((A56.ext E57).keep u58_0 nin0).keep u59_0 nin0).keep u65_0 nin0).keep u66_0 nin0)) (by decide) rfl (argsL := [(.ref r_66), (.ref b52)]) rfl (lenOf pd_law_8 rfl) (W := 0) rfl (by decide) (by decide) (by decide) at_218 (pc' := 221) rfl ?_
    intro v69 T69 h69 X69 U69
    obtain ⟨rfl, rfl⟩ := U69
    show oGoes pp ee bb ss Z T69 (mkF mm 221 #[.val (.int i0), .val (.long i1), .second, .val (.long i2), .second, .val (.long i3), .second, .val (.long i4), .second, .val (.int (4 : Int32)), .val (.ref b52), .val (.ref r_58), .val (.ref r_59), .val (.int (1 : Int32)), .val (.ref r_65), .val (.ref r_66)] [(.int (1 : Int32))]) _ _ _
    refine o_if_eq_f K X69 at_221 (pc' := 224) rfl (by decide) ?_
    refine o_aload K X69 at_224 (pc' := 226) rfl rfl rfl ?_
    refine o_virtual K X69 (y := (⟨"com/example/rosterlink/rosterlink/model/IdChunks", "entries", "()[J"⟩ : MethodName)) (z := (⟨"com/example/rosterlink/rosterlink/model/IdChunks", "entries", "()[J"⟩ : MethodName)) (w85 hw) (w86 hw) (notFace_of_selects (args := #[]) (mvT K.2.1 (w88 hw))) (w88 hw) (w87 hw) (w3 hw) (w89 hw) (by decide) (u65_2.keep u66_0) (rm_ents4 l Z a0 hw r_65 ch_65 k_65 x_65 kx_65 i2 i3 i4 i1 h66 (u65_2.keep u66_0) (u65_3.keep u66_0 nin0) (u65_4.keep u66_0 nin0) (u65_5.keep u66_0 nin0) (u65_7.keep u66_0 nin0) (u65_9.keep u66_0 nin0) (u65_10.keep u66_0)) (by decide) rfl (argsL := []) rfl (lenOf pd_law_9 rfl) (W := 0) rfl (by decide) (by decide) (by decide) at_226 (pc' := 229) rfl ?_
    intro v70 T70 h70 X70 U70
    obtain ⟨r_70, k_70, rfl, u70_0, u70_1, u70_2⟩ := U70
    have G70_r : Z.heap.size ≤ r_70 := Nat.le_trans (Nat.le_trans E0.1 (Nat.le_trans (Nat.le_trans (Nat.le_trans (Nat.le_trans (Nat.le_trans (Nat.le_trans (Nat.le_trans (Nat.le_trans (Nat.le_trans E52.1 (Keep.of_wr W53).1) (Keep.of_wr W54).1) (Keep.of_wr W55).1) (Keep.of_wr W56).1) E57.1) u58_0.1) u59_0.1) u65_0.1) u66_0.1)) u70_1
    show oGoes pp ee bb ss Z T70 (mkF mm 229 #[.val (.int i0), .val (.long i1), .second, .val (.long i2), .second, .val (.long i3), .second, .val (.long i4), .second, .val (.int (4 : Int32)), .val (.ref b52), .val (.ref r_58), .val (.ref r_59), .val (.int (1 : Int32)), .val (.ref r_65), .val (.ref r_66)] [(.ref r_70)]) _ _ _
    refine o_arraylength K X70 u70_2 (z := (4 : Int32)) rfl at_229 (pc' := 230) rfl ?_
    refine o_iload K X70 at_230 (pc' := 232) rfl rfl ?_
    refine o_icmp_ne_f K X70 at_232 (pc' := 235) rfl (by decide) ?_
    refine o_iconst K X70 at_235 (pc' := 236) rfl (z := (1 : Int32)) rfl ?_
    refine o_goto K X70 at_236 (by decide) (pc' := 240) (by decide) ?_
    refine o_istore K X70 at_240 (pc' := 242) rfl (L' := #[.val (.int i0), .val (.long i1), .second, .val (.long i2), .second, .val (.long i3), .second, .val (.long i4), .second, .val (.int (4 : Int32)), .val (.ref b52), .val (.ref r_58), .val (.ref r_59), .val (.int (1 : Int32)), .val (.ref r_65), .val (.ref r_66)]) rfl ?_
    refine o_iload K X70 at_242 (pc' := 244) rfl rfl ?_
    refine o_ireturnN K X70 .boolean at_244 rfl (by simp) (z' := (1 : Int32)) (by decide) ?_ (by decide) (by decide)
    exact rfl
set_option maxRecDepth 65536 in
set_option maxHeartbeats 40000000 in
theorem comes_1 {Post : Tables → Env → Array Value → State → Outcome → State → Prop} (hpost : ∀ tb e args s v u, (limb_1_1.after args s (.returned v) u = true ∧ limb_1_2.after args s (.returned v) u = true ∧ True) → FrameEnd s (.returned v) u (Jvm.fieldLocs frame_1_writes args s ++ Jvm.arrayLocs frame_1_arrays args s ++ Jvm.staticLocs frame_1_statics s) 32 128 → Post tb e args s (.returned v) u) :
    ArmFor flags0 classFile x code maxLocals ret World_1 tables_1 room_1 Calls_1 rest_1 Pre_1 Post := by
  intro l hfl _ _ p e ha hc hk s m args below hf hA hF happ hP
  obtain ⟨hcalls, hrest, hpre⟩ := hP
  obtain ⟨-, -, -, hnamed, -, -, -, hat⟩ := (Spec.applies_iff hf).mp happ
  obtain ⟨hg, hn⟩ := and_e (Cond.before_iff.mp (show (Jvm.Cond.and given_1 narrow_1).before args s = true from hpre))
  obtain ⟨g0, gr0⟩ := and_e hg
  obtain ⟨g1, gr1⟩ := and_e gr0
  obtain ⟨g2, gr2⟩ := and_e gr1
  obtain ⟨g3, gr3⟩ := and_e gr2
  obtain ⟨g4, gr4⟩ := and_e gr3
  obtain ⟨w_0, w_1, w_2, w_3, w_4, rfl⟩ : ∃ w_0 w_1 w_2 w_3 w_4 : Value, args = #[w_0, w_1, w_2, w_3, w_4] := by
    have hs : args.size = 5 := by simpa [Jvm.Cond.value] using g0
    obtain ⟨L⟩ := args
    match L, hs with
    | [w_0, w_1, w_2, w_3, w_4], _ => exact ⟨w_0, w_1, w_2, w_3, w_4, rfl⟩
  have hw : oHw s #[w_0, w_1, w_2, w_3, w_4] := fun d (hd : d ∈ tables_1) => atoms_spec (ws := Jvm.Cond.code x code maxLocals ret :: tables_1) hat d (List.mem_cons_of_mem _ hd)
  have hfit : Fit s := fun {y c} hc i hi => by
    obtain ⟨ha, rfl⟩ := Array.getElem?_eq_some_iff.mp hc
    have q := List.all_eq_true.mp ((Array.all_eq_true_iff_forall_mem.mp hF) _ (Array.getElem_mem ha)) i (List.mem_range.mpr hi)
    simpa [Array.getElem?_eq_getElem hi] using q
  obtain ⟨i0, ei0⟩ := is_v g1
  obtain rfl : w_0 = (.int i0) := Option.some.inj ei0
  obtain ⟨i1, ei1⟩ := isL_v g2
  obtain rfl : w_1 = (.long i1) := Option.some.inj ei1
  obtain ⟨i2, ei2⟩ := isL_v g3
  obtain rfl : w_2 = (.long i2) := Option.some.inj ei2
  obtain ⟨i3, ei3⟩ := isL_v g4
  obtain rfl : w_3 = (.long i3) := Option.some.inj ei3
  obtain ⟨i4, ei4⟩ := isL_v gr4
  obtain rfl : w_4 = (.long i4) := Option.some.inj ei4
  obtain ⟨n, o, h1, h2, h3, v, L, rfl, ⟨hQ, N, E⟩, hq⟩ := rm_law l s _ hw i0 i1 i2 i3 i4 s.heap  tables_1 ⟨Nat.le_refl _, fun _ _ q => q⟩ p e ha hc hk s m _ below hf ((Spec.applies_iff_loose hf).mp happ).1 ⟨rfl, State.Warmed39.refl s, rfl⟩ trivial
  obtain rfl : v = some (.int 1) := hQ
  refine ⟨n, _, h1, h2, h3, hpost _ _ _ _ _ _ ⟨Cond.after_iff.mpr rfl, Cond.after_iff.mpr (eq_i res_at (Term.int_eval (1)) rfl), trivial⟩ ⟨hq.1, hq.2.1, (hq.2.2.sift fun y hy => Or.inr (N y hy)).mono (by decide) (by decide)⟩⟩
theorem main_1_1 : Claimed_1_1 := comes_1 fun _ _ _ _ _ _ h hF => ⟨h.1, hF⟩
theorem main_1_2 : Claimed_1_2 := comes_1 fun _ _ _ _ _ _ h hF => ⟨h.2.1, hF⟩
end Jvm.Pilot.@@N@@
namespace Jvm.Pilot.@@N@@
open Jvm Jvm.ClassFile Sem Op Lib Jvm.Free Jvm.Stand Jvm.Pilot.@@N@@.Jvm.D
/-! MADE BY PROGRAM (witnessworld.py) out of the Statement's table words and the real class files: 13 classes; the members and pool entries that the words name. The judged class is class 1, her method 1. -/
namespace start1
open Jvm.ClassFile
def u (s : String) : CpInfo := .utf8 (stringToUtf16 s)
/-- a pool by its gaps: so many unusable entries, then the entry; so many at the end -/
def gap : Nat → List CpInfo → List CpInfo
  | 0, r => r
  | n + 1, r => .unusable :: gap n r
def poolList (es : List (Nat × CpInfo)) (last : Nat) : List CpInfo := es.foldr (fun e r => gap e.1 (e.2 :: r)) (gap last [])
def pool (es : List (Nat × CpInfo)) (last : Nat) : Array CpInfo := ⟨poolList es last⟩
def fileOf (pool : Array CpInfo) (this : Nat) (attrs : Array Attribute := #[]) (ms : Array MethodInfo := #[]) (fl : Nat := 33) (sup : Nat := 0) (ifs : Array Nat := #[]) (fds : Array FieldInfo := #[]) : ClassFile where
  minorVersion := 0
  majorVersion := 65
  constantPool := pool
  accessFlags := fl
  thisClass := this
  superClass := sup
  interfaces := ifs
  fields := fds
  methods := ms
  attributes := attrs
def plain (name : String) (sup : Option ClassId) : Class where
  name := name
  kind := .ordinary
  loader := none
  accessFlags := 33
  super := sup
  interfaces := #[]
  cf := none
  fields := #[]
  methods := #[]
  instanceTypes := #[]
  staticTypes := #[]
  resolved := #[]
  callSites := []
  init := .initialized
  statics := none
  mirror := none

def pool0 : Array CpInfo := pool [(5, u "<init>"), (0, u "()V"), (1, .class_ 10), (1, u "java/lang/Object"), (85, u "clone"), (0, u "()Ljava/lang/Object;")] 26

def k0c0 : Code := { maxStack := 0, maxLocals := 1, code := object_method_1_code, exceptionTable := #[], attributes := #[] }
def k0m0 : Method := { name := "<init>", desc := "()V", sig := { parameters := [], returnType := none }, accessFlags := 1, code := some k0c0 }
def k0m1 : Method := { name := "clone", desc := "()Ljava/lang/Object;", sig := { parameters := [], returnType := some (.object "java/lang/Object") }, accessFlags := 260, code := none }
/-- java/lang/Object -/
def k0 : Class := { plain "java/lang/Object" none with
  accessFlags := 33
  interfaces := #[]
  cf := some (fileOf pool0 8 #[] #[{ accessFlags := 1, nameIndex := 5, descriptorIndex := 6, attributes := #[] }, { accessFlags := 260, nameIndex := 96, descriptorIndex := 97, attributes := #[] }] 33 0 #[] #[])
  fields := #[]
  methods := #[k0m0, k0m1]
  instanceTypes := #[]
  staticTypes := #[]
  resolved := Array.replicate 124 none
  statics := none }

def pool1 : Array CpInfo := pool [(2, .class_ 4), (1, u "java/lang/Object"), (0, u "<init>"), (0, u "()V"), (0, .methodref 8 9), (0, .class_ 10), (0, .nameAndType 11 12), (0, u "com/example/rosterlink/rosterlink/model/IdChunks"), (0, u "of"), (0, u "(I[J)Lcom/example/rosterlink/rosterlink/model/IdChunks;"), (0, .methodref 8 14), (0, .nameAndType 15 16), (0, u "empty"), (0, u "(I)Lcom/example/rosterlink/rosterlink/model/IdChunks;"), (0, .methodref 8 18), (0, .nameAndType 19 20), (0, u "size"), (0, u "()I"), (0, .methodref 8 22), (0, .nameAndType 23 24), (0, u "contains"), (0, u "(J)Z"), (0, .methodref 8 26), (0, .nameAndType 27 28), (0, u "get"), (0, u "(J)[J"), (0, .methodref 8 30), (0, .nameAndType 31 32), (0, u "without"), (0, u "(J)Lcom/example/rosterlink/rosterlink/model/IdChunks;"), (0, .methodref 8 34), (0, .nameAndType 35 36), (0, u "equals"), (0, u "(Ljava/lang/Object;)Z"), (0, .methodref 8 38), (0, .nameAndType 39 40), (0, u "with"), (0, u "([J)Lcom/example/rosterlink/rosterlink/model/IdChunks;"), (0, .methodref 42 43), (0, .class_ 44), (0, .nameAndType 45 46), (0, u "com/example/rosterlink/rosterlink/model/IdChunksEmptyPinLaw"), (0, u "same"), (0, u "([J[J)Z"), (0, .methodref 8 48), (0, .nameAndType 49 50), (0, u "entries"), (0, u "()[J"), (2, u "law"), (0, u "(IJJJJ)Z")] 5

def k1m0 : Method := { name := "<init>", desc := "()V", sig := { parameters := [], returnType := none }, accessFlags := 1, code := none }
def k1c1 : Code := { maxStack := 5, maxLocals := 16, code := code, exceptionTable := #[], attributes := #[] }
def k1m1 : Method := { name := "law", desc := "(IJJJJ)Z", sig := { parameters := [.int, .long, .long, .long, .long], returnType := some .boolean }, accessFlags := 9, code := some k1c1 }
def k1c2 : Code := { maxStack := 4, maxLocals := 3, code := method_3_code, exceptionTable := #[], attributes := #[] }
def k1m2 : Method := { name := "same", desc := "([J[J)Z", sig := { parameters := [(.array .long), (.array .long)], returnType := some .boolean }, accessFlags := 10, code := some k1c2 }
/-- com/example/rosterlink/rosterlink/model/IdChunksEmptyPinLaw -/
def k1 : Class := { plain "com/example/rosterlink/rosterlink/model/IdChunksEmptyPinLaw" (some 0) with
  accessFlags := 49
  interfaces := #[]
  cf := some (fileOf pool1 42 #[] #[{ accessFlags := 1, nameIndex := 5, descriptorIndex := 6, attributes := #[] }, { accessFlags := 9, nameIndex := 53, descriptorIndex := 54, attributes := #[] }, { accessFlags := 10, nameIndex := 45, descriptorIndex := 46, attributes := #[] }] 49 2 #[] #[])
  fields := #[]
  methods := #[k1m0, k1m1, k1m2]
  instanceTypes := #[]
  staticTypes := #[]
  resolved := Array.replicate 60 none
  statics := none }

def pool2 : Array CpInfo := pool [(1, .methodref 2 3), (0, .class_ 4), (0, .nameAndType 5 6), (0, u "java/lang/Object"), (0, u "<init>"), (0, u "()V"), (0, .fieldref 8 9), (0, .class_ 10), (0, .nameAndType 11 12), (0, u "com/example/rosterlink/rosterlink/model/IdChunks"), (0, u "width"), (0, u "I"), (0, .fieldref 8 14), (0, .nameAndType 15 16), (0, u "chunks"), (0, u "[[J"), (0, .fieldref 8 18), (0, .nameAndType 19 12), (0, u "size"), (0, .class_ 21), (0, u "[J"), (0, .methodref 8 23), (0, .nameAndType 5 24), (0, u "(I[[JI)V"), (6, .methodref 32 33), (0, .class_ 34), (0, .nameAndType 35 36), (0, u "java/util/Arrays"), (0, u "copyOfRange"), (0, u "([JII)[J"), (0, .methodref 8 38), (0, .nameAndType 39 40), (0, u "chunkFor"), (0, u "(J)I"), (0, .methodref 8 42), (0, .nameAndType 43 44), (0, u "find"), (0, u "([JJ)I"), (0, .methodref 20 46), (0, .nameAndType 47 48), (0, u "clone"), (0, u "()Ljava/lang/Object;"), (2, u "equals"), (1, .methodref 54 55), (0, .class_ 56), (0, .nameAndType 57 58), (0, u "java/lang/System"), (0, u "arraycopy"), (0, u "(Ljava/lang/Object;ILjava/lang/Object;II)V"), (17, u "of"), (0, u "(I[J)Lcom/example/rosterlink/rosterlink/model/IdChunks;"), (14, .class_ 93), (0, u "com/example/rosterlink/rosterlink/model/IdChunks$1"), (3, .methodref 8 98), (0, .nameAndType 99 100), (0, u "sameLayout"), (0, u "(Lcom/example/rosterlink/rosterlink/model/IdChunks;)Z"), (3, .methodref 8 105), (0, .nameAndType 106 107), (0, u "entries"), (0, u "()[J"), (31, u "CHUNK"), (4, u "empty"), (0, u "(I)Lcom/example/rosterlink/rosterlink/model/IdChunks;"), (2, u "()I"), (0, u "contains"), (0, u "(J)Z"), (0, u "get"), (0, u "(J)[J"), (0, u "with"), (0, u "([J)Lcom/example/rosterlink/rosterlink/model/IdChunks;"), (0, u "without"), (0, u "(J)Lcom/example/rosterlink/rosterlink/model/IdChunks;"), (6, u "(Ljava/lang/Object;)Z")] 46

def k2c0 : Code := { maxStack := 2, maxLocals := 4, code := prog_25_method_1_code, exceptionTable := #[], attributes := #[] }
def k2m0 : Method := { name := "<init>", desc := "(I[[JI)V", sig := { parameters := [.int, (.array (.array .long)), .int], returnType := none }, accessFlags := 2, code := some k2c0 }
def k2c1 : Code := { maxStack := 5, maxLocals := 1, code := prog_25_method_2_code, exceptionTable := #[], attributes := #[] }
def k2m1 : Method := { name := "empty", desc := "(I)Lcom/example/rosterlink/rosterlink/model/IdChunks;", sig := { parameters := [.int], returnType := some (.object "com/example/rosterlink/rosterlink/model/IdChunks") }, accessFlags := 8, code := some k2c1 }
def k2c2 : Code := { maxStack := 7, maxLocals := 5, code := prog_25_method_3_code, exceptionTable := #[], attributes := #[] }
def k2m2 : Method := { name := "of", desc := "(I[J)Lcom/example/rosterlink/rosterlink/model/IdChunks;", sig := { parameters := [.int, (.array .long)], returnType := some (.object "com/example/rosterlink/rosterlink/model/IdChunks") }, accessFlags := 8, code := some k2c2 }
def k2c3 : Code := { maxStack := 1, maxLocals := 1, code := prog_25_method_4_code, exceptionTable := #[], attributes := #[] }
def k2m3 : Method := { name := "size", desc := "()I", sig := { parameters := [], returnType := some .int }, accessFlags := 0, code := some k2c3 }
def k2c4 : Code := { maxStack := 4, maxLocals := 4, code := prog_25_method_5_code, exceptionTable := #[], attributes := #[] }
def k2m4 : Method := { name := "contains", desc := "(J)Z", sig := { parameters := [.long], returnType := some .boolean }, accessFlags := 0, code := some k2c4 }
def k2c5 : Code := { maxStack := 4, maxLocals := 5, code := prog_25_method_6_code, exceptionTable := #[], attributes := #[] }
def k2m5 : Method := { name := "get", desc := "(J)[J", sig := { parameters := [.long], returnType := some (.array .long) }, accessFlags := 0, code := some k2c5 }
def k2c6 : Code := { maxStack := 10, maxLocals := 10, code := prog_25_method_7_code, exceptionTable := #[], attributes := #[] }
def k2m6 : Method := { name := "with", desc := "([J)Lcom/example/rosterlink/rosterlink/model/IdChunks;", sig := { parameters := [(.array .long)], returnType := some (.object "com/example/rosterlink/rosterlink/model/IdChunks") }, accessFlags := 128, code := some k2c6 }
def k2c7 : Code := { maxStack := 10, maxLocals := 10, code := prog_25_method_8_code, exceptionTable := #[], attributes := #[] }
def k2m7 : Method := { name := "without", desc := "(J)Lcom/example/rosterlink/rosterlink/model/IdChunks;", sig := { parameters := [.long], returnType := some (.object "com/example/rosterlink/rosterlink/model/IdChunks") }, accessFlags := 0, code := some k2c7 }
def k2c8 : Code := { maxStack := 5, maxLocals := 7, code := prog_25_method_12_code, exceptionTable := #[], attributes := #[] }
def k2m8 : Method := { name := "entries", desc := "()[J", sig := { parameters := [], returnType := some (.array .long) }, accessFlags := 0, code := some k2c8 }
def k2c9 : Code := { maxStack := 3, maxLocals := 4, code := prog_25_method_13_code, exceptionTable := #[], attributes := #[] }
def k2m9 : Method := { name := "equals", desc := "(Ljava/lang/Object;)Z", sig := { parameters := [(.object "java/lang/Object")], returnType := some .boolean }, accessFlags := 1, code := some k2c9 }
def k2c10 : Code := { maxStack := 3, maxLocals := 3, code := prog_25_method_16_code, exceptionTable := #[], attributes := #[] }
def k2m10 : Method := { name := "sameLayout", desc := "(Lcom/example/rosterlink/rosterlink/model/IdChunks;)Z", sig := { parameters := [(.object "com/example/rosterlink/rosterlink/model/IdChunks")], returnType := some .boolean }, accessFlags := 2, code := some k2c10 }
def k2c11 : Code := { maxStack := 4, maxLocals := 7, code := prog_25_method_17_code, exceptionTable := #[], attributes := #[] }
def k2m11 : Method := { name := "chunkFor", desc := "(J)I", sig := { parameters := [.long], returnType := some .int }, accessFlags := 2, code := some k2c11 }
def k2c12 : Code := { maxStack := 4, maxLocals := 9, code := prog_25_method_18_code, exceptionTable := #[], attributes := #[] }
def k2m12 : Method := { name := "find", desc := "([JJ)I", sig := { parameters := [(.array .long), .long], returnType := some .int }, accessFlags := 2, code := some k2c12 }
/-- com/example/rosterlink/rosterlink/model/IdChunks -/
def k2 : Class := { plain "com/example/rosterlink/rosterlink/model/IdChunks" (some 0) with
  accessFlags := 48
  interfaces := #[]
  cf := some (fileOf pool2 8 #[.nestMembers #[92]] #[{ accessFlags := 2, nameIndex := 5, descriptorIndex := 24, attributes := #[] }, { accessFlags := 8, nameIndex := 144, descriptorIndex := 145, attributes := #[] }, { accessFlags := 8, nameIndex := 76, descriptorIndex := 77, attributes := #[] }, { accessFlags := 0, nameIndex := 19, descriptorIndex := 148, attributes := #[] }, { accessFlags := 0, nameIndex := 149, descriptorIndex := 150, attributes := #[] }, { accessFlags := 0, nameIndex := 151, descriptorIndex := 152, attributes := #[] }, { accessFlags := 128, nameIndex := 153, descriptorIndex := 154, attributes := #[] }, { accessFlags := 0, nameIndex := 155, descriptorIndex := 156, attributes := #[] }, { accessFlags := 0, nameIndex := 106, descriptorIndex := 107, attributes := #[] }, { accessFlags := 1, nameIndex := 51, descriptorIndex := 163, attributes := #[] }, { accessFlags := 2, nameIndex := 99, descriptorIndex := 100, attributes := #[] }, { accessFlags := 2, nameIndex := 39, descriptorIndex := 40, attributes := #[] }, { accessFlags := 2, nameIndex := 43, descriptorIndex := 44, attributes := #[] }] 48 2 #[] #[{ accessFlags := 24, nameIndex := 139, descriptorIndex := 12, attributes := #[] }, { accessFlags := 18, nameIndex := 11, descriptorIndex := 12, attributes := #[] }, { accessFlags := 18, nameIndex := 15, descriptorIndex := 16, attributes := #[] }, { accessFlags := 18, nameIndex := 19, descriptorIndex := 12, attributes := #[] }])
  fields := #[{ name := "CHUNK", type := .int, accessFlags := 24, slot := 0, constantValue := 0 }, { name := "width", type := .int, accessFlags := 18, slot := 0, constantValue := 0 }, { name := "chunks", type := (.array (.array .long)), accessFlags := 18, slot := 1, constantValue := 0 }, { name := "size", type := .int, accessFlags := 18, slot := 2, constantValue := 0 }]
  methods := #[k2m0, k2m1, k2m2, k2m3, k2m4, k2m5, k2m6, k2m7, k2m8, k2m9, k2m10, k2m11, k2m12]
  instanceTypes := #[.int, (.array (.array .long)), .int]
  staticTypes := #[.int]
  resolved := Array.replicate 210 none
  statics := none }

def pool3 : Array CpInfo := pool [(1, .class_ 2), (0, u "java/lang/Cloneable"), (0, .class_ 4), (0, u "java/lang/Object")] 2

/-- java/lang/Cloneable -/
def k3 : Class := { plain "java/lang/Cloneable" (some 0) with
  accessFlags := 1537
  interfaces := #[]
  cf := some (fileOf pool3 1 #[] #[] 1537 3 #[] #[])
  fields := #[]
  methods := #[]
  instanceTypes := #[]
  staticTypes := #[]
  resolved := Array.replicate 7 none
  statics := none }

def pool4 : Array CpInfo := pool [(2, .class_ 4), (1, u "java/lang/Object"), (0, u "<init>"), (0, u "()V"), (7, .class_ 16), (1, u "java/util/Arrays"), (57, .class_ 76), (1, u "java/util/Arrays$NaturalOrder"), (32, u "()Ljava/lang/Object;"), (3, .class_ 115), (1, u "java/util/Arrays$LegacyMergeSort"), (1, u "Z"), (10, .nameAndType 129 109), (0, u "clone"), (9, u "copyOfRange"), (179, .methodref 320 128), (0, .class_ 321), (0, u "[J"), (36, u "([JII)[J"), (16, .class_ 376), (0, u "java/util/Arrays$ArrayList"), (68, u "$assertionsDisabled"), (269, u "MIN_ARRAY_SORT_GRAN"), (0, u "I"), (2, u "INSERTIONSORT_THRESHOLD"), (255, .class_ 976), (0, u "java/util/Arrays$ArrayItr")] 52

def k4m0 : Method := { name := "<init>", desc := "()V", sig := { parameters := [], returnType := none }, accessFlags := 2, code := none }
def k4c1 : Code := { maxStack := 3, maxLocals := 3, code := jdk_65_method_138_code, exceptionTable := #[], attributes := #[] }
def k4m1 : Method := { name := "copyOfRange", desc := "([JII)[J", sig := { parameters := [(.array .long), .int, .int], returnType := some (.array .long) }, accessFlags := 9, code := some k4c1 }
/-- java/util/Arrays -/
def k4 : Class := { plain "java/util/Arrays" (some 0) with
  accessFlags := 49
  interfaces := #[]
  cf := some (fileOf pool4 14 #[.nestMembers #[975, 375, 113, 74]] #[{ accessFlags := 2, nameIndex := 5, descriptorIndex := 6, attributes := #[] }, { accessFlags := 9, nameIndex := 139, descriptorIndex := 358, attributes := #[] }] 49 2 #[] #[{ accessFlags := 26, nameIndex := 715, descriptorIndex := 716, attributes := #[] }, { accessFlags := 26, nameIndex := 719, descriptorIndex := 716, attributes := #[] }, { accessFlags := 4120, nameIndex := 445, descriptorIndex := 117, attributes := #[] }])
  fields := #[{ name := "MIN_ARRAY_SORT_GRAN", type := .int, accessFlags := 26, slot := 0, constantValue := 0 }, { name := "INSERTIONSORT_THRESHOLD", type := .int, accessFlags := 26, slot := 1, constantValue := 0 }, { name := "$assertionsDisabled", type := .boolean, accessFlags := 4120, slot := 2, constantValue := 0 }]
  methods := #[k4m0, k4m1]
  instanceTypes := #[]
  staticTypes := #[.int, .int, .boolean]
  resolved := Array.replicate 1029 none
  statics := none }

def pool5 : Array CpInfo := pool [(2, .class_ 4), (1, u "java/lang/Object"), (0, u "<init>"), (0, u "()V"), (1, .class_ 10), (1, u "java/lang/System"), (0, u "allowSecurityManager"), (0, u "I"), (16, u "cons"), (0, u "Ljava/io/Console;"), (77, .class_ 110), (1, u "java/lang/System$CallersHolder"), (43, u "initialErrStream"), (0, u "Ljava/io/PrintStream;"), (19, u "security"), (0, u "Ljava/lang/SecurityManager;"), (31, .class_ 209), (0, u "java/lang/System$1"), (7, u "props"), (0, u "Ljava/util/Properties;"), (2, u "lineSeparator"), (0, u "Ljava/lang/String;"), (96, .class_ 321), (1, u "java/lang/System$LoggerFinder"), (5, .class_ 328), (0, u "java/lang/System$Logger"), (67, u "err"), (2, u "out"), (91, u "notSupportedJnuEncoding"), (15, u "in"), (17, u "initialIn"), (0, u "Ljava/io/InputStream;"), (35, u "bootLayer"), (0, u "Ljava/lang/ModuleLayer;"), (99, .class_ 664), (0, u "java/lang/System$2"), (9, u "NEVER"), (2, u "MAYBE"), (49, u "arraycopy"), (0, u "(Ljava/lang/Object;ILjava/lang/Object;II)V"), (72, .class_ 802), (0, u "java/lang/System$Logger$Level")] 31

def k5m0 : Method := { name := "<init>", desc := "()V", sig := { parameters := [], returnType := none }, accessFlags := 2, code := none }
def k5m1 : Method := { name := "arraycopy", desc := "(Ljava/lang/Object;ILjava/lang/Object;II)V", sig := { parameters := [(.object "java/lang/Object"), .int, (.object "java/lang/Object"), .int, .int], returnType := none }, accessFlags := 265, code := none }
/-- java/lang/System -/
def k5 : Class := { plain "java/lang/System" (some 0) with
  accessFlags := 49
  interfaces := #[]
  cf := some (fileOf pool5 8 #[.nestMembers #[319, 327, 801, 108, 663, 208]] #[{ accessFlags := 2, nameIndex := 5, descriptorIndex := 6, attributes := #[] }, { accessFlags := 265, nameIndex := 727, descriptorIndex := 728, attributes := #[] }] 49 2 #[] #[{ accessFlags := 25, nameIndex := 507, descriptorIndex := 526, attributes := #[] }, { accessFlags := 25, nameIndex := 399, descriptorIndex := 155, attributes := #[] }, { accessFlags := 25, nameIndex := 396, descriptorIndex := 155, attributes := #[] }, { accessFlags := 10, nameIndex := 525, descriptorIndex := 526, attributes := #[] }, { accessFlags := 26, nameIndex := 674, descriptorIndex := 12, attributes := #[] }, { accessFlags := 26, nameIndex := 677, descriptorIndex := 12, attributes := #[] }, { accessFlags := 10, nameIndex := 11, descriptorIndex := 12, attributes := #[] }, { accessFlags := 74, nameIndex := 175, descriptorIndex := 176, attributes := #[] }, { accessFlags := 10, nameIndex := 491, descriptorIndex := 222, attributes := #[] }, { accessFlags := 74, nameIndex := 29, descriptorIndex := 30, attributes := #[] }, { accessFlags := 74, nameIndex := 154, descriptorIndex := 155, attributes := #[] }, { accessFlags := 10, nameIndex := 217, descriptorIndex := 218, attributes := #[] }, { accessFlags := 10, nameIndex := 221, descriptorIndex := 222, attributes := #[] }, { accessFlags := 8, nameIndex := 562, descriptorIndex := 563, attributes := #[] }])
  fields := #[{ name := "in", type := (.object "java/io/InputStream"), accessFlags := 25, slot := 0, constantValue := 0 }, { name := "out", type := (.object "java/io/PrintStream"), accessFlags := 25, slot := 1, constantValue := 0 }, { name := "err", type := (.object "java/io/PrintStream"), accessFlags := 25, slot := 2, constantValue := 0 }, { name := "initialIn", type := (.object "java/io/InputStream"), accessFlags := 10, slot := 3, constantValue := 0 }, { name := "NEVER", type := .int, accessFlags := 26, slot := 4, constantValue := 0 }, { name := "MAYBE", type := .int, accessFlags := 26, slot := 5, constantValue := 0 }, { name := "allowSecurityManager", type := .int, accessFlags := 10, slot := 6, constantValue := 0 }, { name := "security", type := (.object "java/lang/SecurityManager"), accessFlags := 74, slot := 7, constantValue := 0 }, { name := "notSupportedJnuEncoding", type := (.object "java/lang/String"), accessFlags := 10, slot := 8, constantValue := 0 }, { name := "cons", type := (.object "java/io/Console"), accessFlags := 74, slot := 9, constantValue := 0 }, { name := "initialErrStream", type := (.object "java/io/PrintStream"), accessFlags := 74, slot := 10, constantValue := 0 }, { name := "props", type := (.object "java/util/Properties"), accessFlags := 10, slot := 11, constantValue := 0 }, { name := "lineSeparator", type := (.object "java/lang/String"), accessFlags := 10, slot := 12, constantValue := 0 }, { name := "bootLayer", type := (.object "java/lang/ModuleLayer"), accessFlags := 8, slot := 13, constantValue := 0 }]
  methods := #[k5m0, k5m1]
  instanceTypes := #[]
  staticTypes := #[(.object "java/io/InputStream"), (.object "java/io/PrintStream"), (.object "java/io/PrintStream"), (.object "java/io/InputStream"), .int, .int, .int, (.object "java/lang/SecurityManager"), (.object "java/lang/String"), (.object "java/io/Console"), (.object "java/io/PrintStream"), (.object "java/util/Properties"), (.object "java/lang/String"), (.object "java/lang/ModuleLayer")]
  resolved := Array.replicate 834 none
  statics := none }

def pool6 : Array CpInfo := pool [(1, u "java/io/Serializable"), (0, .class_ 1), (0, u "java/lang/Object"), (0, .class_ 3)] 3

/-- java/io/Serializable -/
def k6 : Class := { plain "java/io/Serializable" (some 0) with
  accessFlags := 1537
  interfaces := #[]
  cf := some (fileOf pool6 2 #[] #[] 1537 4 #[] #[])
  fields := #[]
  methods := #[]
  instanceTypes := #[]
  staticTypes := #[]
  resolved := Array.replicate 8 none
  statics := none }

/-- the primitive byte -/
def k7 : Class := { plain "byte" none with kind := .primitive 'B', accessFlags := 0x411 }
/-- [B -/
def k8 : Class := { plain "[B" (some 0) with kind := .array 7 .byte, interfaces := #[3, 6], accessFlags := 1041 }

/-- the primitive int -/
def k9 : Class := { plain "int" none with kind := .primitive 'I', accessFlags := 0x411 }
/-- [I -/
def k10 : Class := { plain "[I" (some 0) with kind := .array 9 .int, interfaces := #[3, 6], accessFlags := 1041 }

/-- the primitive long -/
def k11 : Class := { plain "long" none with kind := .primitive 'J', accessFlags := 0x411 }
/-- [J -/
def k12 : Class := { plain "[J" (some 0) with kind := .array 11 .long, interfaces := #[3, 6], accessFlags := 1041 }

def k13 : Class := { plain "[[J" (some 0) with kind := .array 12 (.array .long), interfaces := #[3, 6], accessFlags := 1041 }

def heap : Heap := #[]
def classes : Array Class := #[k0, k1, k2, k3, k4, k5, k6, k7, k8, k9, k10, k11, k12, k13]
def interned : List (Array UInt16 × Addr) := []
def slotsUsed : Nat := 0
def theMethod : MethodId := ⟨1, 1⟩
def args0 : Array Value := #[.int 2, .long 1, .long 2, .long 3, .long 4]
def aboutOver (below : List Frame) : State where
  vm := { classes := classes, interned := interned.toArray }
  heap := heap
  slotsUsed := slotsUsed
  threads := #[{ frames := .invoking theMethod args0 :: below }]
def below0 : List Frame := [.native { method := ⟨0, 0⟩, args := #[] }]
def about1 : State := aboutOver below0
def p0 : Program := .bare "" "" ""
def e0 : Env := launch0.env 0 0 0
theorem w_frames : about1.frames = Frame.invoking theMethod args0 :: below0 := rfl
set_option maxRecDepth 65536 in
theorem w_args : argsFit about1.vm theMethod args0 = true := by decide +kernel
set_option maxRecDepth 65536 in
theorem w_heap : heapFits about1 = true := by decide +kernel
set_option maxRecDepth 65536 in
theorem w_runnable : about1.curStatus? = some .runnable := by decide +kernel
set_option maxRecDepth 65536 in
theorem w_alone : about1.alone = true := by decide +kernel
set_option maxRecDepth 65536 in
theorem w_named : about1.methodNamed? x = some theMethod := by decide +kernel
set_option maxRecDepth 65536 in
theorem w_hears : about1.hears theMethod below0 = true := by decide +kernel
set_option maxRecDepth 65536 in
theorem w_ripe : about1.ripe theMethod args0 below0 = true := by decide +kernel
theorem w_running : about1.status = .running := rfl
set_option maxRecDepth 65536 in
theorem w_room : about1.hasRoom e0.platform room_1 = true :=
  launch0.hasRoom_least _ room_1 (by decide +kernel) (by decide +kernel) (by decide +kernel) (by decide +kernel) (by decide +kernel) (by decide +kernel)
theorem allAtoms_all (ts : List Jvm.Cond) (a : Array Jvm.Value) (st : Jvm.State) : (allAtoms ts).before a st = ts.all (fun c => c.before a st) := by
  induction ts with
  | nil => rfl
  | cons c t ih =>
    show (Jvm.Cond.and c (allAtoms t)).before a st = _
    rw [Jvm.Cond.before_and, ih, List.all_cons]
def words1 : List Jvm.Cond := Jvm.Cond.code x code maxLocals ret :: tables_1
/-- a 'code' word, met by the world's own term for the bytes: nothing is compared byte by byte -/
theorem code_word {y : MethodName} {bytes : ByteArray} {mx : Nat} {rt : Option FieldType} {a : Array Value} {s : State} {m : MethodId} {meth : Method} {c : Code} (h1 : s.methodNamed? y = some m) (h2 : s.vm.method? m = some meth) (h3 : meth.code = some c) (h4 : c.code = bytes)
    (h5 : (c.maxLocals == mx && c.exceptionTable.isEmpty && decide (c.maxStack ≤ mostOperands) && decide (meth.sig.returnType = rt) && !meth.locks && decide (parseMethodDescriptor y.desc = some meth.sig)) = true) : (Jvm.Cond.code y bytes mx rt).before a s = true := by
  simp only [Bool.and_eq_true, beq_iff_eq, Bool.not_eq_true', decide_eq_true_eq] at h5
  obtain ⟨⟨⟨⟨⟨g1, g2⟩, g3⟩, g4⟩, g5⟩, g6⟩ := h5
  simp [Cond.before, Cond.holds, Cond.value, h1, h2, h3, h4, g1, g2, g3, g4, g5, g6]
def isCode : Jvm.Cond → Bool
  | .code _ _ _ _ => true
  | _ => false
theorem all_split {L : List Jvm.Cond} {P : Jvm.Cond → Bool} (h1 : L.all (fun c => isCode c || P c) = true) (h2 : ∀ c ∈ L.filter isCode, P c = true) : L.all P = true := by
  refine List.all_eq_true.mpr fun c hc => ?_
  have h := List.all_eq_true.mp h1 c hc
  rcases Bool.eq_false_or_eq_true (isCode c) with hi | hi
  · exact h2 c (List.mem_filter.mpr ⟨hc, hi⟩)
  · simpa [hi] using h
set_option maxRecDepth 65536 in
theorem w_c0 : (Jvm.Cond.code x code maxLocals ret).before args0 about1 = true := code_word (m := ⟨1, 1⟩) (meth := k1m1) (c := k1c1) (by decide +kernel) rfl rfl rfl (by decide +kernel)
set_option maxRecDepth 65536 in
theorem w_c1 : (Jvm.Cond.code ({ cls := "com/example/rosterlink/rosterlink/model/IdChunks", name := "of", desc := "(I[J)Lcom/example/rosterlink/rosterlink/model/IdChunks;" } : Jvm.MethodName) prog_25_method_3_code (5 : Nat) (Option.some (Jvm.ClassFile.FieldType.object "com/example/rosterlink/rosterlink/model/IdChunks"))).before args0 about1 = true := code_word (m := ⟨2, 2⟩) (meth := k2m2) (c := k2c2) (by decide +kernel) rfl rfl rfl (by decide +kernel)
set_option maxRecDepth 65536 in
theorem w_c2 : (Jvm.Cond.code ({ cls := "com/example/rosterlink/rosterlink/model/IdChunks", name := "<init>", desc := "(I[[JI)V" } : Jvm.MethodName) prog_25_method_1_code (4 : Nat) (Option.none : Option Jvm.ClassFile.FieldType)).before args0 about1 = true := code_word (m := ⟨2, 0⟩) (meth := k2m0) (c := k2c0) (by decide +kernel) rfl rfl rfl (by decide +kernel)
set_option maxRecDepth 65536 in
theorem w_c3 : (Jvm.Cond.code ({ cls := "java/lang/Object", name := "<init>", desc := "()V" } : Jvm.MethodName) object_method_1_code (1 : Nat) (Option.none : Option Jvm.ClassFile.FieldType)).before args0 about1 = true := code_word (m := ⟨0, 0⟩) (meth := k0m0) (c := k0c0) (by decide +kernel) rfl rfl rfl (by decide +kernel)
set_option maxRecDepth 65536 in
theorem w_c4 : (Jvm.Cond.code ({ cls := "com/example/rosterlink/rosterlink/model/IdChunks", name := "empty", desc := "(I)Lcom/example/rosterlink/rosterlink/model/IdChunks;" } : Jvm.MethodName) prog_25_method_2_code (1 : Nat) (Option.some (Jvm.ClassFile.FieldType.object "com/example/rosterlink/rosterlink/model/IdChunks"))).before args0 about1 = true := code_word (m := ⟨2, 1⟩) (meth := k2m1) (c := k2c1) (by decide +kernel) rfl rfl rfl (by decide +kernel)
set_option maxRecDepth 65536 in
theorem w_c5 : (Jvm.Cond.code ({ cls := "com/example/rosterlink/rosterlink/model/IdChunks", name := "size", desc := "()I" } : Jvm.MethodName) prog_25_method_4_code (1 : Nat) (Option.some Jvm.ClassFile.FieldType.int)).before args0 about1 = true := code_word (m := ⟨2, 3⟩) (meth := k2m3) (c := k2c3) (by decide +kernel) rfl rfl rfl (by decide +kernel)
set_option maxRecDepth 65536 in
theorem w_c6 : (Jvm.Cond.code ({ cls := "com/example/rosterlink/rosterlink/model/IdChunks", name := "contains", desc := "(J)Z" } : Jvm.MethodName) prog_25_method_5_code (4 : Nat) (Option.some Jvm.ClassFile.FieldType.boolean)).before args0 about1 = true := code_word (m := ⟨2, 4⟩) (meth := k2m4) (c := k2c4) (by decide +kernel) rfl rfl rfl (by decide +kernel)
set_option maxRecDepth 65536 in
theorem w_c7 : (Jvm.Cond.code ({ cls := "com/example/rosterlink/rosterlink/model/IdChunks", name := "chunkFor", desc := "(J)I" } : Jvm.MethodName) prog_25_method_17_code (7 : Nat) (Option.some Jvm.ClassFile.FieldType.int)).before args0 about1 = true := code_word (m := ⟨2, 11⟩) (meth := k2m11) (c := k2c11) (by decide +kernel) rfl rfl rfl (by decide +kernel)
set_option maxRecDepth 65536 in
theorem w_c8 : (Jvm.Cond.code ({ cls := "com/example/rosterlink/rosterlink/model/IdChunks", name := "get", desc := "(J)[J" } : Jvm.MethodName) prog_25_method_6_code (5 : Nat) (Option.some (Jvm.ClassFile.FieldType.array Jvm.ClassFile.FieldType.long))).before args0 about1 = true := code_word (m := ⟨2, 5⟩) (meth := k2m5) (c := k2c5) (by decide +kernel) rfl rfl rfl (by decide +kernel)
set_option maxRecDepth 65536 in
theorem w_c9 : (Jvm.Cond.code ({ cls := "com/example/rosterlink/rosterlink/model/IdChunks", name := "without", desc := "(J)Lcom/example/rosterlink/rosterlink/model/IdChunks;" } : Jvm.MethodName) prog_25_method_8_code (10 : Nat) (Option.some (Jvm.ClassFile.FieldType.object "com/example/rosterlink/rosterlink/model/IdChunks"))).before args0 about1 = true := code_word (m := ⟨2, 7⟩) (meth := k2m7) (c := k2c7) (by decide +kernel) rfl rfl rfl (by decide +kernel)
set_option maxRecDepth 65536 in
theorem w_c10 : (Jvm.Cond.code ({ cls := "com/example/rosterlink/rosterlink/model/IdChunks", name := "equals", desc := "(Ljava/lang/Object;)Z" } : Jvm.MethodName) prog_25_method_13_code (4 : Nat) (Option.some Jvm.ClassFile.FieldType.boolean)).before args0 about1 = true := code_word (m := ⟨2, 9⟩) (meth := k2m9) (c := k2c9) (by decide +kernel) rfl rfl rfl (by decide +kernel)
set_option maxRecDepth 65536 in
theorem w_c11 : (Jvm.Cond.code ({ cls := "com/example/rosterlink/rosterlink/model/IdChunks", name := "sameLayout", desc := "(Lcom/example/rosterlink/rosterlink/model/IdChunks;)Z" } : Jvm.MethodName) prog_25_method_16_code (3 : Nat) (Option.some Jvm.ClassFile.FieldType.boolean)).before args0 about1 = true := code_word (m := ⟨2, 10⟩) (meth := k2m10) (c := k2c10) (by decide +kernel) rfl rfl rfl (by decide +kernel)
set_option maxRecDepth 65536 in
theorem w_c12 : (Jvm.Cond.code ({ cls := "com/example/rosterlink/rosterlink/model/IdChunks", name := "with", desc := "([J)Lcom/example/rosterlink/rosterlink/model/IdChunks;" } : Jvm.MethodName) prog_25_method_7_code (10 : Nat) (Option.some (Jvm.ClassFile.FieldType.object "com/example/rosterlink/rosterlink/model/IdChunks"))).before args0 about1 = true := code_word (m := ⟨2, 6⟩) (meth := k2m6) (c := k2c6) (by decide +kernel) rfl rfl rfl (by decide +kernel)
set_option maxRecDepth 65536 in
theorem w_c13 : (Jvm.Cond.code ({ cls := "com/example/rosterlink/rosterlink/model/IdChunks", name := "find", desc := "([JJ)I" } : Jvm.MethodName) prog_25_method_18_code (9 : Nat) (Option.some Jvm.ClassFile.FieldType.int)).before args0 about1 = true := code_word (m := ⟨2, 12⟩) (meth := k2m12) (c := k2c12) (by decide +kernel) rfl rfl rfl (by decide +kernel)
set_option maxRecDepth 65536 in
theorem w_c14 : (Jvm.Cond.code ({ cls := "java/util/Arrays", name := "copyOfRange", desc := "([JII)[J" } : Jvm.MethodName) jdk_65_method_138_code (3 : Nat) (Option.some (Jvm.ClassFile.FieldType.array Jvm.ClassFile.FieldType.long))).before args0 about1 = true := code_word (m := ⟨4, 1⟩) (meth := k4m1) (c := k4c1) (by decide +kernel) rfl rfl rfl (by decide +kernel)
set_option maxRecDepth 65536 in
theorem w_c15 : (Jvm.Cond.code ({ cls := "com/example/rosterlink/rosterlink/model/IdChunksEmptyPinLaw", name := "same", desc := "([J[J)Z" } : Jvm.MethodName) method_3_code (3 : Nat) (Option.some Jvm.ClassFile.FieldType.boolean)).before args0 about1 = true := code_word (m := ⟨1, 2⟩) (meth := k1m2) (c := k1c2) (by decide +kernel) rfl rfl rfl (by decide +kernel)
set_option maxRecDepth 65536 in
theorem w_c16 : (Jvm.Cond.code ({ cls := "com/example/rosterlink/rosterlink/model/IdChunks", name := "entries", desc := "()[J" } : Jvm.MethodName) prog_25_method_12_code (7 : Nat) (Option.some (Jvm.ClassFile.FieldType.array Jvm.ClassFile.FieldType.long))).before args0 about1 = true := code_word (m := ⟨2, 8⟩) (meth := k2m8) (c := k2c8) (by decide +kernel) rfl rfl rfl (by decide +kernel)
def codes1 : List Jvm.Cond := [Jvm.Cond.code x code maxLocals ret, Jvm.Cond.code ({ cls := "com/example/rosterlink/rosterlink/model/IdChunks", name := "of", desc := "(I[J)Lcom/example/rosterlink/rosterlink/model/IdChunks;" } : Jvm.MethodName) prog_25_method_3_code (5 : Nat) (Option.some (Jvm.ClassFile.FieldType.object "com/example/rosterlink/rosterlink/model/IdChunks")), Jvm.Cond.code ({ cls := "com/example/rosterlink/rosterlink/model/IdChunks", name := "<init>", desc := "(I[[JI)V" } : Jvm.MethodName) prog_25_method_1_code (4 : Nat) (Option.none : Option Jvm.ClassFile.FieldType), Jvm.Cond.code ({ cls := "java/lang/Object", name := "<init>", desc := "()V" } : Jvm.MethodName) object_method_1_code (1 : Nat) (Option.none : Option Jvm.ClassFile.FieldType), Jvm.Cond.code ({ cls := "com/example/rosterlink/rosterlink/model/IdChunks", name := "empty", desc := "(I)Lcom/example/rosterlink/rosterlink/model/IdChunks;" } : Jvm.MethodName) prog_25_method_2_code (1 : Nat) (Option.some (Jvm.ClassFile.FieldType.object "com/example/rosterlink/rosterlink/model/IdChunks")), Jvm.Cond.code ({ cls := "com/example/rosterlink/rosterlink/model/IdChunks", name := "size", desc := "()I" } : Jvm.MethodName) prog_25_method_4_code (1 : Nat) (Option.some Jvm.ClassFile.FieldType.int), Jvm.Cond.code ({ cls := "com/example/rosterlink/rosterlink/model/IdChunks", name := "contains", desc := "(J)Z" } : Jvm.MethodName) prog_25_method_5_code (4 : Nat) (Option.some Jvm.ClassFile.FieldType.boolean), Jvm.Cond.code ({ cls := "com/example/rosterlink/rosterlink/model/IdChunks", name := "chunkFor", desc := "(J)I" } : Jvm.MethodName) prog_25_method_17_code (7 : Nat) (Option.some Jvm.ClassFile.FieldType.int), Jvm.Cond.code ({ cls := "com/example/rosterlink/rosterlink/model/IdChunks", name := "get", desc := "(J)[J" } : Jvm.MethodName) prog_25_method_6_code (5 : Nat) (Option.some (Jvm.ClassFile.FieldType.array Jvm.ClassFile.FieldType.long)), Jvm.Cond.code ({ cls := "com/example/rosterlink/rosterlink/model/IdChunks", name := "without", desc := "(J)Lcom/example/rosterlink/rosterlink/model/IdChunks;" } : Jvm.MethodName) prog_25_method_8_code (10 : Nat) (Option.some (Jvm.ClassFile.FieldType.object "com/example/rosterlink/rosterlink/model/IdChunks")), Jvm.Cond.code ({ cls := "com/example/rosterlink/rosterlink/model/IdChunks", name := "equals", desc := "(Ljava/lang/Object;)Z" } : Jvm.MethodName) prog_25_method_13_code (4 : Nat) (Option.some Jvm.ClassFile.FieldType.boolean), Jvm.Cond.code ({ cls := "com/example/rosterlink/rosterlink/model/IdChunks", name := "sameLayout", desc := "(Lcom/example/rosterlink/rosterlink/model/IdChunks;)Z" } : Jvm.MethodName) prog_25_method_16_code (3 : Nat) (Option.some Jvm.ClassFile.FieldType.boolean), Jvm.Cond.code ({ cls := "com/example/rosterlink/rosterlink/model/IdChunks", name := "with", desc := "([J)Lcom/example/rosterlink/rosterlink/model/IdChunks;" } : Jvm.MethodName) prog_25_method_7_code (10 : Nat) (Option.some (Jvm.ClassFile.FieldType.object "com/example/rosterlink/rosterlink/model/IdChunks")), Jvm.Cond.code ({ cls := "com/example/rosterlink/rosterlink/model/IdChunks", name := "find", desc := "([JJ)I" } : Jvm.MethodName) prog_25_method_18_code (9 : Nat) (Option.some Jvm.ClassFile.FieldType.int), Jvm.Cond.code ({ cls := "java/util/Arrays", name := "copyOfRange", desc := "([JII)[J" } : Jvm.MethodName) jdk_65_method_138_code (3 : Nat) (Option.some (Jvm.ClassFile.FieldType.array Jvm.ClassFile.FieldType.long)), Jvm.Cond.code ({ cls := "com/example/rosterlink/rosterlink/model/IdChunksEmptyPinLaw", name := "same", desc := "([J[J)Z" } : Jvm.MethodName) method_3_code (3 : Nat) (Option.some Jvm.ClassFile.FieldType.boolean), Jvm.Cond.code ({ cls := "com/example/rosterlink/rosterlink/model/IdChunks", name := "entries", desc := "()[J" } : Jvm.MethodName) prog_25_method_12_code (7 : Nat) (Option.some (Jvm.ClassFile.FieldType.array Jvm.ClassFile.FieldType.long))]
set_option maxRecDepth 65536 in
theorem codes_eq : words1.filter isCode = codes1 := rfl
theorem w_codes : ∀ c ∈ words1.filter isCode, c.before args0 about1 = true := by
  rw [codes_eq]
  intro c hc
  simp only [codes1, List.mem_cons, List.not_mem_nil, or_false] at hc
  rcases hc with rfl | rfl | rfl | rfl | rfl | rfl | rfl | rfl | rfl | rfl | rfl | rfl | rfl | rfl | rfl | rfl | rfl
  · exact w_c0
  · exact w_c1
  · exact w_c2
  · exact w_c3
  · exact w_c4
  · exact w_c5
  · exact w_c6
  · exact w_c7
  · exact w_c8
  · exact w_c9
  · exact w_c10
  · exact w_c11
  · exact w_c12
  · exact w_c13
  · exact w_c14
  · exact w_c15
  · exact w_c16
set_option maxRecDepth 65536 in
theorem w_t1 : (words1.take 24).all (fun c => isCode c || c.before args0 about1) = true := by decide +kernel
set_option maxRecDepth 65536 in
theorem w_t2 : ((words1.drop 24).take 24).all (fun c => isCode c || c.before args0 about1) = true := by decide +kernel
set_option maxRecDepth 65536 in
theorem w_t3 : (((words1.drop 24).drop 24).take 24).all (fun c => isCode c || c.before args0 about1) = true := by decide +kernel
set_option maxRecDepth 65536 in
theorem w_t4 : (((words1.drop 24).drop 24).drop 24).all (fun c => isCode c || c.before args0 about1) = true := by decide +kernel
theorem w_tables : (allAtoms (Jvm.Cond.code x code maxLocals ret :: tables_1)).before args0 about1 = true := by
  rw [allAtoms_all]
  show words1.all (fun c => c.before args0 about1) = true
  refine all_split ?_ w_codes
  rw [← List.take_append_drop 24 words1, List.all_append, w_t1, ← List.take_append_drop 24 (words1.drop 24), List.all_append, w_t2, ← List.take_append_drop 24 ((words1.drop 24).drop 24), List.all_append, w_t3, w_t4]
  rfl
set_option maxRecDepth 65536 in
theorem w_case : (Jvm.Cond.and given_1 narrow_1).before args0 about1 = true := by decide +kernel
theorem w_applies : (headSpec (Jvm.Cond.code x code maxLocals ret :: tables_1) room_1).applies x e0.platform about1 = true :=
  (Spec.applies_iff w_frames).mpr ⟨w_running, w_runnable, w_alone, w_named, w_hears, w_ripe, w_room, w_tables⟩
theorem atStart : AtStart classFile x code maxLocals ret World_1 tables_1 room_1 Calls_1 rest_1 Pre_1 launch0 p0 e0 about1 theMethod args0 below0 :=
  ⟨lists_1, trivial, launch0.admits_env _ _ _, launch0.least_env, fairChoices_fair.cas, fairChoices_fair.clock, w_frames, w_args, w_heap, w_applies, trivial, trivial, w_case⟩
end start1
theorem witness_1 : WitnessClaimed_1 := ⟨start1.p0, start1.e0, start1.about1, start1.theMethod, start1.args0, start1.below0, start1.atStart⟩
end Jvm.Pilot.@@N@@
